import JvmDerived
import JvmDerived.Pilot.@@N@@Statement
import JvmDerived.Pilot.@@N@@Code
set_option linter.unusedVariables false
set_option linter.unusedSimpArgs false
namespace Jvm.RoadKit
open Sem ClassFile Op Lib Jvm.Stand Jvm.Free Jvm.LawKit
section New
variable {p : Program} {l : Launch} {e : Env} {R : Room} {s : State} {m : MethodId} {args : Array Value} {below : List Frame} {meth : Method} {c : Code} {T : State} {locs : List Loc} {cells slots : Nat}
theorem retI (X : Stand p l e R s m args below meth c T locs cells slots) (hx : p.tables.exec = Jvm.exec) {pc : Nat} {Ls : Array Slot} {z : Int32} {rest : List Value} (hret : meth.sig.returnType = some .int) (hd : decode c.code pc = .ok (.ireturn, 1)) {fs : List Frame}
    (hl : ∀ (f : JFrame) (acts : List Action), f.method = m → f.locked = none → f.entered = [] → (doReturn e (T.setTop f) acts (some (.int z))).1 = T.setFrames fs) : Steps p.tables e below (T.setTop (mkF m pc Ls (.int z :: rest))) (T.setFrames fs) := by
  have hm' : T.vm.method? m = some meth := X.method'
  have hn : narrow .int (.int z) = .int z := rfl
  show Steps p.tables e below (T.setTop { method := m, pc := pc, locals := Ls, stack := _ :: rest, locked := none }) _
  jvm_step X.here [X.here.top, hx, hd, hm', hret, hn]
  first | (intro acts; rw [hl _ acts rfl rfl rfl]) | rw [hl _ _ rfl rfl rfl]
  exact Steps.refl _
end New
end Jvm.RoadKit
namespace Jvm.Pilot.@@N@@
open Jvm Jvm.ClassFile Sem Op Lib Jvm.Free Jvm.Stand Jvm.LawKit Jvm.RoadKit Bundle Jvm.Pilot.@@N@@.Jvm.D

/-! the walk's goal: from this frame the run comes to its end, and Q holds of what it returns, of the heap and of the places written -/
def Fini (p : Program) (e : Env) (below : List Frame) (s : State) (Q : Option Value → Heap → List Loc → Prop) (C S : Nat) (T : State) (g : JFrame) : Prop :=
  ∃ s₂ o, Steps p.tables e below (T.setTop g) s₂ ∧ s₂.status = .running ∧ Ended s₂ below o ∧ ∃ v L, o = .returned v ∧ Q v s₂.heap L ∧ FrameEnd s o s₂ L C S
abbrev Cmet (l : Launch) (Z : State) (y : MethodName) (bytes : ByteArray) (ml : Nat) (ret : Option FieldType) (ws : List Jvm.Cond) (rm : Room) (as : Array Value) (h0 : Heap) (Q : Option Value → Heap → List Loc → Prop) : Prop :=
  MetFree l y (head1 (Jvm.Cond.code y bytes ml ret :: ws) rm) (fun a U => a = as ∧ Z.Warmed39 U.vm ∧ U.heap = h0) (fun _ _ _ _ _ => True) (fun _ U o U' => ∃ v L, o = .returned v ∧ Q v U'.heap L ∧ FrameEnd U o U' L rm.cells rm.slots)
section Own
variable {p : Program} {l : Launch} {e : Env} {R : Room} {s : State} {m : MethodId} {args : Array Value} {below : List Frame} {meth : Method} {c : Code} {T T' : State} {locs : List Loc} {cells slots : Nat} {Q : Option Value → Heap → List Loc → Prop} {C S : Nat} {g g' : JFrame} {Z : State} {a0 : Array Value} {h : Heap}
theorem Fini.st (k : ∀ t, Steps p.tables e below (T'.setTop g') t → Steps p.tables e below (T.setTop g) t) (f : Fini p e below s Q C S T' g') : Fini p e below s Q C S T g := by
  obtain ⟨s2, o, h1, r⟩ := f
  exact ⟨s2, o, k _ h1, r⟩
theorem Fini.cast (q : g = g') (f : Fini p e below s Q C S T g') : Fini p e below s Q C S T g := q ▸ f
theorem Fini.retI (X : Stand p l e R s m args below meth c T locs cells slots) (hx : p.tables.exec = Jvm.exec) (hl : meth.locks = false) (hret : meth.sig.returnType = some .int) {pc : Nat} {Ls : Array Slot} {z : Int32} {rest : List Value} (hd : decode c.code pc = .ok (.ireturn, 1))
    (hC : cells ≤ C) (hS : slots ≤ S) (hQ : Q (some (.int z)) T.heap locs) : Fini p e below s Q C S T (mkF m pc Ls (.int z :: rest)) := by
  obtain ⟨fs, hr, hrun, hended, hW, hsame⟩ := X.leave (v := some (.int z)) (fun h => by rw [hret] at h; cases h) hl
  exact ⟨_, _, Jvm.RoadKit.retI X hx hret hd hr, hrun, hended, _, _, rfl, hQ, ⟨_, rfl⟩, hW, hsame.mono hC hS⟩
theorem Fini.retN (X : Stand p l e R s m args below meth c T locs cells slots) (hx : p.tables.exec = Jvm.exec) (hl : meth.locks = false) {t : FieldType} (hret : meth.sig.returnType = some t) (ht : t = .boolean ∨ t = .byte ∨ t = .char ∨ t = .short) {pc : Nat} {Ls : Array Slot} {z z' : Int32} {rest : List Value} (hd : decode c.code pc = .ok (.ireturn, 1))
    (hz : nar t z = z') (hC : cells ≤ C) (hS : slots ≤ S) (hQ : Q (some (.int z')) T.heap locs) : Fini p e below s Q C S T (mkF m pc Ls (.int z :: rest)) := by
  subst hz
  obtain ⟨fs, hr, hrun, hended, hW, hsame⟩ := X.leave (v := some (.int (nar t z))) (fun h => by rw [hret] at h; cases h) hl
  exact ⟨_, _, Jvm.RoadKit.retN X hx hret ht hd hr, hrun, hended, _, _, rfl, hQ, ⟨_, rfl⟩, hW, hsame.mono hC hS⟩
theorem Fini.retJ (X : Stand p l e R s m args below meth c T locs cells slots) (hx : p.tables.exec = Jvm.exec) (hl : meth.locks = false) (hret : meth.sig.returnType = some .long) {pc : Nat} {Ls : Array Slot} {z : Int64} {rest : List Value} (hd : decode c.code pc = .ok (.lreturn, 1))
    (hC : cells ≤ C) (hS : slots ≤ S) (hQ : Q (some (.long z)) T.heap locs) : Fini p e below s Q C S T (mkF m pc Ls (.long z :: rest)) := by
  obtain ⟨fs, hr, hrun, hended, hW, hsame⟩ := X.leave (v := some (.long z)) (fun h => by rw [hret] at h; cases h) hl
  exact ⟨_, _, retOut X hx hret rfl (Or.inr (Or.inl ⟨rfl, rfl, z, rfl⟩)) hd hr, hrun, hended, _, _, rfl, hQ, ⟨_, rfl⟩, hW, hsame.mono hC hS⟩
theorem Fini.retA (X : Stand p l e R s m args below meth c T locs cells slots) (hx : p.tables.exec = Jvm.exec) (hl : meth.locks = false) {t : FieldType} (hret : meth.sig.returnType = some t) (ht : t.isReference = true) {pc : Nat} {Ls : Array Slot} {w : Value} {rest : List Value} (hd : decode c.code pc = .ok (.areturn, 1)) (hw : w.isRef = true) (hn : narrow t w = w)
    (hC : cells ≤ C) (hS : slots ≤ S) (hQ : Q (some w) T.heap locs) : Fini p e below s Q C S T (mkF m pc Ls (w :: rest)) := by
  obtain ⟨fs, hr, hrun, hended, hW, hsame⟩ := X.leave (v := some w) (fun h => by rw [hret] at h; cases h) hl
  exact ⟨_, _, retOut X hx hret hn (Or.inr (Or.inr (Or.inr (Or.inr ⟨rfl, ht, hw⟩)))) hd hr, hrun, hended, _, _, rfl, hQ, ⟨_, rfl⟩, hW, hsame.mono hC hS⟩
theorem Fini.ret0 (X : Stand p l e R s m args below meth c T locs cells slots) (hx : p.tables.exec = Jvm.exec) (hl : meth.locks = false) (hret : meth.sig.returnType = none) {pc : Nat} {Ls : Array Slot} (hd : decode c.code pc = .ok (.return_, 1))
    (hC : cells ≤ C) (hS : slots ≤ S) (hQ : Q none T.heap locs) : Fini p e below s Q C S T (mkF m pc Ls []) := by
  obtain ⟨fs, hr, hrun, hended, hW, hsame⟩ := X.leave (v := none) (fun _ => rfl) hl
  exact ⟨_, _, X.returnOut hx hret hd hr, hrun, hended, _, _, rfl, hQ, ⟨_, rfl⟩, hW, hsame.mono hC hS⟩
/-- a static call by its contract -/
theorem callQ (X : Stand p l e R s m args below meth c T locs cells slots) (hx : p.tables.exec = Jvm.exec) (hZ : Z.Warmed39 s.vm) {own : String} {index : Nat} {y : MethodName} {bytes : ByteArray} {maxL : Nat} {ret : Option FieldType} {rm : Room} {as : Array Value}
    (hown : s.vm.findClass own = some m.cls) (w1 : (Cond.methodLink own index y).before a0 Z = true) (w2 : (Cond.static y).before a0 Z = true) (w3 : (Cond.initialized y.cls).before a0 Z = true) (w4 : (Cond.code y bytes maxL ret).before a0 Z = true)
    (hy : y.cls ≠ "java/lang/invoke/MethodHandle" ∧ y.cls ≠ "java/lang/invoke/VarHandle") (M : Cmet l Z y bytes maxL ret [] rm as h Q) (eT : T.heap = h) {W : Nat} (hf : rm.frames + 1 ≤ R.frames) (hl : W + (maxL + 11) + rm.locals ≤ R.locals) (hc : cells + rm.cells ≤ R.cells) (hs : slots + rm.slots ≤ R.slots)
    (hg : g.method = m) (hsize : g.locals.size = c.maxLocals) {argsL rest : List Value} (has : argsL.toArray = as) (hlen : ∀ sig, parseMethodDescriptor y.desc = some sig → argsL.length = sig.parameters.length)
    (hstack : g.stack = argsL.reverse ++ rest) (hW : 2 * g.monitorRoom + (rest.map fun v => v.category).sum ≤ W) (hdg : decode c.code g.pc = .ok (.invokestatic index, 3)) :
    ∃ (v : Option Value) (T' : State) (L : List Loc), Stand p l e R s m args below meth c T' (locs ++ L) (cells + rm.cells) (slots + rm.slots) ∧ Q v T'.heap L ∧
      ∀ target, Steps p.tables e below (T'.setTop { g with pc := g.pc + 3, stack := v.toList ++ rest }) target → Steps p.tables e below (T.setTop g) target := by
  obtain ⟨v, vm1, ⟨T', L', c', n'⟩, -, X', ⟨L, hQ, q1, q2, q3⟩, st⟩ := Jvm.LawKit.callS X hx hown (mvT hZ w1) (mvT hZ w2) (mvT hZ w3) (mvT hZ w4) hy (backOf (W := W) M hZ w4 w3 hf hl) hg hsize hlen hstack hW hdg (fun _ _ => ⟨has, eT, hc, hs⟩)
  dsimp only [Pt.U, Pt.locs, Pt.cells, Pt.slots] at X' q1 q2 q3 st hQ
  subst q1 q2 q3
  exact ⟨v, T', L, X', hQ, st⟩
/-- a static call that leaves the heap as it was -/
theorem pureS (X : Stand p l e R s m args below meth c T locs cells slots) (hx : p.tables.exec = Jvm.exec) (hZ : Z.Warmed39 s.vm) {own : String} {index : Nat} {y : MethodName} {bytes : ByteArray} {maxL : Nat} {ret : Option FieldType} {fr lo : Nat} {as : Array Value} {w : Option Value}
    (hown : s.vm.findClass own = some m.cls) (w1 : (Cond.methodLink own index y).before a0 Z = true) (w2 : (Cond.static y).before a0 Z = true) (w3 : (Cond.initialized y.cls).before a0 Z = true) (w4 : (Cond.code y bytes maxL ret).before a0 Z = true)
    (hy : y.cls ≠ "java/lang/invoke/MethodHandle" ∧ y.cls ≠ "java/lang/invoke/VarHandle") (M : Cmet l Z y bytes maxL ret [] ({ frames := fr, cells := 0, slots := 0, locals := lo } : Room) as h (fun v h' L => v = w ∧ h' = h ∧ L = [])) (eT : T.heap = h) {W : Nat} (hf : fr + 1 ≤ R.frames) (hl : W + (maxL + 11) + lo ≤ R.locals) (hc : cells ≤ R.cells) (hs : slots ≤ R.slots)
    (hg : g.method = m) (hsize : g.locals.size = c.maxLocals) {argsL rest : List Value} (has : argsL.toArray = as) (hlen : ∀ sig, parseMethodDescriptor y.desc = some sig → argsL.length = sig.parameters.length)
    (hstack : g.stack = argsL.reverse ++ rest) (hW : 2 * g.monitorRoom + (rest.map fun v => v.category).sum ≤ W) (hdg : decode c.code g.pc = .ok (.invokestatic index, 3)) :
    ∃ (T' : State), Stand p l e R s m args below meth c T' locs cells slots ∧ T'.heap = h ∧
      ∀ target, Steps p.tables e below (T'.setTop { g with pc := g.pc + 3, stack := w.toList ++ rest }) target → Steps p.tables e below (T.setTop g) target := by
  obtain ⟨v, T', L, X', ⟨rfl, q, rfl⟩, st⟩ := callQ X hx hZ hown w1 w2 w3 w4 hy M eT (W := W) hf hl hc hs hg hsize has hlen hstack hW hdg
  rw [List.append_nil] at X'
  exact ⟨T', X', q, st⟩
/-- an instance method by the contract of the body that the receiver's class selects -/
theorem callV (X : Stand p l e R s m args below meth c T locs cells slots) (hx : p.tables.exec = Jvm.exec) (hZ : Z.Warmed39 s.vm) {own C' : String} {index : Nat} {y z : MethodName} {bytes : ByteArray} {maxL : Nat} {ret : Option FieldType} {rm : Room} {as : Array Value} {b : Addr}
    (hown : s.vm.findClass own = some m.cls) (w1 : (Cond.methodLink own index y).before a0 Z = true) (w2 : (Cond.declares y).before a0 Z = true) (w3 : (Cond.selects C' y z).before a0 Z = true) (w4 : (Cond.instanceMethod z).before a0 Z = true) (w5 : (Cond.initialized z.cls).before a0 Z = true) (w6 : (Cond.code z bytes maxL ret).before a0 Z = true)
    (nf : NotFace s y) (E : Exa Z h b C') (hy : y.cls ≠ "java/lang/invoke/MethodHandle" ∧ y.cls ≠ "java/lang/invoke/VarHandle") (M : Cmet l Z z bytes maxL ret [] rm as h Q) (eT : T.heap = h) {W : Nat} (hf : rm.frames + 1 ≤ R.frames) (hl : W + (maxL + 11) + rm.locals ≤ R.locals) (hc : cells + rm.cells ≤ R.cells) (hs : slots + rm.slots ≤ R.slots)
    (hg : g.method = m) (hsize : g.locals.size = c.maxLocals) {argsL rest : List Value} (has : (Value.ref b :: argsL).toArray = as) (hlen : ∀ sig, parseMethodDescriptor y.desc = some sig → argsL.length = sig.parameters.length)
    (hstack : g.stack = argsL.reverse ++ .ref b :: rest) (hW : 2 * g.monitorRoom + (rest.map fun v => v.category).sum ≤ W) (hdg : decode c.code g.pc = .ok (.invokevirtual index, 3)) :
    ∃ (v : Option Value) (T' : State) (L : List Loc), Stand p l e R s m args below meth c T' (locs ++ L) (cells + rm.cells) (slots + rm.slots) ∧ Q v T'.heap L ∧
      ∀ target, Steps p.tables e below (T'.setTop { g with pc := g.pc + 3, stack := v.toList ++ rest }) target → Steps p.tables e below (T.setTop g) target := by
  obtain ⟨cB, kB, q1, q2, q3⟩ := isOf hZ eT E
  obtain ⟨v, vm1, ⟨T', L', c', n'⟩, -, X', ⟨L, hQ, r1, r2, r3⟩, st⟩ := X.virtualBack hx hown (mvT hZ w1) (mvT hZ w2) nf (mvT hZ w3) (mvT hZ w4) hy (backOf (W := W) M hZ w6 w5 hf hl) q1 q3 hg hsize (Steps.refl _) hlen hstack hW hdg (fun _ _ => ⟨has, eT, hc, hs⟩)
  dsimp only [Pt.U, Pt.locs, Pt.cells, Pt.slots] at X' r1 r2 r3 st hQ
  subst r1 r2 r3
  exact ⟨v, T', L, X', hQ, fun _ k => st.trans k⟩
theorem pureV (X : Stand p l e R s m args below meth c T locs cells slots) (hx : p.tables.exec = Jvm.exec) (hZ : Z.Warmed39 s.vm) {own C' : String} {index : Nat} {y z : MethodName} {bytes : ByteArray} {maxL : Nat} {ret : Option FieldType} {fr lo : Nat} {as : Array Value} {b : Addr} {w : Option Value}
    (hown : s.vm.findClass own = some m.cls) (w1 : (Cond.methodLink own index y).before a0 Z = true) (w2 : (Cond.declares y).before a0 Z = true) (w3 : (Cond.selects C' y z).before a0 Z = true) (w4 : (Cond.instanceMethod z).before a0 Z = true) (w5 : (Cond.initialized z.cls).before a0 Z = true) (w6 : (Cond.code z bytes maxL ret).before a0 Z = true)
    (nf : NotFace s y) (E : Exa Z h b C') (hy : y.cls ≠ "java/lang/invoke/MethodHandle" ∧ y.cls ≠ "java/lang/invoke/VarHandle") (M : Cmet l Z z bytes maxL ret [] ({ frames := fr, cells := 0, slots := 0, locals := lo } : Room) as h (fun v h' L => v = w ∧ h' = h ∧ L = [])) (eT : T.heap = h) {W : Nat} (hf : fr + 1 ≤ R.frames) (hl : W + (maxL + 11) + lo ≤ R.locals) (hc : cells ≤ R.cells) (hs : slots ≤ R.slots)
    (hg : g.method = m) (hsize : g.locals.size = c.maxLocals) {argsL rest : List Value} (has : (Value.ref b :: argsL).toArray = as) (hlen : ∀ sig, parseMethodDescriptor y.desc = some sig → argsL.length = sig.parameters.length)
    (hstack : g.stack = argsL.reverse ++ .ref b :: rest) (hW : 2 * g.monitorRoom + (rest.map fun v => v.category).sum ≤ W) (hdg : decode c.code g.pc = .ok (.invokevirtual index, 3)) :
    ∃ (T' : State), Stand p l e R s m args below meth c T' locs cells slots ∧ T'.heap = h ∧
      ∀ target, Steps p.tables e below (T'.setTop { g with pc := g.pc + 3, stack := w.toList ++ rest }) target → Steps p.tables e below (T.setTop g) target := by
  obtain ⟨v, T', L, X', ⟨rfl, q, rfl⟩, st⟩ := callV X hx hZ hown w1 w2 w3 w4 w5 w6 nf E hy M eT (W := W) hf hl hc hs hg hsize has hlen hstack hW hdg
  rw [List.append_nil] at X'
  exact ⟨T', X', q, st⟩
/-- a constructor by its contract -/
theorem callNew (X : Stand p l e R s m args below meth c T locs cells slots) (hx : p.tables.exec = Jvm.exec) (hZ : Z.Warmed39 s.vm) {own : String} {index : Nat} {y : MethodName} {bytes : ByteArray} {maxL : Nat} {rm : Room} {as : Array Value} {b : Addr}
    (hown : s.vm.findClass own = some m.cls) (hy1 : y.name = "<init>") (w1 : (Cond.methodLink own index y).before a0 Z = true) (w2 : (Cond.instanceMethod y).before a0 Z = true) (w3 : (Cond.initialized y.cls).before a0 Z = true) (w4 : (Cond.code y bytes maxL none).before a0 Z = true)
    (hy : y.cls ≠ "java/lang/invoke/MethodHandle" ∧ y.cls ≠ "java/lang/invoke/VarHandle") (M : Cmet l Z y bytes maxL none [] rm as h Q) (eT : T.heap = h) {W : Nat} (hf : rm.frames + 1 ≤ R.frames) (hl : W + (maxL + 11) + rm.locals ≤ R.locals) (hc : cells + rm.cells ≤ R.cells) (hs : slots + rm.slots ≤ R.slots)
    (hg : g.method = m) (hsize : g.locals.size = c.maxLocals) {argsL rest : List Value} (has : (Value.ref b :: argsL).toArray = as) (hlen : ∀ sig, parseMethodDescriptor y.desc = some sig → argsL.length = sig.parameters.length)
    (hstack : g.stack = argsL.reverse ++ .ref b :: rest) (hW : 2 * g.monitorRoom + (rest.map fun v => v.category).sum ≤ W) (hdg : decode c.code g.pc = .ok (.invokespecial index, 3)) :
    ∃ (v : Option Value) (T' : State) (L : List Loc), Stand p l e R s m args below meth c T' (locs ++ L) (cells + rm.cells) (slots + rm.slots) ∧ Q v T'.heap L ∧
      ∀ target, Steps p.tables e below (T'.setTop { g with pc := g.pc + 3, stack := v.toList ++ rest }) target → Steps p.tables e below (T.setTop g) target := by
  obtain ⟨v, vm1, ⟨T', L', c', n'⟩, -, X', ⟨L, hQ, r1, r2, r3⟩, st⟩ := X.specialBack hx hy1 hown (mvT hZ w1) (mvT hZ w2) (mvT hZ w4) hy (backOf (W := W) M hZ w4 w3 hf hl) hg hsize (Steps.refl _) hlen hstack hW hdg (fun _ _ => ⟨has, eT, hc, hs⟩)
  dsimp only [Pt.U, Pt.locs, Pt.cells, Pt.slots] at X' r1 r2 r3 st hQ
  subst r1 r2 r3
  exact ⟨v, T', L, X', hQ, fun _ k => st.trans k⟩
theorem narrowR {C' : String} {v : Value} (hv : v.isRef = true) : narrow (.object C') v = v := by rcases ref_cases hv with rfl | ⟨a, rfl⟩ <;> rfl
theorem fitsR {C' : String} {v : Value} (hv : v.isRef = true) : fits (.object C') v = true := by rcases ref_cases hv with rfl | ⟨a, rfl⟩ <;> rfl
theorem nb0 : nar .boolean (0 : Int32) = 0 := by decide
theorem nb1 : nar .boolean (1 : Int32) = 1 := by decide
end Own
section Arrays
variable {p : Program} {l : Launch} {e : Env} {R : Room} {s : State} {m : MethodId} {args : Array Value} {below : List Frame} {meth : Method} {c : Code} {T T' : State} {locs : List Loc} {cells slots : Nat} {g : JFrame} {Z : State} {a0 : Array Value} {h h' : Heap} {a b : Addr} {ty : FieldType} {n j x : Int32} {rest : List Value} {ws : List Addr} {sl : Nat} {v : Value} {target : State}
/-- an array of ints (bytes, chars, ..), of longs, of references: its length and what lies at each place -/
def AryI (Z : State) (h : Heap) (a : Addr) (ty : FieldType) (n : Int32) (u : Nat → Int32) : Prop := ∃ cl : Cell, Arr Z h a cl ty ∧ cl.slots.size = n.toNatClampNeg ∧ ¬ n < 0 ∧ ∀ i, i < n.toNatClampNeg → cl.slots[i]? = some (.int (u i))
def AryJ (Z : State) (h : Heap) (a : Addr) (n : Int32) (u : Nat → Int64) : Prop := ∃ cl : Cell, Arr Z h a cl .long ∧ cl.slots.size = n.toNatClampNeg ∧ ¬ n < 0 ∧ ∀ i, i < n.toNatClampNeg → cl.slots[i]? = some (.long (u i))
def AryR (Z : State) (h : Heap) (a : Addr) (C : String) (n : Int32) (u : Nat → Value) : Prop := ∃ cl : Cell, Arr Z h a cl (.object C) ∧ cl.slots.size = n.toNatClampNeg ∧ ¬ n < 0 ∧ Ovr Z cl.cls C ∧ ∀ i, i < n.toNatClampNeg → cl.slots[i]? = some (u i)
def upd {A : Type} (u : Nat → A) (k : Nat) (x : A) : Nat → A := fun i => if i = k then x else u i
theorem upd_eq {A : Type} {u : Nat → A} {k i : Nat} {x : A} (q : i = k) : upd u k x i = x := if_pos q
theorem upd_ne {A : Type} {u : Nat → A} {k i : Nat} {x : A} (q : i ≠ k) : upd u k x i = u i := if_neg q
theorem nat_lt {j n : Int32} (q : ¬ j < 0 ∧ j < n) : j.toNatClampNeg < n.toNatClampNeg := by
  have h1 := nat_of q.1
  have h2 : j.toInt < n.toInt := Int32.lt_iff_toInt_lt.mp q.2
  have h3 : ¬ n < 0 := fun r => by
    have r' : n.toInt < 0 := Int32.lt_iff_toInt_lt.mp r
    omega
  have h4 := nat_of h3
  omega
theorem AryI.lt {u : Nat → Int32} (F : AryI Z h a ty n u) : a < h.size := by obtain ⟨_, A, -⟩ := F; exact A.lt
theorem AryJ.lt {u : Nat → Int64} (F : AryJ Z h a n u) : a < h.size := by obtain ⟨_, A, -⟩ := F; exact A.lt
theorem AryR.lt {C : String} {u : Nat → Value} (F : AryR Z h a C n u) : a < h.size := by obtain ⟨_, A, -⟩ := F; exact A.lt
theorem AryI.ext {u : Nat → Int32} (E : Ext h h') (F : AryI Z h a ty n u) : AryI Z h' a ty n u := by obtain ⟨cl, A, r⟩ := F; exact ⟨cl, A.ext E, r⟩
theorem AryJ.ext {u : Nat → Int64} (E : Ext h h') (F : AryJ Z h a n u) : AryJ Z h' a n u := by obtain ⟨cl, A, r⟩ := F; exact ⟨cl, A.ext E, r⟩
theorem AryR.ext {C : String} {u : Nat → Value} (E : Ext h h') (F : AryR Z h a C n u) : AryR Z h' a C n u := by obtain ⟨cl, A, r⟩ := F; exact ⟨cl, A.ext E, r⟩
theorem AryI.other {u : Nat → Int32} (W : Wr h h' b sl v) (F : AryI Z h a ty n u) (q : a ≠ b) : AryI Z h' a ty n u := by obtain ⟨cl, A, r⟩ := F; exact ⟨cl, A.other W q, r⟩
theorem AryJ.other {u : Nat → Int64} (W : Wr h h' b sl v) (F : AryJ Z h a n u) (q : a ≠ b) : AryJ Z h' a n u := by obtain ⟨cl, A, r⟩ := F; exact ⟨cl, A.other W q, r⟩
theorem AryR.other {C : String} {u : Nat → Value} (W : Wr h h' b sl v) (F : AryR Z h a C n u) (q : a ≠ b) : AryR Z h' a C n u := by obtain ⟨cl, A, r⟩ := F; exact ⟨cl, A.other W q, r⟩
theorem AryI.keep {u : Nat → Int32} (F : AryI Z h a ty n u) (K : Keep h h' ws) (q : a ∉ ws) : AryI Z h' a ty n u := by obtain ⟨cl, A, r⟩ := F; exact ⟨cl, ⟨K.2.1 a cl A.1 q, A.2⟩, r⟩
theorem AryJ.keep {u : Nat → Int64} (F : AryJ Z h a n u) (K : Keep h h' ws) (q : a ∉ ws) : AryJ Z h' a n u := by obtain ⟨cl, A, r⟩ := F; exact ⟨cl, ⟨K.2.1 a cl A.1 q, A.2⟩, r⟩
theorem AryR.keep {C : String} {u : Nat → Value} (F : AryR Z h a C n u) (K : Keep h h' ws) (q : a ∉ ws) : AryR Z h' a C n u := by obtain ⟨cl, A, r⟩ := F; exact ⟨cl, ⟨K.2.1 a cl A.1 q, A.2⟩, r⟩
theorem AryI.cast {u u' : Nat → Int32} (F : AryI Z h a ty n u) (q : ∀ i, i < n.toNatClampNeg → u i = u' i) : AryI Z h a ty n u' := by obtain ⟨cl, A, r1, r2, r3⟩ := F; exact ⟨cl, A, r1, r2, fun i hi => by rw [r3 i hi, q i hi]⟩
theorem AryJ.cast {u u' : Nat → Int64} (F : AryJ Z h a n u) (q : ∀ i, i < n.toNatClampNeg → u i = u' i) : AryJ Z h a n u' := by obtain ⟨cl, A, r1, r2, r3⟩ := F; exact ⟨cl, A, r1, r2, fun i hi => by rw [r3 i hi, q i hi]⟩
theorem AryI.new {cA : ClassId} (A : Arr Z h a (newA cA ty n) ty) (q : ¬ n < 0) (d : defaultValue ty = .int 0) : AryI Z h a ty n (fun _ => 0) := ⟨_, A, sz_new _ _ _, q, fun i hi => by simp [newA, d, hi]⟩
theorem AryJ.new {cA : ClassId} (A : Arr Z h a (newA cA .long n) .long) (q : ¬ n < 0) : AryJ Z h a n (fun _ => 0) := ⟨_, A, sz_new _ _ _, q, fun i hi => by
  have d : defaultValue .long = .long 0 := rfl
  simp [newA, d, hi]⟩
theorem AryR.new {C : String} {cA : ClassId} (A : Arr Z h a (newA cA (.object C) n) (.object C)) (O : Ovr Z cA C) (q : ¬ n < 0) : AryR Z h a C n (fun _ => .null) := ⟨_, A, sz_new _ _ _, q, O, fun i hi => by
  have d : defaultValue (.object C) = .null := rfl
  simp [newA, d, hi]⟩
theorem set_at {cl : Cell} {k i : Nat} {w : Value} (hk : k < cl.slots.size) : (cl.setSlot k w).slots[i]? = if i = k then some w else cl.slots[i]? := by
  by_cases q : i = k
  · subst q; simp [Cell.setSlot, hk]
  · rw [if_neg q]; simp [Cell.setSlot, Array.getElem?_setIfInBounds_ne (Ne.symm q)]
theorem AryI.len {u : Nat → Int32} (F : AryI Z h a ty n u) (X : Stand p l e R s m args below meth c T locs cells slots) (hx : p.tables.exec = Jvm.exec) (hZ : Z.Warmed39 s.vm) (eT : T.heap = h) (hg : g.method = m) (hs : g.stack = .ref a :: rest) (hd : decode c.code g.pc = .ok (.arraylength, 1)) (hr : Steps p.tables e below (T.setTop { g with pc := g.pc + 1, stack := .int n :: rest }) target) : Steps p.tables e below (T.setTop g) target := by
  obtain ⟨cl, A, S, N, H⟩ := F
  refine X.arraylength hx (by rw [eT]; exact A.1) (State.isArrayOf_alike hZ.alike A.2.1) hg hs hd _ ?_
  rw [len_of S N]; exact hr
theorem AryJ.len {u : Nat → Int64} (F : AryJ Z h a n u) (X : Stand p l e R s m args below meth c T locs cells slots) (hx : p.tables.exec = Jvm.exec) (hZ : Z.Warmed39 s.vm) (eT : T.heap = h) (hg : g.method = m) (hs : g.stack = .ref a :: rest) (hd : decode c.code g.pc = .ok (.arraylength, 1)) (hr : Steps p.tables e below (T.setTop { g with pc := g.pc + 1, stack := .int n :: rest }) target) : Steps p.tables e below (T.setTop g) target := by
  obtain ⟨cl, A, S, N, H⟩ := F
  refine X.arraylength hx (by rw [eT]; exact A.1) (State.isArrayOf_alike hZ.alike A.2.1) hg hs hd _ ?_
  rw [len_of S N]; exact hr
theorem AryI.loadI {u : Nat → Int32} (F : AryI Z h a .int n u) (X : Stand p l e R s m args below meth c T locs cells slots) (hx : p.tables.exec = Jvm.exec) (hZ : Z.Warmed39 s.vm) (eT : T.heap = h) (q : ¬ j < 0 ∧ j < n) (hg : g.method = m) (hs : g.stack = .int j :: .ref a :: rest) (hd : decode c.code g.pc = .ok (.iaload, 1)) (hr : Steps p.tables e below (T.setTop { g with pc := g.pc + 1, stack := .int (u j.toNatClampNeg) :: rest }) target) : Steps p.tables e below (T.setTop g) target := by
  obtain ⟨cl, A, S, N, H⟩ := F
  exact X.iaload hx (by rw [eT]; exact A.1) (State.isArrayOf_alike hZ.alike A.2.1) A.2.2 (inb_of S q) (H _ (nat_lt q)) hg hs hd _ hr
theorem AryI.loadB {u : Nat → Int32} (F : AryI Z h a .byte n u) (X : Stand p l e R s m args below meth c T locs cells slots) (hx : p.tables.exec = Jvm.exec) (hZ : Z.Warmed39 s.vm) (eT : T.heap = h) (q : ¬ j < 0 ∧ j < n) (hg : g.method = m) (hs : g.stack = .int j :: .ref a :: rest) (hd : decode c.code g.pc = .ok (.baload, 1)) (hr : Steps p.tables e below (T.setTop { g with pc := g.pc + 1, stack := .int (u j.toNatClampNeg) :: rest }) target) : Steps p.tables e below (T.setTop g) target := by
  obtain ⟨cl, A, S, N, H⟩ := F
  exact X.baloadBytes hx (by rw [eT]; exact A.1) (State.isArrayOf_alike hZ.alike A.2.1) A.2.2 (inb_of S q) (H _ (nat_lt q)) hg hs hd _ hr
theorem AryI.loadZ {u : Nat → Int32} (F : AryI Z h a .boolean n u) (X : Stand p l e R s m args below meth c T locs cells slots) (hx : p.tables.exec = Jvm.exec) (hZ : Z.Warmed39 s.vm) (eT : T.heap = h) (q : ¬ j < 0 ∧ j < n) (hg : g.method = m) (hs : g.stack = .int j :: .ref a :: rest) (hd : decode c.code g.pc = .ok (.baload, 1)) (hr : Steps p.tables e below (T.setTop { g with pc := g.pc + 1, stack := .int (u j.toNatClampNeg) :: rest }) target) : Steps p.tables e below (T.setTop g) target := by
  obtain ⟨cl, A, S, N, H⟩ := F
  exact X.baloadBooleans hx (by rw [eT]; exact A.1) (State.isArrayOf_alike hZ.alike A.2.1) A.2.2 (inb_of S q) (H _ (nat_lt q)) hg hs hd _ hr
theorem AryJ.load {u : Nat → Int64} (F : AryJ Z h a n u) (X : Stand p l e R s m args below meth c T locs cells slots) (hx : p.tables.exec = Jvm.exec) (hZ : Z.Warmed39 s.vm) (eT : T.heap = h) (q : ¬ j < 0 ∧ j < n) (hg : g.method = m) (hs : g.stack = .int j :: .ref a :: rest) (hd : decode c.code g.pc = .ok (.laload, 1)) (hr : Steps p.tables e below (T.setTop { g with pc := g.pc + 1, stack := .long (u j.toNatClampNeg) :: rest }) target) : Steps p.tables e below (T.setTop g) target := by
  obtain ⟨cl, A, S, N, H⟩ := F
  exact X.laload hx (by rw [eT]; exact A.1) (State.isArrayOf_alike hZ.alike A.2.1) A.2.2 (inb_of S q) (H _ (nat_lt q)) hg hs hd _ hr
theorem AryR.load {C : String} {u : Nat → Value} (F : AryR Z h a C n u) (X : Stand p l e R s m args below meth c T locs cells slots) (hx : p.tables.exec = Jvm.exec) (hZ : Z.Warmed39 s.vm) (eT : T.heap = h) (q : ¬ j < 0 ∧ j < n) (hg : g.method = m) (hs : g.stack = .int j :: .ref a :: rest) (hd : decode c.code g.pc = .ok (.aaload, 1)) (hr : Steps p.tables e below (T.setTop { g with pc := g.pc + 1, stack := u j.toNatClampNeg :: rest }) target) : Steps p.tables e below (T.setTop g) target := by
  obtain ⟨cl, A, S, N, O, H⟩ := F
  exact X.aaload hx (by rw [eT]; exact A.1) (State.isArrayOf_alike hZ.alike A.2.1) rfl A.2.2 (inb_of S q) (H _ (nat_lt q)) hg hs hd _ hr
theorem AryI.put {u : Nat → Int32} {cl : Cell} (A : Arr Z h a cl ty) (S : cl.slots.size = n.toNatClampNeg) (N : ¬ n < 0) (H : ∀ i, i < n.toNatClampNeg → cl.slots[i]? = some (.int (u i))) (q : ¬ j < 0 ∧ j < n) (W : Wr h h' a j.toNatClampNeg (.int x)) : AryI Z h' a ty n (upd u j.toNatClampNeg x) := by
  refine ⟨_, A.same W, by rw [sz_set]; exact S, N, fun i hi => ?_⟩
  rw [set_at (by rw [S]; exact nat_lt q)]
  by_cases r : i = j.toNatClampNeg
  · rw [if_pos r, upd_eq r]
  · rw [if_neg r, upd_ne r]; exact H i hi
theorem AryI.stI {u : Nat → Int32} (F : AryI Z h a .int n u) (X : Stand p l e R s m args below meth c T locs cells slots) (hx : p.tables.exec = Jvm.exec) (hZ : Z.Warmed39 s.vm) (eT : T.heap = h) (q : ¬ j < 0 ∧ j < n) (hg : g.method = m) (hs : g.stack = .int x :: .int j :: .ref a :: rest) (hd : decode c.code g.pc = .ok (.iastore, 1)) :
    ∃ T' h', Stand p l e R s m args below meth c T' (locs ++ [⟨a, j.toNatClampNeg⟩]) cells slots ∧ T'.heap = h' ∧ Wr h h' a j.toNatClampNeg (.int x) ∧ AryI Z h' a .int n (upd u j.toNatClampNeg x) ∧ ∀ target, Steps p.tables e below (T'.setTop { g with pc := g.pc + 1, stack := rest }) target → Steps p.tables e below (T.setTop g) target := by
  obtain ⟨cl, A, S, N, H⟩ := F
  obtain ⟨T', h', X', e', W, st⟩ := Jvm.RoadKit.stI X hx hZ eT A (inb_of S q) hg hs hd
  exact ⟨T', h', X', e', W, AryI.put A S N H q W, st⟩
theorem AryI.stB {u : Nat → Int32} (F : AryI Z h a .byte n u) (X : Stand p l e R s m args below meth c T locs cells slots) (hx : p.tables.exec = Jvm.exec) (hZ : Z.Warmed39 s.vm) (eT : T.heap = h) (q : ¬ j < 0 ∧ j < n) (hg : g.method = m) (hs : g.stack = .int x :: .int j :: .ref a :: rest) (hd : decode c.code g.pc = .ok (.bastore, 1)) :
    ∃ T' h', Stand p l e R s m args below meth c T' (locs ++ [⟨a, j.toNatClampNeg⟩]) cells slots ∧ T'.heap = h' ∧ Wr h h' a j.toNatClampNeg (.int (nar .byte x)) ∧ AryI Z h' a .byte n (upd u j.toNatClampNeg (nar .byte x)) ∧ ∀ target, Steps p.tables e below (T'.setTop { g with pc := g.pc + 1, stack := rest }) target → Steps p.tables e below (T.setTop g) target := by
  obtain ⟨cl, A, S, N, H⟩ := F
  obtain ⟨T', h', X', e', W, st⟩ := Jvm.RoadKit.stB X hx hZ eT A (inb_of S q) hg hs hd
  exact ⟨T', h', X', e', W, AryI.put A S N H q W, st⟩
theorem AryJ.st {u : Nat → Int64} {y : Int64} (F : AryJ Z h a n u) (X : Stand p l e R s m args below meth c T locs cells slots) (hx : p.tables.exec = Jvm.exec) (hZ : Z.Warmed39 s.vm) (eT : T.heap = h) (q : ¬ j < 0 ∧ j < n) (hg : g.method = m) (hs : g.stack = .long y :: .int j :: .ref a :: rest) (hd : decode c.code g.pc = .ok (.lastore, 1)) :
    ∃ T' h', Stand p l e R s m args below meth c T' (locs ++ [⟨a, j.toNatClampNeg⟩]) cells slots ∧ T'.heap = h' ∧ Wr h h' a j.toNatClampNeg (.long y) ∧ AryJ Z h' a n (upd u j.toNatClampNeg y) ∧ ∀ target, Steps p.tables e below (T'.setTop { g with pc := g.pc + 1, stack := rest }) target → Steps p.tables e below (T.setTop g) target := by
  obtain ⟨cl, A, S, N, H⟩ := F
  obtain ⟨T', h', X', e', W, st⟩ := Jvm.RoadKit.stJ X hx hZ eT A (inb_of S q) hg hs hd
  refine ⟨T', h', X', e', W, ⟨_, A.same W, by rw [sz_set]; exact S, N, fun i hi => ?_⟩, st⟩
  rw [set_at (by rw [S]; exact nat_lt q)]
  by_cases r : i = j.toNatClampNeg
  · rw [if_pos r, upd_eq r]
  · rw [if_neg r, upd_ne r]; exact H i hi
theorem AryR.st {C : String} {u : Nat → Value} (F : AryR Z h a C n u) (X : Stand p l e R s m args below meth c T locs cells slots) (hx : p.tables.exec = Jvm.exec) (hZ : Z.Warmed39 s.vm) (eT : T.heap = h) (q : ¬ j < 0 ∧ j < n) (hI : v = .null ∨ ∃ y, v = .ref y ∧ Ins Z h y C true) (hg : g.method = m) (hs : g.stack = v :: .int j :: .ref a :: rest) (hd : decode c.code g.pc = .ok (.aastore, 1)) :
    ∃ T' h', Stand p l e R s m args below meth c T' (locs ++ [⟨a, j.toNatClampNeg⟩]) cells slots ∧ T'.heap = h' ∧ Wr h h' a j.toNatClampNeg v ∧ AryR Z h' a C n (upd u j.toNatClampNeg v) ∧ ∀ target, Steps p.tables e below (T'.setTop { g with pc := g.pc + 1, stack := rest }) target → Steps p.tables e below (T.setTop g) target := by
  obtain ⟨cl, A, S, N, O, H⟩ := F
  have hS : Sto Z h a v := by
    rcases hI with r | ⟨y, rfl, r⟩
    · exact Or.inl r
    · exact Sto.of A O r
  obtain ⟨T', h', X', e', W, st⟩ := Jvm.RoadKit.stR X hx hZ eT A (inb_of S q) rfl hS hg hs hd
  refine ⟨T', h', X', e', W, ⟨_, A.same W, by rw [sz_set]; exact S, N, O, fun i hi => ?_⟩, st⟩
  rw [set_at (by rw [S]; exact nat_lt q)]
  by_cases r : i = j.toNatClampNeg
  · rw [if_pos r, upd_eq r]
  · rw [if_neg r, upd_ne r]; exact H i hi
end Arrays
/-! the same, where a String constant may have been resolved meanwhile: the walk stands over s with later tables -/
def FiniW (p : Program) (e : Env) (below : List Frame) (s : State) (Q : Option Value → Heap → List Loc → Prop) (C S : Nat) (T : State) (g : JFrame) : Prop :=
  ∃ s₂ o, Steps p.tables e below (T.setTop g) s₂ ∧ s₂.status = .running ∧ Ended s₂ below o ∧ ∃ v L, o = .returned v ∧ Q v s₂.heap L ∧ ReturnedEndW s o s₂ L C S
abbrev CmetW (l : Launch) (Z : State) (y : MethodName) (bytes : ByteArray) (ml : Nat) (ret : Option FieldType) (ws : List Jvm.Cond) (rm : Room) (as : Array Value) (h0 : Heap) (Q : Option Value → Heap → List Loc → Prop) : Prop :=
  MetFree l y (head1 (Jvm.Cond.code y bytes ml ret :: ws) rm) (fun a U => a = as ∧ Z.Warmed39 U.vm ∧ U.heap = h0) (fun _ _ _ _ _ => True) (fun _ U o U' => ∃ v L, o = .returned v ∧ Q v U'.heap L ∧ ReturnedEndW U o U' L rm.cells rm.slots)
section Wide
variable {p : Program} {l : Launch} {e : Env} {R : Room} {s : State} {m : MethodId} {args : Array Value} {below : List Frame} {meth : Method} {c : Code} {T T' : State} {locs : List Loc} {cells slots : Nat} {Q : Option Value → Heap → List Loc → Prop} {C S n : Nat} {g g' : JFrame} {Z : State} {a0 : Array Value} {h : Heap} {vm1 : Vm}
theorem FiniW.st (k : ∀ t, Steps p.tables e below (T'.setTop g') t → Steps p.tables e below (T.setTop g) t) (f : FiniW p e below s Q C S T' g') : FiniW p e below s Q C S T g := by
  obtain ⟨s2, o, h1, r⟩ := f
  exact ⟨s2, o, k _ h1, r⟩
theorem FiniW.cast (q : g = g') (f : FiniW p e below s Q C S T g') : FiniW p e below s Q C S T g := q ▸ f
theorem endW_mono {s t : State} {o : Outcome} {L : List Loc} {k n k' n' : Nat} (h : ReturnedEndW s o t L k n) (hk : k ≤ k') (hn : n ≤ n') : ReturnedEndW s o t L k' n' := ⟨h.1, h.2.1, h.2.2.1, h.2.2.2.mono hk hn⟩
theorem FiniW.retN (X : Stand p l e R (s.setVm vm1) m args below meth c T locs cells slots) (hx : p.tables.exec = Jvm.exec) (hl : meth.locks = false) {t : FieldType} (hret : meth.sig.returnType = some t) (ht : t = .boolean ∨ t = .byte ∨ t = .char ∨ t = .short) {pc : Nat} {Ls : Array Slot} {z z' : Int32} {rest : List Value} (hd : decode c.code pc = .ok (.ireturn, 1))
    (hz : nar t z = z') (hS : s.Since vm1 n) (hn : n ≤ T.heap.size) (hC : cells ≤ C) (hs : slots ≤ S) (hQ : Q (some (.int z')) T.heap locs) : FiniW p e below s Q C S T (mkF m pc Ls (.int z :: rest)) := by
  subst hz
  obtain ⟨fs, hr, hrun, hended, hW⟩ := X.leaveW hS hn (v := some (.int (nar t z))) (fun h => by rw [hret] at h; cases h) hl
  exact ⟨_, _, Jvm.RoadKit.retN X hx hret ht hd hr, hrun, hended, _, _, rfl, hQ, endW_mono hW hC hs⟩
theorem FiniW.ret0 (X : Stand p l e R (s.setVm vm1) m args below meth c T locs cells slots) (hx : p.tables.exec = Jvm.exec) (hl : meth.locks = false) (hret : meth.sig.returnType = none) {pc : Nat} {Ls : Array Slot} (hd : decode c.code pc = .ok (.return_, 1))
    (hS : s.Since vm1 n) (hn : n ≤ T.heap.size) (hC : cells ≤ C) (hs : slots ≤ S) (hQ : Q none T.heap locs) : FiniW p e below s Q C S T (mkF m pc Ls []) := by
  obtain ⟨fs, hr, hrun, hended, hW⟩ := X.leaveW hS hn (v := none) (fun _ => rfl) hl
  exact ⟨_, _, X.returnOut hx hret hd hr, hrun, hended, _, _, rfl, hQ, endW_mono hW hC hs⟩
/-- a constructor that may resolve a String constant -/
theorem callNewW (X : Stand p l e R (s.setVm vm1) m args below meth c T locs cells slots) (hx : p.tables.exec = Jvm.exec) (hZ : Z.Warmed39 (s.setVm vm1).vm) {own : String} {index : Nat} {y : MethodName} {bytes : ByteArray} {maxL : Nat} {rm : Room} {as : Array Value} {b : Addr}
    (hown : (s.setVm vm1).vm.findClass own = some m.cls) (hS : s.Since vm1 n) (hn : n ≤ h.size) (hy1 : y.name = "<init>") (w1 : (Cond.methodLink own index y).before a0 Z = true) (w2 : (Cond.instanceMethod y).before a0 Z = true) (w3 : (Cond.initialized y.cls).before a0 Z = true) (w4 : (Cond.code y bytes maxL none).before a0 Z = true)
    (hy : y.cls ≠ "java/lang/invoke/MethodHandle" ∧ y.cls ≠ "java/lang/invoke/VarHandle") (M : CmetW l Z y bytes maxL none [] rm as h Q) (eT : T.heap = h) {W : Nat} (hf : rm.frames + 1 ≤ R.frames) (hl : W + (maxL + 11) + rm.locals ≤ R.locals) (hc : cells + rm.cells ≤ R.cells) (hs : slots + rm.slots ≤ R.slots)
    (hg : g.method = m) (hsize : g.locals.size = c.maxLocals) {argsL rest : List Value} (has : (Value.ref b :: argsL).toArray = as) (hlen : ∀ sig, parseMethodDescriptor y.desc = some sig → argsL.length = sig.parameters.length)
    (hstack : g.stack = argsL.reverse ++ .ref b :: rest) (hW : 2 * g.monitorRoom + (rest.map fun v => v.category).sum ≤ W) (hdg : decode c.code g.pc = .ok (.invokespecial index, 3)) :
    ∃ (v : Option Value) (T' : State) (L : List Loc), Stand p l e R (s.setVm T'.vm) m args below meth c T' (locs ++ L) (cells + rm.cells) (slots + rm.slots) ∧ s.Since T'.vm T'.heap.size ∧ Z.Warmed39 (s.setVm T'.vm).vm ∧ (s.setVm T'.vm).vm.findClass own = some m.cls ∧ Q v T'.heap L ∧
      ∀ target, Steps p.tables e below (T'.setTop { g with pc := g.pc + 3, stack := v.toList ++ rest }) target → Steps p.tables e below (T.setTop g) target := by
  obtain ⟨v, vm2, ⟨T', L', c', n'⟩, -, X', hS', hgr, ⟨L, hQ, r1, r2, r3⟩, st⟩ := X.specialBackS hx hy1 hown (mvT hZ w1) (mvT hZ w2) (mvT hZ w4) hy (backOfS (W := W) M hZ w4 w3 hf hl) hg hsize (Steps.refl _) hlen hstack hW hdg (fun _ _ => ⟨has, eT, hc, hs⟩)
  dsimp only [Pt.U, Pt.locs, Pt.cells, Pt.slots] at X' r1 r2 r3 st hQ hS' hgr
  subst r1 r2 r3
  obtain ⟨Y, q1, q2, q3⟩ := rebS (n1 := T.heap.size) hS (by rw [eT]; exact hn) X' hS' hgr hZ hown
  exact ⟨v, T', L, Y, q1, q2, q3, hQ, fun _ k => st.trans k⟩
end Wide
theorem own_wS {a0 : Array Value} {Z : State} (hw : ∀ d ∈ tables_1, d.before a0 Z = true) : ∀ d ∈ Bundle.stringAtoms, d.before a0 Z = true := fun d hd => by
  have hd' : d ∈ ([.initialized "java/lang/String", .instantiable "java/lang/String" 4, .arrayClass .byte, .laysFinal "java/lang/String" "java/lang/String" "value" "[B", .laysFinal "java/lang/String" "java/lang/String" "coder" "B", .soleField "java/lang/String" "value", .soleField "java/lang/String" "coder"] : List Jvm.Cond) := hd
  simp only [List.mem_cons, List.not_mem_nil, or_false] at hd'
  rcases hd' with rfl | rfl | rfl | rfl | rfl | rfl | rfl
  · exact (hw _ (List.mem_of_getElem? (i := 12) rfl))
  · exact (hw _ (List.mem_of_getElem? (i := 13) rfl))
  · exact (hw _ (List.mem_of_getElem? (i := 1) rfl))
  · exact (hw _ (List.mem_of_getElem? (i := 14) rfl))
  · exact (hw _ (List.mem_of_getElem? (i := 15) rfl))
  · exact (hw _ (List.mem_of_getElem? (i := 16) rfl))
  · exact (hw _ (List.mem_of_getElem? (i := 17) rfl))
theorem d3_0 : decode jdk_31_method_11_code 0 = .ok (.aload_n 0, 1) := by decide +kernel
theorem d3_1 : decode jdk_31_method_11_code 1 = .ok (.ifnonnull 12, 3) := by decide +kernel
theorem d3_13 : decode jdk_31_method_11_code 13 = .ok (.aload_n 0, 1) := by decide +kernel
theorem d3_14 : decode jdk_31_method_11_code 14 = .ok (.areturn, 1) := by decide +kernel
theorem pn_0 : plainName "java/util/Objects" = true := by first | (simp [plainName, overriddenIn]; done) | decide +kernel
theorem ef3 (m : MethodId) (x0 : Addr) (x1 : Addr) : entryFrame m #[(.ref x0), (.ref x1)] 2 = mkF m 0 #[.val (.ref x0), .val (.ref x1)] [] := by first | (simp [entryFrame, mkF, argsToLocals, Value.category]; done) | rfl
set_option maxRecDepth 65536 in
set_option maxHeartbeats 40000000 in
theorem rm3 (l : Launch) (Z : State) (a0 : Array Value) (hw : ∀ d ∈ tables_1, d.before a0 Z = true) (ws : List Jvm.Cond) (o0 : Addr) (o1 : Addr) (h0 : Heap) (n0 : Nat) (Z0 : n0 ≤ h0.size) :
    Cmet l Z (⟨"java/util/Objects", "requireNonNull", "(Ljava/lang/Object;Ljava/lang/String;)Ljava/lang/Object;"⟩ : MethodName) jdk_31_method_11_code 2 (some (.object "java/lang/Object")) ws ({ frames := 0, cells := 0, slots := 0, locals := 0 } : Room) #[(.ref o0), (.ref o1)] h0 (fun v h' L => v = some (.ref o0) ∧ h' = h0 ∧ L = []) := by
  refine MetFree.of_bodySF (plainFor_of_name pn_0) hisR ?_
  intro p e s m args below meth c s₁ Bd hml0 hP hK
  obtain ⟨rfl, hZ, hh⟩ := hP
  have hx := Bd.exec
  have hlk : meth.locks = false := BodyLoose.notSynchronized Bd
  have hby := Bd.bytes
  have hml : c.maxLocals = 2 := hml0
  have hown : s.vm.findClass "java/util/Objects" = some m.cls := findClass_of_methodNamed Bd.named
  have hnm := (name_of_methodNamed Bd.named Bd.method).1
  have X0 : Stand p l e ({ frames := 0, cells := 0, slots := 0, locals := 0 } : Room) s m #[(.ref o0), (.ref o1)] below meth c s₁ [] 0 0 := Stand.of_body Bd
  have e0 : s₁.heap = h0 := by rw [← hh, Bd.state]; rfl
  have N0 := Fr.nil n0
  show Fini p e below s (fun v h' L => v = some (.ref o0) ∧ h' = h0 ∧ L = []) _ _ s₁ (entryFrame m #[(.ref o0), (.ref o1)] 2)
  refine Fini.cast (ef3 m o0 o1) ?_
  show Fini p e below s _ _ _ s₁ (mkF m 0 #[.val (.ref o0), .val (.ref o1)] [])
  refine Fini.st (fun _ k => XS.aloadN X0.here hx rfl (hb hby d3_0) rfl rfl k) ?_
  show Fini p e below s _ _ _ s₁ (mkF m 1 #[.val (.ref o0), .val (.ref o1)] [(.ref o0)])
  refine Fini.st (fun _ k => XS.ifnonnullYes X0.here hx rfl (pc0 := 1) (pc' := 13) rfl (hb hby d3_1) rfl (by decide) (by decide) k) ?_
  show Fini p e below s _ _ _ s₁ (mkF m 13 #[.val (.ref o0), .val (.ref o1)] [])
  refine Fini.st (fun _ k => XS.aloadN X0.here hx rfl (hb hby d3_13) rfl rfl k) ?_
  show Fini p e below s _ _ _ s₁ (mkF m 14 #[.val (.ref o0), .val (.ref o1)] [(.ref o0)])
  exact Fini.retA X0 hx hlk Bd.returns rfl (hb hby d3_14) rfl rfl (by decide) (by decide) ⟨rfl, e0, rfl⟩
theorem pd_0 : parseMethodDescriptor "(Ljava/lang/Object;Ljava/lang/String;)Ljava/lang/Object;" = some ⟨[(.object "java/lang/Object"), (.object "java/lang/String")], some (.object "java/lang/Object")⟩ := by decide +kernel
theorem d1_0 : decode prog_68_method_1_code 0 = .ok (.aload_n 0, 1) := by decide +kernel
theorem d1_1 : decode prog_68_method_1_code 1 = .ok (.invokespecial 3, 3) := by decide +kernel
theorem d1_4 : decode prog_68_method_1_code 4 = .ok (.aload_n 0, 1) := by decide +kernel
theorem d1_5 : decode prog_68_method_1_code 5 = .ok (.aload_n 1, 1) := by decide +kernel
theorem d1_6 : decode prog_68_method_1_code 6 = .ok (.ldc 9, 2) := by decide +kernel
theorem d1_8 : decode prog_68_method_1_code 8 = .ok (.invokestatic 11, 3) := by decide +kernel
theorem d1_11 : decode prog_68_method_1_code 11 = .ok (.checkcast 17, 3) := by decide +kernel
theorem d1_14 : decode prog_68_method_1_code 14 = .ok (.putfield 19, 3) := by decide +kernel
theorem d1_17 : decode prog_68_method_1_code 17 = .ok (.return_, 1) := by decide +kernel
theorem pn_1 : plainName "com/example/rights_after_actions/rightsafteractions/io/TextFile$Lines" = true := by first | (simp [plainName, overriddenIn]; done) | decide +kernel
theorem ef1 (m : MethodId) (x0 : Addr) (x1 : Addr) : entryFrame m #[(.ref x0), (.ref x1)] 2 = mkF m 0 #[.val (.ref x0), .val (.ref x1)] [] := by first | (simp [entryFrame, mkF, argsToLocals, Value.category]; done) | rfl
set_option maxRecDepth 65536 in
set_option maxHeartbeats 40000000 in
theorem rm1 (l : Launch) (Z : State) (a0 : Array Value) (hw : ∀ d ∈ tables_1, d.before a0 Z = true) (ws : List Jvm.Cond) (o0 : Addr) (o1 : Addr) (nu : Int32) (st : Int32) (en : Int32) (nx : Int32) (h0 : Heap) (n0 : Nat) (Z0 : n0 ≤ h0.size) (E_o0 : Exa Z h0 o0 "com/example/rights_after_actions/rightsafteractions/io/TextFile$Lines") (F_content : Fld Z h0 o0 "com/example/rights_after_actions/rightsafteractions/io/TextFile$Lines" "content" "[B" .null) (F_number : Fld Z h0 o0 "com/example/rights_after_actions/rightsafteractions/io/TextFile$Lines" "number" "I" (.int nu)) (F_start : Fld Z h0 o0 "com/example/rights_after_actions/rightsafteractions/io/TextFile$Lines" "start" "I" (.int st)) (F_end : Fld Z h0 o0 "com/example/rights_after_actions/rightsafteractions/io/TextFile$Lines" "end" "I" (.int en)) (F_next : Fld Z h0 o0 "com/example/rights_after_actions/rightsafteractions/io/TextFile$Lines" "next" "I" (.int nx)) (E_o1 : Exa Z h0 o1 "[B") (g0 : n0 ≤ o0) :
    CmetW l Z (⟨"com/example/rights_after_actions/rightsafteractions/io/TextFile$Lines", "<init>", "([B)V"⟩ : MethodName) prog_68_method_1_code 2 none ws ({ frames := 1, cells := 2, slots := 32, locals := 14 } : Room) #[(.ref o0), (.ref o1)] h0 (fun v h' L => v = none ∧ Fr n0 L ∧ Keep h0 h' [o0] ∧ Fld Z h' o0 "com/example/rights_after_actions/rightsafteractions/io/TextFile$Lines" "content" "[B" (.ref o1) ∧ Fld Z h' o0 "com/example/rights_after_actions/rightsafteractions/io/TextFile$Lines" "number" "I" (.int nu) ∧ Fld Z h' o0 "com/example/rights_after_actions/rightsafteractions/io/TextFile$Lines" "start" "I" (.int st) ∧ Fld Z h' o0 "com/example/rights_after_actions/rightsafteractions/io/TextFile$Lines" "end" "I" (.int en) ∧ Fld Z h' o0 "com/example/rights_after_actions/rightsafteractions/io/TextFile$Lines" "next" "I" (.int nx)) := by
  refine MetFree.of_bodySF (plainFor_of_name pn_1) hisR ?_
  intro p e s m args below meth c s₁ Bd hml0 hP hK
  obtain ⟨rfl, hZ, hh⟩ := hP
  have hx := Bd.exec
  have hlk : meth.locks = false := BodyLoose.notSynchronized Bd
  have hby := Bd.bytes
  have hml : c.maxLocals = 2 := hml0
  have hown : s.vm.findClass "com/example/rights_after_actions/rightsafteractions/io/TextFile$Lines" = some m.cls := findClass_of_methodNamed Bd.named
  have hnm := (name_of_methodNamed Bd.named Bd.method).1
  have X0 : Stand p l e ({ frames := 1, cells := 2, slots := 32, locals := 14 } : Room) (s.setVm s.vm) m #[(.ref o0), (.ref o1)] below meth c s₁ [] 0 0 := Stand.of_body Bd
  have e0 : s₁.heap = h0 := by rw [← hh, Bd.state]; rfl
  have N0 := Fr.nil n0
  have hS0 : s.Since s.vm 0 := (State.WarmedH.refl s).since 0
  show FiniW p e below s (fun v h' L => v = none ∧ Fr n0 L ∧ Keep h0 h' [o0] ∧ Fld Z h' o0 "com/example/rights_after_actions/rightsafteractions/io/TextFile$Lines" "content" "[B" (.ref o1) ∧ Fld Z h' o0 "com/example/rights_after_actions/rightsafteractions/io/TextFile$Lines" "number" "I" (.int nu) ∧ Fld Z h' o0 "com/example/rights_after_actions/rightsafteractions/io/TextFile$Lines" "start" "I" (.int st) ∧ Fld Z h' o0 "com/example/rights_after_actions/rightsafteractions/io/TextFile$Lines" "end" "I" (.int en) ∧ Fld Z h' o0 "com/example/rights_after_actions/rightsafteractions/io/TextFile$Lines" "next" "I" (.int nx)) _ _ s₁ (entryFrame m #[(.ref o0), (.ref o1)] 2)
  refine FiniW.cast (ef1 m o0 o1) ?_
  show FiniW p e below s _ _ _ s₁ (mkF m 0 #[.val (.ref o0), .val (.ref o1)] [])
  refine FiniW.st (fun _ k => XS.aloadN X0.here hx rfl (hb hby d1_0) rfl rfl k) ?_
  show FiniW p e below s _ _ _ s₁ (mkF m 1 #[.val (.ref o0), .val (.ref o1)] [(.ref o0)])
  obtain ⟨T1, X1, e1, st1⟩ := initO X0 hx hZ hown (hw _ (List.mem_of_getElem? (i := 8) rfl)) (hw _ (List.mem_of_getElem? (i := 9) rfl)) (hw _ (List.mem_of_getElem? (i := 10) rfl)) e0 (g := (mkF m 1 #[.val (.ref o0), .val (.ref o1)] [(.ref o0)])) rfl (by rw [hml]; rfl) rfl (hb hby d1_1) (by decide) (W := 0) (by show 2 * 0 + _ ≤ _; exact Nat.le_of_eq rfl) (by decide)
  refine FiniW.st st1 ?_
  show FiniW p e below s _ _ _ T1 (mkF m 4 #[.val (.ref o0), .val (.ref o1)] [])
  refine FiniW.st (fun _ k => XS.aloadN X1.here hx rfl (hb hby d1_4) rfl rfl k) ?_
  show FiniW p e below s _ _ _ T1 (mkF m 5 #[.val (.ref o0), .val (.ref o1)] [(.ref o0)])
  refine FiniW.st (fun _ k => XS.aloadN X1.here hx rfl (hb hby d1_5) rfl rfl k) ?_
  show FiniW p e below s _ _ _ T1 (mkF m 6 #[.val (.ref o0), .val (.ref o1)] [(.ref o1), (.ref o0)])
  obtain ⟨a2, T2, h2, k2, X2, e2, E2, hS2, hk2, hZ2, hown2, st2⟩ := ldcS X1 hx hZ hown (hw _ (List.mem_of_getElem? (i := 11) rfl)) (own_wS hw) e1 hS0 (Nat.zero_le _) (g := (mkF m 6 #[.val (.ref o0), .val (.ref o1)] [(.ref o1), (.ref o0)])) rfl (hb hby d1_6) (n := 28) (by decide) (by decide) (by decide) (by decide)
  refine FiniW.st st2 ?_
  have hZ := hZ2
  have hown := hown2
  show FiniW p e below s _ _ _ T2 (mkF m 8 #[.val (.ref o0), .val (.ref o1)] [(.ref a2), (.ref o1), (.ref o0)])
  have Zs_4 : n0 ≤ h2.size := (Nat.le_trans Z0 E2.1)
  obtain ⟨v3, T3, L3, X3, hQ3, st3⟩ := callQ X2 hx hZ hown (hw _ (List.mem_of_getElem? (i := 18) rfl)) (hw _ (List.mem_of_getElem? (i := 19) rfl)) (hw _ (List.mem_of_getElem? (i := 20) rfl)) (hw _ (List.mem_of_getElem? (i := 21) rfl)) (by decide) (rm3 l Z a0 hw [] o1 a2 h2 n0 Zs_4) e2 (W := 1) (by decide) (by decide) (by decide) (by decide) (g := (mkF m 8 #[.val (.ref o0), .val (.ref o1)] [(.ref a2), (.ref o1), (.ref o0)])) rfl (by rw [hml]; rfl) (argsL := [(.ref o1), (.ref a2)]) (rest := [(.ref o0)]) rfl (lenOf pd_0 rfl) rfl (by show 2 * 0 + _ ≤ _; exact Nat.le_of_eq rfl) (hb hby d1_8)
  obtain ⟨rfl, hh3, rfl⟩ := hQ3
  have K3 : Keep h2 T3.heap [] := by rw [hh3]; exact Keep.refl _ _
  have Nq3 := Fr.nil n0
  have N3 := Fr.app N0 Nq3
  refine FiniW.st st3 ?_
  show FiniW p e below s _ _ _ T3 (mkF m 11 #[.val (.ref o0), .val (.ref o1)] [(.ref o1), (.ref o0)])
  have Ex_6 : Exa Z T3.heap o1 "[B" := ((E_o1.ext E2).keep K3)
  obtain ⟨T5, X5, e5, st5⟩ := castY X3 hx hZ hown (hw _ (List.mem_of_getElem? (i := 22) rfl)) rfl (Ins.self Ex_6) (g := (mkF m 11 #[.val (.ref o0), .val (.ref o1)] [(.ref o1), (.ref o0)])) rfl rfl (hb hby d1_11)
  refine FiniW.st st5 ?_
  show FiniW p e below s _ _ _ T5 (mkF m 14 #[.val (.ref o0), .val (.ref o1)] [(.ref o1), (.ref o0)])
  have F_8 : Fld Z T3.heap o0 "com/example/rights_after_actions/rightsafteractions/io/TextFile$Lines" "content" "[B" .null := ((F_content.ext E2).keep K3 nin0)
  have Ex_9 : Exa Z T3.heap o0 "com/example/rights_after_actions/rightsafteractions/io/TextFile$Lines" := ((E_o0.ext E2).keep K3)
  obtain ⟨T7, h7, X7, e7, W7, st7⟩ := putF X5 hx hZ hown (host := "") (Or.inl (hw _ (List.mem_of_getElem? (i := 24) rfl))) Via.refl e5 F_8 Ex_9 (Or.inr ⟨(hw _ (List.mem_of_getElem? (i := 25) rfl)), rfl, hnm⟩) (hw _ (List.mem_of_getElem? (i := 3) rfl)) (ty := (.array .byte)) (by decide) rfl rfl (g := (mkF m 14 #[.val (.ref o0), .val (.ref o1)] [(.ref o1), (.ref o0)])) rfl rfl (hb hby d1_14)
  have Fw7 : Fld Z h7 o0 "com/example/rights_after_actions/rightsafteractions/io/TextFile$Lines" "content" "[B" (.ref o1) := F_8.same W7
  refine FiniW.st st7 ?_
  have N7 := Fr.snoc X7 N3 g0
  show FiniW p e below s _ _ _ T7 (mkF m 17 #[.val (.ref o0), .val (.ref o1)] [])
  have Kp_10 : Keep h0 h7 [o0] := (Keep.wr (Keep.trans (Keep.ext (Keep.refl h0 [o0]) E2) K3 all0) W7 (Or.inl (List.mem_of_getElem? (i := 0) rfl)))
  have F_11 : Fld Z h7 o0 "com/example/rights_after_actions/rightsafteractions/io/TextFile$Lines" "number" "I" (.int nu) := (((F_number.ext E2).keep K3 nin0).other W7 (Or.inr (slot_ne (Or.inl (hw _ (List.mem_of_getElem? (i := 36) rfl))) (Or.inr (hw _ (List.mem_of_getElem? (i := 25) rfl))) (by decide) (t := .int) (t' := (.array .byte)) (by decide) (by decide))))
  have F_12 : Fld Z h7 o0 "com/example/rights_after_actions/rightsafteractions/io/TextFile$Lines" "start" "I" (.int st) := (((F_start.ext E2).keep K3 nin0).other W7 (Or.inr (slot_ne (Or.inl (hw _ (List.mem_of_getElem? (i := 43) rfl))) (Or.inr (hw _ (List.mem_of_getElem? (i := 25) rfl))) (by decide) (t := .int) (t' := (.array .byte)) (by decide) (by decide))))
  have F_13 : Fld Z h7 o0 "com/example/rights_after_actions/rightsafteractions/io/TextFile$Lines" "end" "I" (.int en) := (((F_end.ext E2).keep K3 nin0).other W7 (Or.inr (slot_ne (Or.inl (hw _ (List.mem_of_getElem? (i := 50) rfl))) (Or.inr (hw _ (List.mem_of_getElem? (i := 25) rfl))) (by decide) (t := .int) (t' := (.array .byte)) (by decide) (by decide))))
  have F_14 : Fld Z h7 o0 "com/example/rights_after_actions/rightsafteractions/io/TextFile$Lines" "next" "I" (.int nx) := (((F_next.ext E2).keep K3 nin0).other W7 (Or.inr (slot_ne (Or.inl (hw _ (List.mem_of_getElem? (i := 57) rfl))) (Or.inr (hw _ (List.mem_of_getElem? (i := 25) rfl))) (by decide) (t := .int) (t' := (.array .byte)) (by decide) (by decide))))
  have Zs_15 : k2 ≤ h7.size := (Nat.le_trans (Nat.le_trans hk2 K3.1) (Nat.le_of_eq W7.size.symm))
  exact FiniW.ret0 X7 hx hlk Bd.returns (hb hby d1_17) hS2 (by rw [e7]; exact Zs_15) (by decide) (by decide) ⟨rfl, N7, (by rw [e7]; exact Kp_10), (by rw [e7]; exact Fw7), (by rw [e7]; exact F_11), (by rw [e7]; exact F_12), (by rw [e7]; exact F_13), (by rw [e7]; exact F_14)⟩
theorem d5_0 : decode prog_68_method_3_code 0 = .ok (.aload_n 0, 1) := by decide +kernel
theorem d5_1 : decode prog_68_method_3_code 1 = .ok (.getfield 33, 3) := by decide +kernel
theorem d5_4 : decode prog_68_method_3_code 4 = .ok (.ireturn, 1) := by decide +kernel
theorem ef5 (m : MethodId) (x0 : Addr) : entryFrame m #[(.ref x0)] 1 = mkF m 0 #[.val (.ref x0)] [] := by first | (simp [entryFrame, mkF, argsToLocals, Value.category]; done) | rfl
def f5 (x : Int32) : Int32 := x
set_option maxRecDepth 65536 in
set_option maxHeartbeats 40000000 in
theorem rm5 (l : Launch) (Z : State) (a0 : Array Value) (hw : ∀ d ∈ tables_1, d.before a0 Z = true) (ws : List Jvm.Cond) (o0 : Addr) (x : Int32) (h0 : Heap) (F_x : Fld Z h0 o0 "com/example/rights_after_actions/rightsafteractions/io/TextFile$Lines" "number" "I" (.int x)) :
    Cmet l Z (⟨"com/example/rights_after_actions/rightsafteractions/io/TextFile$Lines", "number", "()I"⟩ : MethodName) prog_68_method_3_code 1 (some .int) ws ({ frames := 0, cells := 0, slots := 0, locals := 0 } : Room) #[(.ref o0)] h0 (fun v h' L => v = some (.int (f5 x)) ∧ h' = h0 ∧ L = []) := by
  refine MetFree.of_bodySF (plainFor_of_name pn_1) hisR ?_
  intro p e s m args below meth c s₁ Bd hml0 hP hK
  obtain ⟨rfl, hZ, hh⟩ := hP
  have hx := Bd.exec
  have hlk : meth.locks = false := BodyLoose.notSynchronized Bd
  have hby := Bd.bytes
  have hml : c.maxLocals = 1 := hml0
  have hown : s.vm.findClass "com/example/rights_after_actions/rightsafteractions/io/TextFile$Lines" = some m.cls := findClass_of_methodNamed Bd.named
  have hnm := (name_of_methodNamed Bd.named Bd.method).1
  have X0 : Stand p l e ({ frames := 0, cells := 0, slots := 0, locals := 0 } : Room) s m #[(.ref o0)] below meth c s₁ [] 0 0 := Stand.of_body Bd
  have e0 : s₁.heap = h0 := by rw [← hh, Bd.state]; rfl
  have hv0 : f5 x = f5 x := rfl
  show Fini p e below s (fun v h' L => v = some (.int (f5 x)) ∧ h' = h0 ∧ L = []) _ _ s₁ (entryFrame m #[(.ref o0)] 1)
  refine Fini.cast (ef5 m o0) ?_
  show Fini p e below s _ _ _ s₁ (mkF m 0 #[.val (.ref o0)] [])
  refine Fini.st (fun _ k => XS.aloadN X0.here hx rfl (hb hby d5_0) rfl rfl k) ?_
  show Fini p e below s _ _ _ s₁ (mkF m 1 #[.val (.ref o0)] [(.ref o0)])
  obtain ⟨T1, X1, e1, st1⟩ := getF X0 hx hZ hown (host := "") (Or.inl (hw _ (List.mem_of_getElem? (i := 35) rfl))) Via.refl e0 F_x (g := (mkF m 1 #[.val (.ref o0)] [(.ref o0)])) rfl rfl (hb hby d5_1)
  refine Fini.st st1 ?_
  show Fini p e below s _ _ _ T1 (mkF m 4 #[.val (.ref o0)] [(.int x)])
  exact Fini.retI X1 hx hlk Bd.returns (hb hby d5_4) (by decide) (by decide) ⟨congrArg (fun z => some (Value.int z)) hv0.symm, e1, rfl⟩
theorem d6_0 : decode prog_68_method_4_code 0 = .ok (.aload_n 0, 1) := by decide +kernel
theorem d6_1 : decode prog_68_method_4_code 1 = .ok (.getfield 27, 3) := by decide +kernel
theorem d6_4 : decode prog_68_method_4_code 4 = .ok (.ireturn, 1) := by decide +kernel
theorem ef6 (m : MethodId) (x0 : Addr) : entryFrame m #[(.ref x0)] 1 = mkF m 0 #[.val (.ref x0)] [] := by first | (simp [entryFrame, mkF, argsToLocals, Value.category]; done) | rfl
def f6 (x : Int32) : Int32 := x
set_option maxRecDepth 65536 in
set_option maxHeartbeats 40000000 in
theorem rm6 (l : Launch) (Z : State) (a0 : Array Value) (hw : ∀ d ∈ tables_1, d.before a0 Z = true) (ws : List Jvm.Cond) (o0 : Addr) (x : Int32) (h0 : Heap) (F_x : Fld Z h0 o0 "com/example/rights_after_actions/rightsafteractions/io/TextFile$Lines" "start" "I" (.int x)) :
    Cmet l Z (⟨"com/example/rights_after_actions/rightsafteractions/io/TextFile$Lines", "start", "()I"⟩ : MethodName) prog_68_method_4_code 1 (some .int) ws ({ frames := 0, cells := 0, slots := 0, locals := 0 } : Room) #[(.ref o0)] h0 (fun v h' L => v = some (.int (f6 x)) ∧ h' = h0 ∧ L = []) := by
  refine MetFree.of_bodySF (plainFor_of_name pn_1) hisR ?_
  intro p e s m args below meth c s₁ Bd hml0 hP hK
  obtain ⟨rfl, hZ, hh⟩ := hP
  have hx := Bd.exec
  have hlk : meth.locks = false := BodyLoose.notSynchronized Bd
  have hby := Bd.bytes
  have hml : c.maxLocals = 1 := hml0
  have hown : s.vm.findClass "com/example/rights_after_actions/rightsafteractions/io/TextFile$Lines" = some m.cls := findClass_of_methodNamed Bd.named
  have hnm := (name_of_methodNamed Bd.named Bd.method).1
  have X0 : Stand p l e ({ frames := 0, cells := 0, slots := 0, locals := 0 } : Room) s m #[(.ref o0)] below meth c s₁ [] 0 0 := Stand.of_body Bd
  have e0 : s₁.heap = h0 := by rw [← hh, Bd.state]; rfl
  have hv0 : f6 x = f6 x := rfl
  show Fini p e below s (fun v h' L => v = some (.int (f6 x)) ∧ h' = h0 ∧ L = []) _ _ s₁ (entryFrame m #[(.ref o0)] 1)
  refine Fini.cast (ef6 m o0) ?_
  show Fini p e below s _ _ _ s₁ (mkF m 0 #[.val (.ref o0)] [])
  refine Fini.st (fun _ k => XS.aloadN X0.here hx rfl (hb hby d6_0) rfl rfl k) ?_
  show Fini p e below s _ _ _ s₁ (mkF m 1 #[.val (.ref o0)] [(.ref o0)])
  obtain ⟨T1, X1, e1, st1⟩ := getF X0 hx hZ hown (host := "") (Or.inl (hw _ (List.mem_of_getElem? (i := 42) rfl))) Via.refl e0 F_x (g := (mkF m 1 #[.val (.ref o0)] [(.ref o0)])) rfl rfl (hb hby d6_1)
  refine Fini.st st1 ?_
  show Fini p e below s _ _ _ T1 (mkF m 4 #[.val (.ref o0)] [(.int x)])
  exact Fini.retI X1 hx hlk Bd.returns (hb hby d6_4) (by decide) (by decide) ⟨congrArg (fun z => some (Value.int z)) hv0.symm, e1, rfl⟩
theorem d7_0 : decode prog_68_method_5_code 0 = .ok (.aload_n 0, 1) := by decide +kernel
theorem d7_1 : decode prog_68_method_5_code 1 = .ok (.getfield 30, 3) := by decide +kernel
theorem d7_4 : decode prog_68_method_5_code 4 = .ok (.ireturn, 1) := by decide +kernel
theorem ef7 (m : MethodId) (x0 : Addr) : entryFrame m #[(.ref x0)] 1 = mkF m 0 #[.val (.ref x0)] [] := by first | (simp [entryFrame, mkF, argsToLocals, Value.category]; done) | rfl
def f7 (x : Int32) : Int32 := x
set_option maxRecDepth 65536 in
set_option maxHeartbeats 40000000 in
theorem rm7 (l : Launch) (Z : State) (a0 : Array Value) (hw : ∀ d ∈ tables_1, d.before a0 Z = true) (ws : List Jvm.Cond) (o0 : Addr) (x : Int32) (h0 : Heap) (F_x : Fld Z h0 o0 "com/example/rights_after_actions/rightsafteractions/io/TextFile$Lines" "end" "I" (.int x)) :
    Cmet l Z (⟨"com/example/rights_after_actions/rightsafteractions/io/TextFile$Lines", "end", "()I"⟩ : MethodName) prog_68_method_5_code 1 (some .int) ws ({ frames := 0, cells := 0, slots := 0, locals := 0 } : Room) #[(.ref o0)] h0 (fun v h' L => v = some (.int (f7 x)) ∧ h' = h0 ∧ L = []) := by
  refine MetFree.of_bodySF (plainFor_of_name pn_1) hisR ?_
  intro p e s m args below meth c s₁ Bd hml0 hP hK
  obtain ⟨rfl, hZ, hh⟩ := hP
  have hx := Bd.exec
  have hlk : meth.locks = false := BodyLoose.notSynchronized Bd
  have hby := Bd.bytes
  have hml : c.maxLocals = 1 := hml0
  have hown : s.vm.findClass "com/example/rights_after_actions/rightsafteractions/io/TextFile$Lines" = some m.cls := findClass_of_methodNamed Bd.named
  have hnm := (name_of_methodNamed Bd.named Bd.method).1
  have X0 : Stand p l e ({ frames := 0, cells := 0, slots := 0, locals := 0 } : Room) s m #[(.ref o0)] below meth c s₁ [] 0 0 := Stand.of_body Bd
  have e0 : s₁.heap = h0 := by rw [← hh, Bd.state]; rfl
  have hv0 : f7 x = f7 x := rfl
  show Fini p e below s (fun v h' L => v = some (.int (f7 x)) ∧ h' = h0 ∧ L = []) _ _ s₁ (entryFrame m #[(.ref o0)] 1)
  refine Fini.cast (ef7 m o0) ?_
  show Fini p e below s _ _ _ s₁ (mkF m 0 #[.val (.ref o0)] [])
  refine Fini.st (fun _ k => XS.aloadN X0.here hx rfl (hb hby d7_0) rfl rfl k) ?_
  show Fini p e below s _ _ _ s₁ (mkF m 1 #[.val (.ref o0)] [(.ref o0)])
  obtain ⟨T1, X1, e1, st1⟩ := getF X0 hx hZ hown (host := "") (Or.inl (hw _ (List.mem_of_getElem? (i := 49) rfl))) Via.refl e0 F_x (g := (mkF m 1 #[.val (.ref o0)] [(.ref o0)])) rfl rfl (hb hby d7_1)
  refine Fini.st st1 ?_
  show Fini p e below s _ _ _ T1 (mkF m 4 #[.val (.ref o0)] [(.int x)])
  exact Fini.retI X1 hx hlk Bd.returns (hb hby d7_4) (by decide) (by decide) ⟨congrArg (fun z => some (Value.int z)) hv0.symm, e1, rfl⟩
theorem d9_0 : decode method_3_code 0 = .ok (.iload_n 0, 1) := by decide +kernel
theorem d9_1 : decode method_3_code 1 = .ok (.iconst 3, 1) := by decide +kernel
theorem d9_2 : decode method_3_code 2 = .ok (.iand, 1) := by decide +kernel
theorem d9_3 : decode method_3_code 3 = .ok (.istore_n 1, 1) := by decide +kernel
theorem d9_4 : decode method_3_code 4 = .ok (.iload_n 1, 1) := by decide +kernel
theorem d9_5 : decode method_3_code 5 = .ok (.ifCond .ne 6, 3) := by decide +kernel
theorem d9_8 : decode method_3_code 8 = .ok (.bipush 10, 2) := by decide +kernel
theorem d9_10 : decode method_3_code 10 = .ok (.ireturn, 1) := by decide +kernel
theorem d9_11 : decode method_3_code 11 = .ok (.iload_n 1, 1) := by decide +kernel
theorem d9_12 : decode method_3_code 12 = .ok (.iconst 1, 1) := by decide +kernel
theorem d9_13 : decode method_3_code 13 = .ok (.if_icmp .ne 6, 3) := by decide +kernel
theorem d9_16 : decode method_3_code 16 = .ok (.bipush 13, 2) := by decide +kernel
theorem d9_18 : decode method_3_code 18 = .ok (.ireturn, 1) := by decide +kernel
theorem d9_19 : decode method_3_code 19 = .ok (.iload_n 0, 1) := by decide +kernel
theorem d9_20 : decode method_3_code 20 = .ok (.iconst 2, 1) := by decide +kernel
theorem d9_21 : decode method_3_code 21 = .ok (.ishr, 1) := by decide +kernel
theorem d9_22 : decode method_3_code 22 = .ok (.i2b, 1) := by decide +kernel
theorem d9_23 : decode method_3_code 23 = .ok (.ireturn, 1) := by decide +kernel
theorem pn_2 : plainName "com/example/rights_after_actions/rightsafteractions/io/LinesNextPinLaw" = true := by first | (simp [plainName, overriddenIn]; done) | decide +kernel
theorem ef9 (m : MethodId) (x0 : Int32) : entryFrame m #[(.int x0)] 2 = mkF m 0 #[.val (.int x0), .unset] [] := by first | (simp [entryFrame, mkF, argsToLocals, Value.category]; done) | rfl
def f9 (p0 : Int32) : Int32 := (if (p0 &&& (3 : Int32)) = (0 : Int32) then (nar .byte (10 : Int32)) else (if (p0 &&& (3 : Int32)) = (1 : Int32) then (nar .byte (13 : Int32)) else (nar .byte (p0 >>> ((2 : Int32) &&& 31)).toInt8.toInt32)))
set_option maxRecDepth 65536 in
set_option maxHeartbeats 40000000 in
theorem rm9 (l : Launch) (Z : State) (a0 : Array Value) (hw : ∀ d ∈ tables_1, d.before a0 Z = true) (ws : List Jvm.Cond) (p0 : Int32) (h0 : Heap) :
    Cmet l Z (⟨"com/example/rights_after_actions/rightsafteractions/io/LinesNextPinLaw", "draw", "(I)B"⟩ : MethodName) method_3_code 2 (some .byte) ws ({ frames := 0, cells := 0, slots := 0, locals := 0 } : Room) #[(.int p0)] h0 (fun v h' L => v = some (.int (f9 p0)) ∧ h' = h0 ∧ L = []) := by
  refine MetFree.of_bodySF (plainFor_of_name pn_2) hisR ?_
  intro p e s m args below meth c s₁ Bd hml0 hP hK
  obtain ⟨rfl, hZ, hh⟩ := hP
  have hx := Bd.exec
  have hlk : meth.locks = false := BodyLoose.notSynchronized Bd
  have hby := Bd.bytes
  have hml : c.maxLocals = 2 := hml0
  have hown : s.vm.findClass "com/example/rights_after_actions/rightsafteractions/io/LinesNextPinLaw" = some m.cls := findClass_of_methodNamed Bd.named
  have hnm := (name_of_methodNamed Bd.named Bd.method).1
  have X0 : Stand p l e ({ frames := 0, cells := 0, slots := 0, locals := 0 } : Room) s m #[(.int p0)] below meth c s₁ [] 0 0 := Stand.of_body Bd
  have e0 : s₁.heap = h0 := by rw [← hh, Bd.state]; rfl
  have hv0 : f9 p0 = f9 p0 := rfl
  show Fini p e below s (fun v h' L => v = some (.int (f9 p0)) ∧ h' = h0 ∧ L = []) _ _ s₁ (entryFrame m #[(.int p0)] 2)
  refine Fini.cast (ef9 m p0) ?_
  show Fini p e below s _ _ _ s₁ (mkF m 0 #[.val (.int p0), .unset] [])
  refine Fini.st (fun _ k => XS.iloadN X0.here hx rfl (hb hby d9_0) rfl k) ?_
  show Fini p e below s _ _ _ s₁ (mkF m 1 #[.val (.int p0), .unset] [(.int p0)])
  refine Fini.st (fun _ k => XS.iconst X0.here hx rfl (hb hby d9_1) k) ?_
  show Fini p e below s _ _ _ s₁ (mkF m 2 #[.val (.int p0), .unset] [(.int (3 : Int32)), (.int p0)])
  refine Fini.st (fun _ k => XS.iand X0.here hx rfl (hb hby d9_2) rfl k) ?_
  show Fini p e below s _ _ _ s₁ (mkF m 3 #[.val (.int p0), .unset] [(.int (p0 &&& (3 : Int32)))])
  refine Fini.st (fun _ k => XS.istoreN X0.here hx rfl (hb hby d9_3) rfl (l' := #[.val (.int p0), .val (.int (p0 &&& (3 : Int32)))]) rfl k) ?_
  show Fini p e below s _ _ _ s₁ (mkF m 4 #[.val (.int p0), .val (.int (p0 &&& (3 : Int32)))] [])
  refine Fini.st (fun _ k => XS.iloadN X0.here hx rfl (hb hby d9_4) rfl k) ?_
  show Fini p e below s _ _ _ s₁ (mkF m 5 #[.val (.int p0), .val (.int (p0 &&& (3 : Int32)))] [(.int (p0 &&& (3 : Int32)))])
  by_cases c1 : (p0 &&& (3 : Int32)) = (0 : Int32)
  · have hv2 := hv0.trans (if_pos c1)
    refine Fini.st (fun _ k => XS.ifNo X0.here hx rfl (hb hby d9_5) rfl (XT.i0_ne_f c1) k) ?_
    show Fini p e below s _ _ _ s₁ (mkF m 8 #[.val (.int p0), .val (.int (p0 &&& (3 : Int32)))] [])
    refine Fini.st (fun _ k => XS.bipush X0.here hx rfl (hb hby d9_8) k) ?_
    show Fini p e below s _ _ _ s₁ (mkF m 10 #[.val (.int p0), .val (.int (p0 &&& (3 : Int32)))] [(.int (10 : Int32))])
    exact Fini.retN X0 hx hlk (t := .byte) Bd.returns (by simp) (hb hby d9_10) rfl (by decide) (by decide) ⟨congrArg (fun z => some (Value.int z)) hv2.symm, e0, rfl⟩
  · have hv3 := hv0.trans (if_neg c1)
    refine Fini.st (fun _ k => XS.ifYes X0.here hx rfl (pc0 := 5) (pc' := 11) rfl (hb hby d9_5) rfl (XT.i0_ne_t c1) (by decide) (by decide) k) ?_
    show Fini p e below s _ _ _ s₁ (mkF m 11 #[.val (.int p0), .val (.int (p0 &&& (3 : Int32)))] [])
    refine Fini.st (fun _ k => XS.iloadN X0.here hx rfl (hb hby d9_11) rfl k) ?_
    show Fini p e below s _ _ _ s₁ (mkF m 12 #[.val (.int p0), .val (.int (p0 &&& (3 : Int32)))] [(.int (p0 &&& (3 : Int32)))])
    refine Fini.st (fun _ k => XS.iconst X0.here hx rfl (hb hby d9_12) k) ?_
    show Fini p e below s _ _ _ s₁ (mkF m 13 #[.val (.int p0), .val (.int (p0 &&& (3 : Int32)))] [(.int (1 : Int32)), (.int (p0 &&& (3 : Int32)))])
    by_cases c4 : (p0 &&& (3 : Int32)) = (1 : Int32)
    · have hv5 := hv3.trans (if_pos c4)
      refine Fini.st (fun _ k => XS.icmpNo X0.here hx rfl (hb hby d9_13) rfl (XT.ii_ne_f c4) k) ?_
      show Fini p e below s _ _ _ s₁ (mkF m 16 #[.val (.int p0), .val (.int (p0 &&& (3 : Int32)))] [])
      refine Fini.st (fun _ k => XS.bipush X0.here hx rfl (hb hby d9_16) k) ?_
      show Fini p e below s _ _ _ s₁ (mkF m 18 #[.val (.int p0), .val (.int (p0 &&& (3 : Int32)))] [(.int (13 : Int32))])
      exact Fini.retN X0 hx hlk (t := .byte) Bd.returns (by simp) (hb hby d9_18) rfl (by decide) (by decide) ⟨congrArg (fun z => some (Value.int z)) hv5.symm, e0, rfl⟩
    · have hv6 := hv3.trans (if_neg c4)
      refine Fini.st (fun _ k => XS.icmpYes X0.here hx rfl (pc0 := 13) (pc' := 19) rfl (hb hby d9_13) rfl (XT.ii_ne_t c4) (by decide) (by decide) k) ?_
      show Fini p e below s _ _ _ s₁ (mkF m 19 #[.val (.int p0), .val (.int (p0 &&& (3 : Int32)))] [])
      refine Fini.st (fun _ k => XS.iloadN X0.here hx rfl (hb hby d9_19) rfl k) ?_
      show Fini p e below s _ _ _ s₁ (mkF m 20 #[.val (.int p0), .val (.int (p0 &&& (3 : Int32)))] [(.int p0)])
      refine Fini.st (fun _ k => XS.iconst X0.here hx rfl (hb hby d9_20) k) ?_
      show Fini p e below s _ _ _ s₁ (mkF m 21 #[.val (.int p0), .val (.int (p0 &&& (3 : Int32)))] [(.int (2 : Int32)), (.int p0)])
      refine Fini.st (fun _ k => XS.ishr X0.here hx rfl (hb hby d9_21) rfl k) ?_
      show Fini p e below s _ _ _ s₁ (mkF m 22 #[.val (.int p0), .val (.int (p0 &&& (3 : Int32)))] [(.int (p0 >>> ((2 : Int32) &&& 31)))])
      refine Fini.st (fun _ k => XS.i2b X0.here hx rfl (hb hby d9_22) rfl k) ?_
      show Fini p e below s _ _ _ s₁ (mkF m 23 #[.val (.int p0), .val (.int (p0 &&& (3 : Int32)))] [(.int (p0 >>> ((2 : Int32) &&& 31)).toInt8.toInt32)])
      exact Fini.retN X0 hx hlk (t := .byte) Bd.returns (by simp) (hb hby d9_23) rfl (by decide) (by decide) ⟨congrArg (fun z => some (Value.int z)) hv6.symm, e0, rfl⟩
theorem d10_0 : decode method_4_code 0 = .ok (.iload_n 1, 1) := by decide +kernel
theorem d10_1 : decode method_4_code 1 = .ok (.ifCond .gt 19, 3) := by decide +kernel
theorem d10_4 : decode method_4_code 4 = .ok (.iconst 0, 1) := by decide +kernel
theorem d10_5 : decode method_4_code 5 = .ok (.aload_n 0, 1) := by decide +kernel
theorem d10_6 : decode method_4_code 6 = .ok (.arraylength, 1) := by decide +kernel
theorem d10_7 : decode method_4_code 7 = .ok (.if_icmp .ge 13, 3) := by decide +kernel
theorem d10_10 : decode method_4_code 10 = .ok (.aload_n 0, 1) := by decide +kernel
theorem d10_11 : decode method_4_code 11 = .ok (.iconst 0, 1) := by decide +kernel
theorem d10_12 : decode method_4_code 12 = .ok (.baload, 1) := by decide +kernel
theorem d10_13 : decode method_4_code 13 = .ok (.bipush 10, 2) := by decide +kernel
theorem d10_15 : decode method_4_code 15 = .ok (.if_icmp .ne 5, 3) := by decide +kernel
theorem d10_18 : decode method_4_code 18 = .ok (.iconst 0, 1) := by decide +kernel
theorem d10_19 : decode method_4_code 19 = .ok (.ireturn, 1) := by decide +kernel
theorem d10_20 : decode method_4_code 20 = .ok (.iload_n 1, 1) := by decide +kernel
theorem d10_21 : decode method_4_code 21 = .ok (.iconst 1, 1) := by decide +kernel
theorem d10_22 : decode method_4_code 22 = .ok (.if_icmp .gt 19, 3) := by decide +kernel
theorem d10_25 : decode method_4_code 25 = .ok (.iconst 1, 1) := by decide +kernel
theorem d10_26 : decode method_4_code 26 = .ok (.aload_n 0, 1) := by decide +kernel
theorem d10_27 : decode method_4_code 27 = .ok (.arraylength, 1) := by decide +kernel
theorem d10_28 : decode method_4_code 28 = .ok (.if_icmp .ge 13, 3) := by decide +kernel
theorem d10_31 : decode method_4_code 31 = .ok (.aload_n 0, 1) := by decide +kernel
theorem d10_32 : decode method_4_code 32 = .ok (.iconst 1, 1) := by decide +kernel
theorem d10_33 : decode method_4_code 33 = .ok (.baload, 1) := by decide +kernel
theorem d10_34 : decode method_4_code 34 = .ok (.bipush 10, 2) := by decide +kernel
theorem d10_36 : decode method_4_code 36 = .ok (.if_icmp .ne 5, 3) := by decide +kernel
theorem d10_39 : decode method_4_code 39 = .ok (.iconst 1, 1) := by decide +kernel
theorem d10_40 : decode method_4_code 40 = .ok (.ireturn, 1) := by decide +kernel
theorem d10_41 : decode method_4_code 41 = .ok (.iload_n 1, 1) := by decide +kernel
theorem d10_42 : decode method_4_code 42 = .ok (.iconst 2, 1) := by decide +kernel
theorem d10_43 : decode method_4_code 43 = .ok (.if_icmp .gt 19, 3) := by decide +kernel
theorem d10_46 : decode method_4_code 46 = .ok (.iconst 2, 1) := by decide +kernel
theorem d10_47 : decode method_4_code 47 = .ok (.aload_n 0, 1) := by decide +kernel
theorem d10_48 : decode method_4_code 48 = .ok (.arraylength, 1) := by decide +kernel
theorem d10_49 : decode method_4_code 49 = .ok (.if_icmp .ge 13, 3) := by decide +kernel
theorem d10_52 : decode method_4_code 52 = .ok (.aload_n 0, 1) := by decide +kernel
theorem d10_53 : decode method_4_code 53 = .ok (.iconst 2, 1) := by decide +kernel
theorem d10_54 : decode method_4_code 54 = .ok (.baload, 1) := by decide +kernel
theorem d10_55 : decode method_4_code 55 = .ok (.bipush 10, 2) := by decide +kernel
theorem d10_57 : decode method_4_code 57 = .ok (.if_icmp .ne 5, 3) := by decide +kernel
theorem d10_60 : decode method_4_code 60 = .ok (.iconst 2, 1) := by decide +kernel
theorem d10_61 : decode method_4_code 61 = .ok (.ireturn, 1) := by decide +kernel
theorem d10_62 : decode method_4_code 62 = .ok (.iload_n 1, 1) := by decide +kernel
theorem d10_63 : decode method_4_code 63 = .ok (.iconst 3, 1) := by decide +kernel
theorem d10_64 : decode method_4_code 64 = .ok (.if_icmp .gt 19, 3) := by decide +kernel
theorem d10_67 : decode method_4_code 67 = .ok (.iconst 3, 1) := by decide +kernel
theorem d10_68 : decode method_4_code 68 = .ok (.aload_n 0, 1) := by decide +kernel
theorem d10_69 : decode method_4_code 69 = .ok (.arraylength, 1) := by decide +kernel
theorem d10_70 : decode method_4_code 70 = .ok (.if_icmp .ge 13, 3) := by decide +kernel
theorem d10_73 : decode method_4_code 73 = .ok (.aload_n 0, 1) := by decide +kernel
theorem d10_74 : decode method_4_code 74 = .ok (.iconst 3, 1) := by decide +kernel
theorem d10_75 : decode method_4_code 75 = .ok (.baload, 1) := by decide +kernel
theorem d10_76 : decode method_4_code 76 = .ok (.bipush 10, 2) := by decide +kernel
theorem d10_78 : decode method_4_code 78 = .ok (.if_icmp .ne 5, 3) := by decide +kernel
theorem d10_81 : decode method_4_code 81 = .ok (.iconst 3, 1) := by decide +kernel
theorem d10_82 : decode method_4_code 82 = .ok (.ireturn, 1) := by decide +kernel
theorem d10_83 : decode method_4_code 83 = .ok (.aload_n 0, 1) := by decide +kernel
theorem d10_84 : decode method_4_code 84 = .ok (.arraylength, 1) := by decide +kernel
theorem d10_85 : decode method_4_code 85 = .ok (.ireturn, 1) := by decide +kernel
theorem ef10 (m : MethodId) (x0 : Addr) (x1 : Int32) : entryFrame m #[(.ref x0), (.int x1)] 2 = mkF m 0 #[.val (.ref x0), .val (.int x1)] [] := by first | (simp [entryFrame, mkF, argsToLocals, Value.category]; done) | rfl
def f10_83 (p1 : Int32) (nv : Int32) (u : Nat → Int32) : Int32 := nv
def f10_62 (p1 : Int32) (nv : Int32) (u : Nat → Int32) : Int32 := (if (3 : Int32) < p1 then (f10_83 p1 nv u) else (if (3 : Int32) < nv then (if (u 3) = (10 : Int32) then (3 : Int32) else (f10_83 p1 nv u)) else (f10_83 p1 nv u)))
def f10_41 (p1 : Int32) (nv : Int32) (u : Nat → Int32) : Int32 := (if (2 : Int32) < p1 then (f10_62 p1 nv u) else (if (2 : Int32) < nv then (if (u 2) = (10 : Int32) then (2 : Int32) else (f10_62 p1 nv u)) else (f10_62 p1 nv u)))
def f10_20 (p1 : Int32) (nv : Int32) (u : Nat → Int32) : Int32 := (if (1 : Int32) < p1 then (f10_41 p1 nv u) else (if (1 : Int32) < nv then (if (u 1) = (10 : Int32) then (1 : Int32) else (f10_41 p1 nv u)) else (f10_41 p1 nv u)))
def f10 (p1 : Int32) (nv : Int32) (u : Nat → Int32) : Int32 := (if (0 : Int32) < p1 then (f10_20 p1 nv u) else (if (0 : Int32) < nv then (if (u 0) = (10 : Int32) then (0 : Int32) else (f10_20 p1 nv u)) else (f10_20 p1 nv u)))
set_option maxRecDepth 65536 in
set_option maxHeartbeats 40000000 in
theorem rm10 (l : Launch) (Z : State) (a0 : Array Value) (hw : ∀ d ∈ tables_1, d.before a0 Z = true) (ws : List Jvm.Cond) (o0 : Addr) (p1 : Int32) (nv : Int32) (u : Nat → Int32) (h0 : Heap) (A_c : AryI Z h0 o0 .byte nv u) :
    Cmet l Z (⟨"com/example/rights_after_actions/rightsafteractions/io/LinesNextPinLaw", "firstLf", "([BI)I"⟩ : MethodName) method_4_code 2 (some .int) ws ({ frames := 0, cells := 0, slots := 0, locals := 0 } : Room) #[(.ref o0), (.int p1)] h0 (fun v h' L => v = some (.int (f10 p1 nv u)) ∧ h' = h0 ∧ L = []) := by
  refine MetFree.of_bodySF (plainFor_of_name pn_2) hisR ?_
  intro p e s m args below meth c s₁ Bd hml0 hP hK
  obtain ⟨rfl, hZ, hh⟩ := hP
  have hx := Bd.exec
  have hlk : meth.locks = false := BodyLoose.notSynchronized Bd
  have hby := Bd.bytes
  have hml : c.maxLocals = 2 := hml0
  have hown : s.vm.findClass "com/example/rights_after_actions/rightsafteractions/io/LinesNextPinLaw" = some m.cls := findClass_of_methodNamed Bd.named
  have hnm := (name_of_methodNamed Bd.named Bd.method).1
  have X0 : Stand p l e ({ frames := 0, cells := 0, slots := 0, locals := 0 } : Room) s m #[(.ref o0), (.int p1)] below meth c s₁ [] 0 0 := Stand.of_body Bd
  have e0 : s₁.heap = h0 := by rw [← hh, Bd.state]; rfl
  have hv0 : f10 p1 nv u = f10 p1 nv u := rfl
  have B83 : ∀ (T_83 : State) (X_83 : Stand p l e ({ frames := 0, cells := 0, slots := 0, locals := 0 } : Room) s m #[(.ref o0), (.int p1)] below meth c T_83 [] 0 0) (e_83 : T_83.heap = h0), f10 p1 nv u = f10_83 p1 nv u → Fini p e below s (fun v h' L => v = some (.int (f10 p1 nv u)) ∧ h' = h0 ∧ L = []) (Room.cells ({ frames := 0, cells := 0, slots := 0, locals := 0 } : Room)) (Room.slots ({ frames := 0, cells := 0, slots := 0, locals := 0 } : Room)) T_83 (mkF m 83 #[.val (.ref o0), .val (.int p1)] []) := by
    intro T_83 X_83 e_83  hv_83
    refine Fini.st (fun _ k => XS.aloadN X_83.here hx rfl (hb hby d10_83) rfl rfl k) ?_
    show Fini p e below s _ _ _ T_83 (mkF m 84 #[.val (.ref o0), .val (.int p1)] [(.ref o0)])
    refine Fini.st (fun _ k => A_c.len X_83 hx hZ e_83 rfl rfl (hb hby d10_84) k) ?_
    show Fini p e below s _ _ _ T_83 (mkF m 85 #[.val (.ref o0), .val (.int p1)] [(.int nv)])
    exact Fini.retI X_83 hx hlk Bd.returns (hb hby d10_85) (by decide) (by decide) ⟨congrArg (fun z => some (Value.int z)) hv_83.symm, e_83, rfl⟩
  have B62 : ∀ (T_62 : State) (X_62 : Stand p l e ({ frames := 0, cells := 0, slots := 0, locals := 0 } : Room) s m #[(.ref o0), (.int p1)] below meth c T_62 [] 0 0) (e_62 : T_62.heap = h0), f10 p1 nv u = f10_62 p1 nv u → Fini p e below s (fun v h' L => v = some (.int (f10 p1 nv u)) ∧ h' = h0 ∧ L = []) (Room.cells ({ frames := 0, cells := 0, slots := 0, locals := 0 } : Room)) (Room.slots ({ frames := 0, cells := 0, slots := 0, locals := 0 } : Room)) T_62 (mkF m 62 #[.val (.ref o0), .val (.int p1)] []) := by
    intro T_62 X_62 e_62  hv_62
    refine Fini.st (fun _ k => XS.iloadN X_62.here hx rfl (hb hby d10_62) rfl k) ?_
    show Fini p e below s _ _ _ T_62 (mkF m 63 #[.val (.ref o0), .val (.int p1)] [(.int p1)])
    refine Fini.st (fun _ k => XS.iconst X_62.here hx rfl (hb hby d10_63) k) ?_
    show Fini p e below s _ _ _ T_62 (mkF m 64 #[.val (.ref o0), .val (.int p1)] [(.int (3 : Int32)), (.int p1)])
    by_cases c28 : (3 : Int32) < p1
    · have hv29 := hv_62.trans (if_pos c28)
      refine Fini.st (fun _ k => XS.icmpYes X_62.here hx rfl (pc0 := 64) (pc' := 83) rfl (hb hby d10_64) rfl (XT.ii_gt_t c28) (by decide) (by decide) k) ?_
      show Fini p e below s _ _ _ T_62 (mkF m 83 #[.val (.ref o0), .val (.int p1)] [])
      exact B83 T_62 X_62 e_62 hv29
    · have hv30 := hv_62.trans (if_neg c28)
      refine Fini.st (fun _ k => XS.icmpNo X_62.here hx rfl (hb hby d10_64) rfl (XT.ii_gt_f c28) k) ?_
      show Fini p e below s _ _ _ T_62 (mkF m 67 #[.val (.ref o0), .val (.int p1)] [])
      refine Fini.st (fun _ k => XS.iconst X_62.here hx rfl (hb hby d10_67) k) ?_
      show Fini p e below s _ _ _ T_62 (mkF m 68 #[.val (.ref o0), .val (.int p1)] [(.int (3 : Int32))])
      refine Fini.st (fun _ k => XS.aloadN X_62.here hx rfl (hb hby d10_68) rfl rfl k) ?_
      show Fini p e below s _ _ _ T_62 (mkF m 69 #[.val (.ref o0), .val (.int p1)] [(.ref o0), (.int (3 : Int32))])
      refine Fini.st (fun _ k => A_c.len X_62 hx hZ e_62 rfl rfl (hb hby d10_69) k) ?_
      show Fini p e below s _ _ _ T_62 (mkF m 70 #[.val (.ref o0), .val (.int p1)] [(.int nv), (.int (3 : Int32))])
      by_cases c31 : (3 : Int32) < nv
      · have hv32 := hv30.trans (if_pos c31)
        refine Fini.st (fun _ k => XS.icmpNo X_62.here hx rfl (hb hby d10_70) rfl (XT.ii_ge_f c31) k) ?_
        show Fini p e below s _ _ _ T_62 (mkF m 73 #[.val (.ref o0), .val (.int p1)] [])
        refine Fini.st (fun _ k => XS.aloadN X_62.here hx rfl (hb hby d10_73) rfl rfl k) ?_
        show Fini p e below s _ _ _ T_62 (mkF m 74 #[.val (.ref o0), .val (.int p1)] [(.ref o0)])
        refine Fini.st (fun _ k => XS.iconst X_62.here hx rfl (hb hby d10_74) k) ?_
        show Fini p e below s _ _ _ T_62 (mkF m 75 #[.val (.ref o0), .val (.int p1)] [(.int (3 : Int32)), (.ref o0)])
        refine Fini.st (fun _ k => A_c.loadB X_62 hx hZ e_62 ⟨by decide, c31⟩ rfl rfl (hb hby d10_75) k) ?_
        show Fini p e below s _ _ _ T_62 (mkF m 76 #[.val (.ref o0), .val (.int p1)] [(.int (u 3))])
        refine Fini.st (fun _ k => XS.bipush X_62.here hx rfl (hb hby d10_76) k) ?_
        show Fini p e below s _ _ _ T_62 (mkF m 78 #[.val (.ref o0), .val (.int p1)] [(.int (10 : Int32)), (.int (u 3))])
        by_cases c33 : (u 3) = (10 : Int32)
        · have hv34 := hv32.trans (if_pos c33)
          refine Fini.st (fun _ k => XS.icmpNo X_62.here hx rfl (hb hby d10_78) rfl (XT.ii_ne_f c33) k) ?_
          show Fini p e below s _ _ _ T_62 (mkF m 81 #[.val (.ref o0), .val (.int p1)] [])
          refine Fini.st (fun _ k => XS.iconst X_62.here hx rfl (hb hby d10_81) k) ?_
          show Fini p e below s _ _ _ T_62 (mkF m 82 #[.val (.ref o0), .val (.int p1)] [(.int (3 : Int32))])
          exact Fini.retI X_62 hx hlk Bd.returns (hb hby d10_82) (by decide) (by decide) ⟨congrArg (fun z => some (Value.int z)) hv34.symm, e_62, rfl⟩
        · have hv35 := hv32.trans (if_neg c33)
          refine Fini.st (fun _ k => XS.icmpYes X_62.here hx rfl (pc0 := 78) (pc' := 83) rfl (hb hby d10_78) rfl (XT.ii_ne_t c33) (by decide) (by decide) k) ?_
          show Fini p e below s _ _ _ T_62 (mkF m 83 #[.val (.ref o0), .val (.int p1)] [])
          exact B83 T_62 X_62 e_62 hv35
      · have hv36 := hv30.trans (if_neg c31)
        refine Fini.st (fun _ k => XS.icmpYes X_62.here hx rfl (pc0 := 70) (pc' := 83) rfl (hb hby d10_70) rfl (XT.ii_ge_t c31) (by decide) (by decide) k) ?_
        show Fini p e below s _ _ _ T_62 (mkF m 83 #[.val (.ref o0), .val (.int p1)] [])
        exact B83 T_62 X_62 e_62 hv36
  have B41 : ∀ (T_41 : State) (X_41 : Stand p l e ({ frames := 0, cells := 0, slots := 0, locals := 0 } : Room) s m #[(.ref o0), (.int p1)] below meth c T_41 [] 0 0) (e_41 : T_41.heap = h0), f10 p1 nv u = f10_41 p1 nv u → Fini p e below s (fun v h' L => v = some (.int (f10 p1 nv u)) ∧ h' = h0 ∧ L = []) (Room.cells ({ frames := 0, cells := 0, slots := 0, locals := 0 } : Room)) (Room.slots ({ frames := 0, cells := 0, slots := 0, locals := 0 } : Room)) T_41 (mkF m 41 #[.val (.ref o0), .val (.int p1)] []) := by
    intro T_41 X_41 e_41  hv_41
    refine Fini.st (fun _ k => XS.iloadN X_41.here hx rfl (hb hby d10_41) rfl k) ?_
    show Fini p e below s _ _ _ T_41 (mkF m 42 #[.val (.ref o0), .val (.int p1)] [(.int p1)])
    refine Fini.st (fun _ k => XS.iconst X_41.here hx rfl (hb hby d10_42) k) ?_
    show Fini p e below s _ _ _ T_41 (mkF m 43 #[.val (.ref o0), .val (.int p1)] [(.int (2 : Int32)), (.int p1)])
    by_cases c19 : (2 : Int32) < p1
    · have hv20 := hv_41.trans (if_pos c19)
      refine Fini.st (fun _ k => XS.icmpYes X_41.here hx rfl (pc0 := 43) (pc' := 62) rfl (hb hby d10_43) rfl (XT.ii_gt_t c19) (by decide) (by decide) k) ?_
      show Fini p e below s _ _ _ T_41 (mkF m 62 #[.val (.ref o0), .val (.int p1)] [])
      exact B62 T_41 X_41 e_41 hv20
    · have hv21 := hv_41.trans (if_neg c19)
      refine Fini.st (fun _ k => XS.icmpNo X_41.here hx rfl (hb hby d10_43) rfl (XT.ii_gt_f c19) k) ?_
      show Fini p e below s _ _ _ T_41 (mkF m 46 #[.val (.ref o0), .val (.int p1)] [])
      refine Fini.st (fun _ k => XS.iconst X_41.here hx rfl (hb hby d10_46) k) ?_
      show Fini p e below s _ _ _ T_41 (mkF m 47 #[.val (.ref o0), .val (.int p1)] [(.int (2 : Int32))])
      refine Fini.st (fun _ k => XS.aloadN X_41.here hx rfl (hb hby d10_47) rfl rfl k) ?_
      show Fini p e below s _ _ _ T_41 (mkF m 48 #[.val (.ref o0), .val (.int p1)] [(.ref o0), (.int (2 : Int32))])
      refine Fini.st (fun _ k => A_c.len X_41 hx hZ e_41 rfl rfl (hb hby d10_48) k) ?_
      show Fini p e below s _ _ _ T_41 (mkF m 49 #[.val (.ref o0), .val (.int p1)] [(.int nv), (.int (2 : Int32))])
      by_cases c22 : (2 : Int32) < nv
      · have hv23 := hv21.trans (if_pos c22)
        refine Fini.st (fun _ k => XS.icmpNo X_41.here hx rfl (hb hby d10_49) rfl (XT.ii_ge_f c22) k) ?_
        show Fini p e below s _ _ _ T_41 (mkF m 52 #[.val (.ref o0), .val (.int p1)] [])
        refine Fini.st (fun _ k => XS.aloadN X_41.here hx rfl (hb hby d10_52) rfl rfl k) ?_
        show Fini p e below s _ _ _ T_41 (mkF m 53 #[.val (.ref o0), .val (.int p1)] [(.ref o0)])
        refine Fini.st (fun _ k => XS.iconst X_41.here hx rfl (hb hby d10_53) k) ?_
        show Fini p e below s _ _ _ T_41 (mkF m 54 #[.val (.ref o0), .val (.int p1)] [(.int (2 : Int32)), (.ref o0)])
        refine Fini.st (fun _ k => A_c.loadB X_41 hx hZ e_41 ⟨by decide, c22⟩ rfl rfl (hb hby d10_54) k) ?_
        show Fini p e below s _ _ _ T_41 (mkF m 55 #[.val (.ref o0), .val (.int p1)] [(.int (u 2))])
        refine Fini.st (fun _ k => XS.bipush X_41.here hx rfl (hb hby d10_55) k) ?_
        show Fini p e below s _ _ _ T_41 (mkF m 57 #[.val (.ref o0), .val (.int p1)] [(.int (10 : Int32)), (.int (u 2))])
        by_cases c24 : (u 2) = (10 : Int32)
        · have hv25 := hv23.trans (if_pos c24)
          refine Fini.st (fun _ k => XS.icmpNo X_41.here hx rfl (hb hby d10_57) rfl (XT.ii_ne_f c24) k) ?_
          show Fini p e below s _ _ _ T_41 (mkF m 60 #[.val (.ref o0), .val (.int p1)] [])
          refine Fini.st (fun _ k => XS.iconst X_41.here hx rfl (hb hby d10_60) k) ?_
          show Fini p e below s _ _ _ T_41 (mkF m 61 #[.val (.ref o0), .val (.int p1)] [(.int (2 : Int32))])
          exact Fini.retI X_41 hx hlk Bd.returns (hb hby d10_61) (by decide) (by decide) ⟨congrArg (fun z => some (Value.int z)) hv25.symm, e_41, rfl⟩
        · have hv26 := hv23.trans (if_neg c24)
          refine Fini.st (fun _ k => XS.icmpYes X_41.here hx rfl (pc0 := 57) (pc' := 62) rfl (hb hby d10_57) rfl (XT.ii_ne_t c24) (by decide) (by decide) k) ?_
          show Fini p e below s _ _ _ T_41 (mkF m 62 #[.val (.ref o0), .val (.int p1)] [])
          exact B62 T_41 X_41 e_41 hv26
      · have hv27 := hv21.trans (if_neg c22)
        refine Fini.st (fun _ k => XS.icmpYes X_41.here hx rfl (pc0 := 49) (pc' := 62) rfl (hb hby d10_49) rfl (XT.ii_ge_t c22) (by decide) (by decide) k) ?_
        show Fini p e below s _ _ _ T_41 (mkF m 62 #[.val (.ref o0), .val (.int p1)] [])
        exact B62 T_41 X_41 e_41 hv27
  have B20 : ∀ (T_20 : State) (X_20 : Stand p l e ({ frames := 0, cells := 0, slots := 0, locals := 0 } : Room) s m #[(.ref o0), (.int p1)] below meth c T_20 [] 0 0) (e_20 : T_20.heap = h0), f10 p1 nv u = f10_20 p1 nv u → Fini p e below s (fun v h' L => v = some (.int (f10 p1 nv u)) ∧ h' = h0 ∧ L = []) (Room.cells ({ frames := 0, cells := 0, slots := 0, locals := 0 } : Room)) (Room.slots ({ frames := 0, cells := 0, slots := 0, locals := 0 } : Room)) T_20 (mkF m 20 #[.val (.ref o0), .val (.int p1)] []) := by
    intro T_20 X_20 e_20  hv_20
    refine Fini.st (fun _ k => XS.iloadN X_20.here hx rfl (hb hby d10_20) rfl k) ?_
    show Fini p e below s _ _ _ T_20 (mkF m 21 #[.val (.ref o0), .val (.int p1)] [(.int p1)])
    refine Fini.st (fun _ k => XS.iconst X_20.here hx rfl (hb hby d10_21) k) ?_
    show Fini p e below s _ _ _ T_20 (mkF m 22 #[.val (.ref o0), .val (.int p1)] [(.int (1 : Int32)), (.int p1)])
    by_cases c10 : (1 : Int32) < p1
    · have hv11 := hv_20.trans (if_pos c10)
      refine Fini.st (fun _ k => XS.icmpYes X_20.here hx rfl (pc0 := 22) (pc' := 41) rfl (hb hby d10_22) rfl (XT.ii_gt_t c10) (by decide) (by decide) k) ?_
      show Fini p e below s _ _ _ T_20 (mkF m 41 #[.val (.ref o0), .val (.int p1)] [])
      exact B41 T_20 X_20 e_20 hv11
    · have hv12 := hv_20.trans (if_neg c10)
      refine Fini.st (fun _ k => XS.icmpNo X_20.here hx rfl (hb hby d10_22) rfl (XT.ii_gt_f c10) k) ?_
      show Fini p e below s _ _ _ T_20 (mkF m 25 #[.val (.ref o0), .val (.int p1)] [])
      refine Fini.st (fun _ k => XS.iconst X_20.here hx rfl (hb hby d10_25) k) ?_
      show Fini p e below s _ _ _ T_20 (mkF m 26 #[.val (.ref o0), .val (.int p1)] [(.int (1 : Int32))])
      refine Fini.st (fun _ k => XS.aloadN X_20.here hx rfl (hb hby d10_26) rfl rfl k) ?_
      show Fini p e below s _ _ _ T_20 (mkF m 27 #[.val (.ref o0), .val (.int p1)] [(.ref o0), (.int (1 : Int32))])
      refine Fini.st (fun _ k => A_c.len X_20 hx hZ e_20 rfl rfl (hb hby d10_27) k) ?_
      show Fini p e below s _ _ _ T_20 (mkF m 28 #[.val (.ref o0), .val (.int p1)] [(.int nv), (.int (1 : Int32))])
      by_cases c13 : (1 : Int32) < nv
      · have hv14 := hv12.trans (if_pos c13)
        refine Fini.st (fun _ k => XS.icmpNo X_20.here hx rfl (hb hby d10_28) rfl (XT.ii_ge_f c13) k) ?_
        show Fini p e below s _ _ _ T_20 (mkF m 31 #[.val (.ref o0), .val (.int p1)] [])
        refine Fini.st (fun _ k => XS.aloadN X_20.here hx rfl (hb hby d10_31) rfl rfl k) ?_
        show Fini p e below s _ _ _ T_20 (mkF m 32 #[.val (.ref o0), .val (.int p1)] [(.ref o0)])
        refine Fini.st (fun _ k => XS.iconst X_20.here hx rfl (hb hby d10_32) k) ?_
        show Fini p e below s _ _ _ T_20 (mkF m 33 #[.val (.ref o0), .val (.int p1)] [(.int (1 : Int32)), (.ref o0)])
        refine Fini.st (fun _ k => A_c.loadB X_20 hx hZ e_20 ⟨by decide, c13⟩ rfl rfl (hb hby d10_33) k) ?_
        show Fini p e below s _ _ _ T_20 (mkF m 34 #[.val (.ref o0), .val (.int p1)] [(.int (u 1))])
        refine Fini.st (fun _ k => XS.bipush X_20.here hx rfl (hb hby d10_34) k) ?_
        show Fini p e below s _ _ _ T_20 (mkF m 36 #[.val (.ref o0), .val (.int p1)] [(.int (10 : Int32)), (.int (u 1))])
        by_cases c15 : (u 1) = (10 : Int32)
        · have hv16 := hv14.trans (if_pos c15)
          refine Fini.st (fun _ k => XS.icmpNo X_20.here hx rfl (hb hby d10_36) rfl (XT.ii_ne_f c15) k) ?_
          show Fini p e below s _ _ _ T_20 (mkF m 39 #[.val (.ref o0), .val (.int p1)] [])
          refine Fini.st (fun _ k => XS.iconst X_20.here hx rfl (hb hby d10_39) k) ?_
          show Fini p e below s _ _ _ T_20 (mkF m 40 #[.val (.ref o0), .val (.int p1)] [(.int (1 : Int32))])
          exact Fini.retI X_20 hx hlk Bd.returns (hb hby d10_40) (by decide) (by decide) ⟨congrArg (fun z => some (Value.int z)) hv16.symm, e_20, rfl⟩
        · have hv17 := hv14.trans (if_neg c15)
          refine Fini.st (fun _ k => XS.icmpYes X_20.here hx rfl (pc0 := 36) (pc' := 41) rfl (hb hby d10_36) rfl (XT.ii_ne_t c15) (by decide) (by decide) k) ?_
          show Fini p e below s _ _ _ T_20 (mkF m 41 #[.val (.ref o0), .val (.int p1)] [])
          exact B41 T_20 X_20 e_20 hv17
      · have hv18 := hv12.trans (if_neg c13)
        refine Fini.st (fun _ k => XS.icmpYes X_20.here hx rfl (pc0 := 28) (pc' := 41) rfl (hb hby d10_28) rfl (XT.ii_ge_t c13) (by decide) (by decide) k) ?_
        show Fini p e below s _ _ _ T_20 (mkF m 41 #[.val (.ref o0), .val (.int p1)] [])
        exact B41 T_20 X_20 e_20 hv18
  show Fini p e below s (fun v h' L => v = some (.int (f10 p1 nv u)) ∧ h' = h0 ∧ L = []) _ _ s₁ (entryFrame m #[(.ref o0), (.int p1)] 2)
  refine Fini.cast (ef10 m o0 p1) ?_
  show Fini p e below s _ _ _ s₁ (mkF m 0 #[.val (.ref o0), .val (.int p1)] [])
  refine Fini.st (fun _ k => XS.iloadN X0.here hx rfl (hb hby d10_0) rfl k) ?_
  show Fini p e below s _ _ _ s₁ (mkF m 1 #[.val (.ref o0), .val (.int p1)] [(.int p1)])
  by_cases c1 : (0 : Int32) < p1
  · have hv2 := hv0.trans (if_pos c1)
    refine Fini.st (fun _ k => XS.ifYes X0.here hx rfl (pc0 := 1) (pc' := 20) rfl (hb hby d10_1) rfl (XT.i0_gt_t c1) (by decide) (by decide) k) ?_
    show Fini p e below s _ _ _ s₁ (mkF m 20 #[.val (.ref o0), .val (.int p1)] [])
    exact B20 s₁ X0 e0 hv2
  · have hv3 := hv0.trans (if_neg c1)
    refine Fini.st (fun _ k => XS.ifNo X0.here hx rfl (hb hby d10_1) rfl (XT.i0_gt_f c1) k) ?_
    show Fini p e below s _ _ _ s₁ (mkF m 4 #[.val (.ref o0), .val (.int p1)] [])
    refine Fini.st (fun _ k => XS.iconst X0.here hx rfl (hb hby d10_4) k) ?_
    show Fini p e below s _ _ _ s₁ (mkF m 5 #[.val (.ref o0), .val (.int p1)] [(.int (0 : Int32))])
    refine Fini.st (fun _ k => XS.aloadN X0.here hx rfl (hb hby d10_5) rfl rfl k) ?_
    show Fini p e below s _ _ _ s₁ (mkF m 6 #[.val (.ref o0), .val (.int p1)] [(.ref o0), (.int (0 : Int32))])
    refine Fini.st (fun _ k => A_c.len X0 hx hZ e0 rfl rfl (hb hby d10_6) k) ?_
    show Fini p e below s _ _ _ s₁ (mkF m 7 #[.val (.ref o0), .val (.int p1)] [(.int nv), (.int (0 : Int32))])
    by_cases c4 : (0 : Int32) < nv
    · have hv5 := hv3.trans (if_pos c4)
      refine Fini.st (fun _ k => XS.icmpNo X0.here hx rfl (hb hby d10_7) rfl (XT.ii_ge_f c4) k) ?_
      show Fini p e below s _ _ _ s₁ (mkF m 10 #[.val (.ref o0), .val (.int p1)] [])
      refine Fini.st (fun _ k => XS.aloadN X0.here hx rfl (hb hby d10_10) rfl rfl k) ?_
      show Fini p e below s _ _ _ s₁ (mkF m 11 #[.val (.ref o0), .val (.int p1)] [(.ref o0)])
      refine Fini.st (fun _ k => XS.iconst X0.here hx rfl (hb hby d10_11) k) ?_
      show Fini p e below s _ _ _ s₁ (mkF m 12 #[.val (.ref o0), .val (.int p1)] [(.int (0 : Int32)), (.ref o0)])
      refine Fini.st (fun _ k => A_c.loadB X0 hx hZ e0 ⟨by decide, c4⟩ rfl rfl (hb hby d10_12) k) ?_
      show Fini p e below s _ _ _ s₁ (mkF m 13 #[.val (.ref o0), .val (.int p1)] [(.int (u 0))])
      refine Fini.st (fun _ k => XS.bipush X0.here hx rfl (hb hby d10_13) k) ?_
      show Fini p e below s _ _ _ s₁ (mkF m 15 #[.val (.ref o0), .val (.int p1)] [(.int (10 : Int32)), (.int (u 0))])
      by_cases c6 : (u 0) = (10 : Int32)
      · have hv7 := hv5.trans (if_pos c6)
        refine Fini.st (fun _ k => XS.icmpNo X0.here hx rfl (hb hby d10_15) rfl (XT.ii_ne_f c6) k) ?_
        show Fini p e below s _ _ _ s₁ (mkF m 18 #[.val (.ref o0), .val (.int p1)] [])
        refine Fini.st (fun _ k => XS.iconst X0.here hx rfl (hb hby d10_18) k) ?_
        show Fini p e below s _ _ _ s₁ (mkF m 19 #[.val (.ref o0), .val (.int p1)] [(.int (0 : Int32))])
        exact Fini.retI X0 hx hlk Bd.returns (hb hby d10_19) (by decide) (by decide) ⟨congrArg (fun z => some (Value.int z)) hv7.symm, e0, rfl⟩
      · have hv8 := hv5.trans (if_neg c6)
        refine Fini.st (fun _ k => XS.icmpYes X0.here hx rfl (pc0 := 15) (pc' := 20) rfl (hb hby d10_15) rfl (XT.ii_ne_t c6) (by decide) (by decide) k) ?_
        show Fini p e below s _ _ _ s₁ (mkF m 20 #[.val (.ref o0), .val (.int p1)] [])
        exact B20 s₁ X0 e0 hv8
    · have hv9 := hv3.trans (if_neg c4)
      refine Fini.st (fun _ k => XS.icmpYes X0.here hx rfl (pc0 := 7) (pc' := 20) rfl (hb hby d10_7) rfl (XT.ii_ge_t c4) (by decide) (by decide) k) ?_
      show Fini p e below s _ _ _ s₁ (mkF m 20 #[.val (.ref o0), .val (.int p1)] [])
      exact B20 s₁ X0 e0 hv9
def own_E (u : Nat → Int32) (a z : Int32) : Int32 := if a < z then (if u (z - (1 : Int32)).toNatClampNeg = (13 : Int32) then z - (1 : Int32) else z) else z
def own_I (u : Nat → Int32) (n a z : Int32) : Prop := a.toInt ≤ z.toInt ∧ z.toInt ≤ n.toInt ∧ 0 ≤ a.toInt ∧ ∀ j : Nat, a.toNatClampNeg ≤ j → j < z.toNatClampNeg → u j ≠ 10
def own_P (u : Nat → Int32) (n a z : Int32) : Prop := own_I u n a z ∧ (z.toInt < n.toInt → u z.toNatClampNeg = 10)
section Plain
variable {u : Nat → Int32} {n a z : Int32}
theorem own_t0 : (0 : Int32).toInt = 0 := rfl
theorem own_t1 : (1 : Int32).toInt = 1 := rfl
theorem own_t4 : (4 : Int32).toInt = 4 := rfl
theorem own_pos {x : Int32} (h : ¬ x < 0) : 0 ≤ x.toInt ∧ x.toInt = (x.toNatClampNeg : Int) := by
  have h1 := nat_of h
  rw [Int32.lt_iff_toInt_lt, own_t0] at h
  exact ⟨by omega, h1⟩
theorem own_pos' {x : Int32} (h : 0 ≤ x.toInt) : x.toInt = (x.toNatClampNeg : Int) := nat_of (by rw [Int32.lt_iff_toInt_lt, own_t0]; omega)
theorem own_4 (h : ¬ (4 : Int32) < n) : n.toInt ≤ 4 := by rw [Int32.lt_iff_toInt_lt, own_t4] at h; omega
theorem own_I0 (h0 : ¬ a < 0) (hA : a < n) : own_I u n a a := by
  have h := own_pos h0
  rw [Int32.lt_iff_toInt_lt] at hA
  exact ⟨by omega, by omega, h.1, fun j h1 h2 => absurd h2 (Nat.not_lt.mpr h1)⟩
theorem own_F0 (h0 : ¬ a < 0) (h4 : ¬ (4 : Int32) < n) : n.toInt - a.toInt < ((5 : Nat) : Int) := by
  have h := own_pos h0
  have h' := own_4 h4
  omega
theorem own_next (I : own_I u n a z) (h4 : ¬ (4 : Int32) < n) : (z + (1 : Int32)).toInt = z.toInt + 1 ∧ (z + (1 : Int32)).toNatClampNeg = z.toNatClampNeg + 1 := by
  obtain ⟨i1, i2, i3, -⟩ := I
  have h' := own_4 h4
  have s := c_iadd z 1
  have g := rng32 (z + 1)
  rw [own_t1] at s
  have e : (z + (1 : Int32)).toInt = z.toInt + 1 := by omega
  have q := own_pos' (x := z) (by omega)
  have q' := own_pos' (x := z + 1) (by omega)
  exact ⟨e, by omega⟩
theorem own_I1 (I : own_I u n a z) (c1 : z < n) (c2 : ¬ u z.toNatClampNeg = (10 : Int32)) (h4 : ¬ (4 : Int32) < n) : own_I u n a (z + (1 : Int32)) := by
  obtain ⟨e1, e2⟩ := own_next I h4
  obtain ⟨i1, i2, i3, i4⟩ := I
  rw [Int32.lt_iff_toInt_lt] at c1
  refine ⟨by omega, by omega, i3, fun j h1 h2 => ?_⟩
  by_cases q : j = z.toNatClampNeg
  · rw [q]; exact c2
  · exact i4 j h1 (by omega)
theorem own_F1 {k : Nat} (I : own_I u n a z) (F : n.toInt - z.toInt < ((k + 1 : Nat) : Int)) (c1 : z < n) (h4 : ¬ (4 : Int32) < n) : n.toInt - (z + (1 : Int32)).toInt < (k : Int) := by
  obtain ⟨e1, e2⟩ := own_next I h4
  omega
theorem own_I2 (I : own_I u n a z) : ¬ (n.toInt - z.toInt < ((0 : Nat) : Int)) := by
  obtain ⟨i1, i2, i3, i4⟩ := I
  omega
theorem own_P0 (I : own_I u n a z) (c : ¬ z < n) : own_P u n a z := ⟨I, fun q => absurd (Int32.lt_iff_toInt_lt.mpr q) c⟩
theorem own_P1 (I : own_I u n a z) (c1 : z < n) (c2 : u z.toNatClampNeg = (10 : Int32)) : own_P u n a z := ⟨I, fun _ => c2⟩
theorem own_in (I : own_I u n a z) (c1 : z < n) (h0 : ¬ a < 0) : ¬ z < 0 ∧ z < n := by
  obtain ⟨i1, i2, i3, -⟩ := I
  exact ⟨by rw [Int32.lt_iff_toInt_lt, own_t0]; omega, c1⟩
theorem own_in1 (P : own_P u n a z) (c : a < z) (h0 : ¬ a < 0) (h4 : ¬ (4 : Int32) < n) : ¬ (z - (1 : Int32)) < 0 ∧ (z - (1 : Int32)) < n := by
  obtain ⟨⟨i1, i2, i3, -⟩, -⟩ := P
  have h' := own_4 h4
  have s := c_isub z 1
  have g := rng32 (z - 1)
  rw [own_t1] at s
  rw [Int32.lt_iff_toInt_lt] at c
  rw [Int32.lt_iff_toInt_lt, Int32.lt_iff_toInt_lt, own_t0]
  omega
theorem own_uniq {y : Int32} (P : own_P u n a y) (P' : own_P u n a z) : y = z := by
  obtain ⟨⟨i1, i2, i3, i4⟩, i5⟩ := P
  obtain ⟨⟨j1, j2, j3, j4⟩, j5⟩ := P'
  have qa := own_pos' (x := a) (by omega)
  have qy := own_pos' (x := y) (by omega)
  have qz := own_pos' (x := z) (by omega)
  apply Int32.toInt_inj.mp
  by_cases c : y.toInt < z.toInt
  · exact absurd (i5 (by omega)) (j4 y.toNatClampNeg (by omega) (by omega))
  · by_cases d : z.toInt < y.toInt
    · exact absurd (j5 (by omega)) (i4 z.toNatClampNeg (by omega) (by omega))
    · omega
theorem own_q (P : own_P u n a z) (h0 : ¬ a < 0) (h4 : ¬ (4 : Int32) < n) : ¬ (z + (1 : Int32)) < 0 := by
  obtain ⟨e1, e2⟩ := own_next P.1 h4
  obtain ⟨⟨i1, i2, i3, -⟩, -⟩ := P
  rw [Int32.lt_iff_toInt_lt, own_t0]
  omega
theorem own_lvl (k : Nat) (K : Int32) (hK : K.toInt = (k : Int)) (h0 : ¬ a < 0) (hpn : a < n) (X : Int32) (next : (∀ j, a.toNatClampNeg ≤ j → j < k + 1 → j < n.toNatClampNeg → u j ≠ 10) → own_P u n a X)
    (H : ∀ j, a.toNatClampNeg ≤ j → j < k → j < n.toNatClampNeg → u j ≠ 10) : own_P u n a (if K < a then X else (if K < n then (if u k = (10 : Int32) then K else X) else X)) := by
  have ha := own_pos h0
  rw [Int32.lt_iff_toInt_lt] at hpn
  have hn := own_pos' (x := n) (by omega)
  by_cases c : K < a
  · rw [if_pos c]
    rw [Int32.lt_iff_toInt_lt] at c
    refine next fun j h1 h2 h3 => H j h1 (by omega) h3
  rw [if_neg c]
  rw [Int32.lt_iff_toInt_lt] at c
  by_cases d : K < n
  · rw [if_pos d]
    rw [Int32.lt_iff_toInt_lt] at d
    have hk := own_pos' (x := K) (by omega)
    have hk' : K.toNatClampNeg = k := by omega
    by_cases e : u k = (10 : Int32)
    · rw [if_pos e]
      refine ⟨⟨by omega, by omega, ha.1, fun j h1 h2 => H j h1 (by omega) (by omega)⟩, fun _ => by rw [hk']; exact e⟩
    · rw [if_neg e]
      refine next fun j h1 h2 h3 => ?_
      by_cases q : j = k
      · rw [q]; exact e
      · exact H j h1 (by omega) h3
  · rw [if_neg d]
    rw [Int32.lt_iff_toInt_lt] at d
    refine next fun j h1 h2 h3 => H j h1 (by omega) h3
theorem own_lf (u : Nat → Int32) (h0 : ¬ a < 0) (hpn : a < n) (h4 : ¬ (4 : Int32) < n) : own_P u n a (f10 a n u) := by
  have ha := own_pos h0
  have h' := own_4 h4
  have hlt := hpn
  rw [Int32.lt_iff_toInt_lt] at hlt
  have hn := own_pos' (x := n) (by omega)
  unfold f10 f10_20 f10_41 f10_62 f10_83
  refine own_lvl 0 0 rfl h0 hpn _ (fun H1 => own_lvl 1 1 rfl h0 hpn _ (fun H2 => own_lvl 2 2 rfl h0 hpn _ (fun H3 => own_lvl 3 3 rfl h0 hpn _ (fun H4 => ?_) H3) H2) H1) (fun j h1 h2 h3 => absurd h2 (Nat.not_lt_zero _))
  exact ⟨⟨by omega, by omega, ha.1, fun j h1 h2 => H4 j h1 (by omega) h2⟩, fun q => absurd q (by omega)⟩
end Plain
theorem own_len (x : Int32) : 0 ≤ ((x &&& (2147483647 : Int32)) % (5 : Int32)).toInt ∧ ((x &&& (2147483647 : Int32)) % (5 : Int32)).toInt ≤ 4 := by
  have m := c_mask x 2147483647 31 (by decide) (by decide)
  have r := c_irem (x &&& 2147483647) 5 5 rfl
  omega
theorem own_ge0 (x : Int32) : ¬ ((x &&& (2147483647 : Int32)) % (5 : Int32)) < 0 := by
  have h := own_len x
  rw [Int32.lt_iff_toInt_lt, own_t0]
  omega
theorem own_le4 (x : Int32) : ¬ (4 : Int32) < ((x &&& (2147483647 : Int32)) % (5 : Int32)) := by
  have h := own_len x
  rw [Int32.lt_iff_toInt_lt, own_t4]
  omega
theorem own_cap4 (x : Int32) : ((x &&& (2147483647 : Int32)) % (5 : Int32)).toNatClampNeg ≤ 4 := by
  have h := own_len x
  have q := own_pos' h.1
  omega

theorem d8_A_0 : decode prog_68_method_2_code 0 = .ok (.aload_n 0, 1) := by decide +kernel
theorem d8_A_1 : decode prog_68_method_2_code 1 = .ok (.getfield 23, 3) := by decide +kernel
theorem d8_A_4 : decode prog_68_method_2_code 4 = .ok (.aload_n 0, 1) := by decide +kernel
theorem d8_A_5 : decode prog_68_method_2_code 5 = .ok (.getfield 19, 3) := by decide +kernel
theorem d8_A_8 : decode prog_68_method_2_code 8 = .ok (.arraylength, 1) := by decide +kernel
theorem d8_A_9 : decode prog_68_method_2_code 9 = .ok (.if_icmp .ge 7, 3) := by decide +kernel
theorem d8_A_12 : decode prog_68_method_2_code 12 = .ok (.iconst 1, 1) := by decide +kernel
theorem d8_A_13 : decode prog_68_method_2_code 13 = .ok (.goto 4, 3) := by decide +kernel
theorem d8_A_17 : decode prog_68_method_2_code 17 = .ok (.istore_n 1, 1) := by decide +kernel
theorem d8_A_18 : decode prog_68_method_2_code 18 = .ok (.iload_n 1, 1) := by decide +kernel
theorem d8_A_19 : decode prog_68_method_2_code 19 = .ok (.ifCond .eq 101, 3) := by decide +kernel
theorem d8_A_22 : decode prog_68_method_2_code 22 = .ok (.aload_n 0, 1) := by decide +kernel
theorem d8_A_23 : decode prog_68_method_2_code 23 = .ok (.getfield 23, 3) := by decide +kernel
theorem d8_A_26 : decode prog_68_method_2_code 26 = .ok (.istore_n 2, 1) := by decide +kernel
theorem d8_A_27 : decode prog_68_method_2_code 27 = .ok (.iload_n 2, 1) := by decide +kernel
theorem d8_A_28 : decode prog_68_method_2_code 28 = .ok (.aload_n 0, 1) := by decide +kernel
theorem d8_A_29 : decode prog_68_method_2_code 29 = .ok (.getfield 19, 3) := by decide +kernel
theorem d8_A_32 : decode prog_68_method_2_code 32 = .ok (.arraylength, 1) := by decide +kernel
theorem d8_A_33 : decode prog_68_method_2_code 33 = .ok (.if_icmp .ge 20, 3) := by decide +kernel
theorem d8_A_36 : decode prog_68_method_2_code 36 = .ok (.aload_n 0, 1) := by decide +kernel
theorem d8_A_37 : decode prog_68_method_2_code 37 = .ok (.getfield 19, 3) := by decide +kernel
theorem d8_A_40 : decode prog_68_method_2_code 40 = .ok (.iload_n 2, 1) := by decide +kernel
theorem d8_A_41 : decode prog_68_method_2_code 41 = .ok (.baload, 1) := by decide +kernel
theorem d8_A_42 : decode prog_68_method_2_code 42 = .ok (.bipush 10, 2) := by decide +kernel
theorem d8_A_44 : decode prog_68_method_2_code 44 = .ok (.if_icmp .eq 9, 3) := by decide +kernel
theorem d8_A_47 : decode prog_68_method_2_code 47 = .ok (.iinc 2 1, 3) := by decide +kernel
theorem d8_A_50 : decode prog_68_method_2_code 50 = .ok (.goto (-23), 3) := by decide +kernel
theorem d8_A_53 : decode prog_68_method_2_code 53 = .ok (.aload_n 0, 1) := by decide +kernel
theorem d8_A_54 : decode prog_68_method_2_code 54 = .ok (.aload_n 0, 1) := by decide +kernel
theorem d8_A_55 : decode prog_68_method_2_code 55 = .ok (.getfield 23, 3) := by decide +kernel
theorem d8_A_58 : decode prog_68_method_2_code 58 = .ok (.putfield 27, 3) := by decide +kernel
theorem d8_A_61 : decode prog_68_method_2_code 61 = .ok (.aload_n 0, 1) := by decide +kernel
theorem d8_A_62 : decode prog_68_method_2_code 62 = .ok (.iload_n 2, 1) := by decide +kernel
theorem d8_A_63 : decode prog_68_method_2_code 63 = .ok (.putfield 30, 3) := by decide +kernel
theorem d8_A_66 : decode prog_68_method_2_code 66 = .ok (.aload_n 0, 1) := by decide +kernel
theorem d8_A_67 : decode prog_68_method_2_code 67 = .ok (.getfield 30, 3) := by decide +kernel
theorem d8_A_70 : decode prog_68_method_2_code 70 = .ok (.aload_n 0, 1) := by decide +kernel
theorem d8_A_71 : decode prog_68_method_2_code 71 = .ok (.getfield 27, 3) := by decide +kernel
theorem d8_A_74 : decode prog_68_method_2_code 74 = .ok (.if_icmp .le 29, 3) := by decide +kernel
theorem d8_A_77 : decode prog_68_method_2_code 77 = .ok (.aload_n 0, 1) := by decide +kernel
theorem d8_A_78 : decode prog_68_method_2_code 78 = .ok (.getfield 19, 3) := by decide +kernel
theorem d8_A_81 : decode prog_68_method_2_code 81 = .ok (.aload_n 0, 1) := by decide +kernel
theorem d8_A_82 : decode prog_68_method_2_code 82 = .ok (.getfield 30, 3) := by decide +kernel
theorem d8_A_85 : decode prog_68_method_2_code 85 = .ok (.iconst 1, 1) := by decide +kernel
theorem d8_A_86 : decode prog_68_method_2_code 86 = .ok (.isub, 1) := by decide +kernel
theorem d8_A_87 : decode prog_68_method_2_code 87 = .ok (.baload, 1) := by decide +kernel
theorem d8_A_88 : decode prog_68_method_2_code 88 = .ok (.bipush 13, 2) := by decide +kernel
theorem d8_A_90 : decode prog_68_method_2_code 90 = .ok (.if_icmp .ne 13, 3) := by decide +kernel
theorem d8_A_93 : decode prog_68_method_2_code 93 = .ok (.aload_n 0, 1) := by decide +kernel
theorem d8_A_94 : decode prog_68_method_2_code 94 = .ok (.dup, 1) := by decide +kernel
theorem d8_A_95 : decode prog_68_method_2_code 95 = .ok (.getfield 30, 3) := by decide +kernel
theorem d8_A_98 : decode prog_68_method_2_code 98 = .ok (.iconst 1, 1) := by decide +kernel
theorem d8_A_99 : decode prog_68_method_2_code 99 = .ok (.isub, 1) := by decide +kernel
theorem d8_A_100 : decode prog_68_method_2_code 100 = .ok (.putfield 30, 3) := by decide +kernel
theorem d8_A_103 : decode prog_68_method_2_code 103 = .ok (.aload_n 0, 1) := by decide +kernel
theorem d8_A_104 : decode prog_68_method_2_code 104 = .ok (.iload_n 2, 1) := by decide +kernel
theorem d8_A_105 : decode prog_68_method_2_code 105 = .ok (.iconst 1, 1) := by decide +kernel
theorem d8_A_106 : decode prog_68_method_2_code 106 = .ok (.iadd, 1) := by decide +kernel
theorem d8_A_107 : decode prog_68_method_2_code 107 = .ok (.putfield 23, 3) := by decide +kernel
theorem d8_A_110 : decode prog_68_method_2_code 110 = .ok (.aload_n 0, 1) := by decide +kernel
theorem d8_A_111 : decode prog_68_method_2_code 111 = .ok (.dup, 1) := by decide +kernel
theorem d8_A_112 : decode prog_68_method_2_code 112 = .ok (.getfield 33, 3) := by decide +kernel
theorem d8_A_115 : decode prog_68_method_2_code 115 = .ok (.iconst 1, 1) := by decide +kernel
theorem d8_A_116 : decode prog_68_method_2_code 116 = .ok (.iadd, 1) := by decide +kernel
theorem d8_A_117 : decode prog_68_method_2_code 117 = .ok (.putfield 33, 3) := by decide +kernel
theorem d8_A_120 : decode prog_68_method_2_code 120 = .ok (.iload_n 1, 1) := by decide +kernel
theorem d8_A_121 : decode prog_68_method_2_code 121 = .ok (.ireturn, 1) := by decide +kernel
theorem ef8_A (m : MethodId) (x0 : Addr) : entryFrame m #[(.ref x0)] 3 = mkF m 0 #[.val (.ref x0), .unset, .unset] [] := by first | (simp [entryFrame, mkF, argsToLocals, Value.category]; done) | rfl
set_option maxRecDepth 65536 in
set_option maxHeartbeats 40000000 in
theorem rm8_A (l : Launch) (Z : State) (a0 : Array Value) (hw : ∀ d ∈ tables_1, d.before a0 Z = true) (ws : List Jvm.Cond) (o0 : Addr) (cc : Addr) (nv : Int32) (u : Nat → Int32) (nu : Int32) (st : Int32) (en : Int32) (nx : Int32) (h0 : Heap) (n0 : Nat) (Z0 : n0 ≤ h0.size) (E_o0 : Exa Z h0 o0 "com/example/rights_after_actions/rightsafteractions/io/TextFile$Lines") (F_content : Fld Z h0 o0 "com/example/rights_after_actions/rightsafteractions/io/TextFile$Lines" "content" "[B" (.ref cc)) (F_number : Fld Z h0 o0 "com/example/rights_after_actions/rightsafteractions/io/TextFile$Lines" "number" "I" (.int nu)) (F_start : Fld Z h0 o0 "com/example/rights_after_actions/rightsafteractions/io/TextFile$Lines" "start" "I" (.int st)) (F_end : Fld Z h0 o0 "com/example/rights_after_actions/rightsafteractions/io/TextFile$Lines" "end" "I" (.int en)) (F_next : Fld Z h0 o0 "com/example/rights_after_actions/rightsafteractions/io/TextFile$Lines" "next" "I" (.int nx)) (A_c : AryI Z h0 cc .byte nv u) (g0 : n0 ≤ o0) (ne0 : cc ≠ o0) (hA : nx < nv) (h0' : ¬ nx < 0) (h4 : ¬ (4 : Int32) < nv) :
    Cmet l Z (⟨"com/example/rights_after_actions/rightsafteractions/io/TextFile$Lines", "next", "()Z"⟩ : MethodName) prog_68_method_2_code 3 (some .boolean) ws ({ frames := 0, cells := 0, slots := 0, locals := 0 } : Room) #[(.ref o0)] h0 (fun v h' L => v = some (.int 1) ∧ Fr n0 L ∧ Keep h0 h' [o0] ∧ ∃ Fx : Int32, own_P u nv nx Fx ∧ Fld Z h' o0 "com/example/rights_after_actions/rightsafteractions/io/TextFile$Lines" "content" "[B" (.ref cc) ∧ Fld Z h' o0 "com/example/rights_after_actions/rightsafteractions/io/TextFile$Lines" "number" "I" (.int (nu + (1 : Int32))) ∧ Fld Z h' o0 "com/example/rights_after_actions/rightsafteractions/io/TextFile$Lines" "start" "I" (.int nx) ∧ Fld Z h' o0 "com/example/rights_after_actions/rightsafteractions/io/TextFile$Lines" "end" "I" (.int (own_E u nx Fx)) ∧ Fld Z h' o0 "com/example/rights_after_actions/rightsafteractions/io/TextFile$Lines" "next" "I" (.int (Fx + (1 : Int32)))) := by
  refine MetFree.of_bodySF (plainFor_of_name pn_1) hisR ?_
  intro p e s m args below meth c s₁ Bd hml0 hP hK
  obtain ⟨rfl, hZ, hh⟩ := hP
  have hx := Bd.exec
  have hlk : meth.locks = false := BodyLoose.notSynchronized Bd
  have hby := Bd.bytes
  have hml : c.maxLocals = 3 := hml0
  have hown : s.vm.findClass "com/example/rights_after_actions/rightsafteractions/io/TextFile$Lines" = some m.cls := findClass_of_methodNamed Bd.named
  have hnm := (name_of_methodNamed Bd.named Bd.method).1
  have X0 : Stand p l e ({ frames := 0, cells := 0, slots := 0, locals := 0 } : Room) s m #[(.ref o0)] below meth c s₁ [] 0 0 := Stand.of_body Bd
  have e0 : s₁.heap = h0 := by rw [← hh, Bd.state]; rfl
  have N0 := Fr.nil n0
  have B103 : ∀ (T_103 : State) (h_103 : Heap) (locs : List Loc) (X_103 : Stand p l e ({ frames := 0, cells := 0, slots := 0, locals := 0 } : Room) s m #[(.ref o0)] below meth c T_103 locs 0 0) (e_103 : T_103.heap = h_103) (z27_l2 : Int32) (N_103 : Fr n0 locs) (H103_E_o0 : Exa Z h_103 o0 "com/example/rights_after_actions/rightsafteractions/io/TextFile$Lines") (H103_F_o0_content : Fld Z h_103 o0 "com/example/rights_after_actions/rightsafteractions/io/TextFile$Lines" "content" "[B" (.ref cc)) (H103_F_o0_number : Fld Z h_103 o0 "com/example/rights_after_actions/rightsafteractions/io/TextFile$Lines" "number" "I" (.int nu)) (H103_F_o0_start : Fld Z h_103 o0 "com/example/rights_after_actions/rightsafteractions/io/TextFile$Lines" "start" "I" (.int nx)) (H103_F_o0_end : Fld Z h_103 o0 "com/example/rights_after_actions/rightsafteractions/io/TextFile$Lines" "end" "I" (.int (own_E u nx z27_l2))) (H103_F_o0_next : Fld Z h_103 o0 "com/example/rights_after_actions/rightsafteractions/io/TextFile$Lines" "next" "I" (.int nx)) (H103_A_cc : AryI Z h_103 cc .byte nv u) (H103_Z : n0 ≤ h_103.size) (H103_K : Keep h0 h_103 [o0]) (cy103_P : own_P u nv nx z27_l2), Fini p e below s (fun v h' L => v = some (.int 1) ∧ Fr n0 L ∧ Keep h0 h' [o0] ∧ ∃ Fx : Int32, own_P u nv nx Fx ∧ Fld Z h' o0 "com/example/rights_after_actions/rightsafteractions/io/TextFile$Lines" "content" "[B" (.ref cc) ∧ Fld Z h' o0 "com/example/rights_after_actions/rightsafteractions/io/TextFile$Lines" "number" "I" (.int (nu + (1 : Int32))) ∧ Fld Z h' o0 "com/example/rights_after_actions/rightsafteractions/io/TextFile$Lines" "start" "I" (.int nx) ∧ Fld Z h' o0 "com/example/rights_after_actions/rightsafteractions/io/TextFile$Lines" "end" "I" (.int (own_E u nx Fx)) ∧ Fld Z h' o0 "com/example/rights_after_actions/rightsafteractions/io/TextFile$Lines" "next" "I" (.int (Fx + (1 : Int32)))) (Room.cells ({ frames := 0, cells := 0, slots := 0, locals := 0 } : Room)) (Room.slots ({ frames := 0, cells := 0, slots := 0, locals := 0 } : Room)) T_103 (mkF m 103 #[.val (.ref o0), .val (.int (1 : Int32)), .val (.int z27_l2)] []) := by
    intro T_103 h_103 locs X_103 e_103 z27_l2 N_103 H103_E_o0 H103_F_o0_content H103_F_o0_number H103_F_o0_start H103_F_o0_end H103_F_o0_next H103_A_cc H103_Z H103_K cy103_P
    refine Fini.st (fun _ k => XS.aloadN X_103.here hx rfl (hb hby d8_A_103) rfl rfl k) ?_
    show Fini p e below s _ _ _ T_103 (mkF m 104 #[.val (.ref o0), .val (.int (1 : Int32)), .val (.int z27_l2)] [(.ref o0)])
    refine Fini.st (fun _ k => XS.iloadN X_103.here hx rfl (hb hby d8_A_104) rfl k) ?_
    show Fini p e below s _ _ _ T_103 (mkF m 105 #[.val (.ref o0), .val (.int (1 : Int32)), .val (.int z27_l2)] [(.int z27_l2), (.ref o0)])
    refine Fini.st (fun _ k => XS.iconst X_103.here hx rfl (hb hby d8_A_105) k) ?_
    show Fini p e below s _ _ _ T_103 (mkF m 106 #[.val (.ref o0), .val (.int (1 : Int32)), .val (.int z27_l2)] [(.int (1 : Int32)), (.int z27_l2), (.ref o0)])
    refine Fini.st (fun _ k => XS.iadd X_103.here hx rfl (hb hby d8_A_106) rfl k) ?_
    show Fini p e below s _ _ _ T_103 (mkF m 107 #[.val (.ref o0), .val (.int (1 : Int32)), .val (.int z27_l2)] [(.int (z27_l2 + (1 : Int32))), (.ref o0)])
    obtain ⟨T28, h28, X28, e28, W28, st28⟩ := putF X_103 hx hZ hown (host := "") (Or.inl (hw _ (List.mem_of_getElem? (i := 56) rfl))) Via.refl e_103 H103_F_o0_next H103_E_o0 (Or.inl (hw _ (List.mem_of_getElem? (i := 57) rfl))) (hw _ (List.mem_of_getElem? (i := 3) rfl)) (ty := .int) (by decide) rfl rfl (g := (mkF m 107 #[.val (.ref o0), .val (.int (1 : Int32)), .val (.int z27_l2)] [(.int (z27_l2 + (1 : Int32))), (.ref o0)])) rfl rfl (hb hby d8_A_107)
    have Fw28 : Fld Z h28 o0 "com/example/rights_after_actions/rightsafteractions/io/TextFile$Lines" "next" "I" (.int (z27_l2 + (1 : Int32))) := H103_F_o0_next.same W28
    refine Fini.st st28 ?_
    have N28 := Fr.snoc X28 N_103 g0
    show Fini p e below s _ _ _ T28 (mkF m 110 #[.val (.ref o0), .val (.int (1 : Int32)), .val (.int z27_l2)] [])
    refine Fini.st (fun _ k => XS.aloadN X28.here hx rfl (hb hby d8_A_110) rfl rfl k) ?_
    show Fini p e below s _ _ _ T28 (mkF m 111 #[.val (.ref o0), .val (.int (1 : Int32)), .val (.int z27_l2)] [(.ref o0)])
    refine Fini.st (fun _ k => XS.dup X28.here hx rfl (hb hby d8_A_111) rfl rfl k) ?_
    show Fini p e below s _ _ _ T28 (mkF m 112 #[.val (.ref o0), .val (.int (1 : Int32)), .val (.int z27_l2)] [(.ref o0), (.ref o0)])
    have F_30 : Fld Z h28 o0 "com/example/rights_after_actions/rightsafteractions/io/TextFile$Lines" "number" "I" (.int nu) := (H103_F_o0_number.other W28 (Or.inr (slot_ne (Or.inl (hw _ (List.mem_of_getElem? (i := 36) rfl))) (Or.inl (hw _ (List.mem_of_getElem? (i := 57) rfl))) (by decide) (t := .int) (t' := .int) (by decide) (by decide))))
    obtain ⟨T29, X29, e29, st29⟩ := getF X28 hx hZ hown (host := "") (Or.inl (hw _ (List.mem_of_getElem? (i := 35) rfl))) Via.refl e28 F_30 (g := (mkF m 112 #[.val (.ref o0), .val (.int (1 : Int32)), .val (.int z27_l2)] [(.ref o0), (.ref o0)])) rfl rfl (hb hby d8_A_112)
    refine Fini.st st29 ?_
    show Fini p e below s _ _ _ T29 (mkF m 115 #[.val (.ref o0), .val (.int (1 : Int32)), .val (.int z27_l2)] [(.int nu), (.ref o0)])
    refine Fini.st (fun _ k => XS.iconst X29.here hx rfl (hb hby d8_A_115) k) ?_
    show Fini p e below s _ _ _ T29 (mkF m 116 #[.val (.ref o0), .val (.int (1 : Int32)), .val (.int z27_l2)] [(.int (1 : Int32)), (.int nu), (.ref o0)])
    refine Fini.st (fun _ k => XS.iadd X29.here hx rfl (hb hby d8_A_116) rfl k) ?_
    show Fini p e below s _ _ _ T29 (mkF m 117 #[.val (.ref o0), .val (.int (1 : Int32)), .val (.int z27_l2)] [(.int (nu + (1 : Int32))), (.ref o0)])
    have Ex_32 : Exa Z h28 o0 "com/example/rights_after_actions/rightsafteractions/io/TextFile$Lines" := (H103_E_o0.wr W28)
    obtain ⟨T31, h31, X31, e31, W31, st31⟩ := putF X29 hx hZ hown (host := "") (Or.inl (hw _ (List.mem_of_getElem? (i := 35) rfl))) Via.refl e29 F_30 Ex_32 (Or.inl (hw _ (List.mem_of_getElem? (i := 36) rfl))) (hw _ (List.mem_of_getElem? (i := 3) rfl)) (ty := .int) (by decide) rfl rfl (g := (mkF m 117 #[.val (.ref o0), .val (.int (1 : Int32)), .val (.int z27_l2)] [(.int (nu + (1 : Int32))), (.ref o0)])) rfl rfl (hb hby d8_A_117)
    have Fw31 : Fld Z h31 o0 "com/example/rights_after_actions/rightsafteractions/io/TextFile$Lines" "number" "I" (.int (nu + (1 : Int32))) := F_30.same W31
    refine Fini.st st31 ?_
    have N31 := Fr.snoc X31 N28 g0
    show Fini p e below s _ _ _ T31 (mkF m 120 #[.val (.ref o0), .val (.int (1 : Int32)), .val (.int z27_l2)] [])
    refine Fini.st (fun _ k => XS.iloadN X31.here hx rfl (hb hby d8_A_120) rfl k) ?_
    show Fini p e below s _ _ _ T31 (mkF m 121 #[.val (.ref o0), .val (.int (1 : Int32)), .val (.int z27_l2)] [(.int (1 : Int32))])
    have Kp_33 : Keep h0 h31 [o0] := (Keep.wr (Keep.wr H103_K W28 (Or.inl (List.mem_of_getElem? (i := 0) rfl))) W31 (Or.inl (List.mem_of_getElem? (i := 0) rfl)))
    have F_34 : Fld Z h31 o0 "com/example/rights_after_actions/rightsafteractions/io/TextFile$Lines" "content" "[B" (.ref cc) := ((H103_F_o0_content.other W28 (Or.inr (slot_ne (Or.inr (hw _ (List.mem_of_getElem? (i := 25) rfl))) (Or.inl (hw _ (List.mem_of_getElem? (i := 57) rfl))) (by decide) (t := (.array .byte)) (t' := .int) (by decide) (by decide)))).other W31 (Or.inr (slot_ne (Or.inr (hw _ (List.mem_of_getElem? (i := 25) rfl))) (Or.inl (hw _ (List.mem_of_getElem? (i := 36) rfl))) (by decide) (t := (.array .byte)) (t' := .int) (by decide) (by decide))))
    have F_35 : Fld Z h31 o0 "com/example/rights_after_actions/rightsafteractions/io/TextFile$Lines" "start" "I" (.int nx) := ((H103_F_o0_start.other W28 (Or.inr (slot_ne (Or.inl (hw _ (List.mem_of_getElem? (i := 43) rfl))) (Or.inl (hw _ (List.mem_of_getElem? (i := 57) rfl))) (by decide) (t := .int) (t' := .int) (by decide) (by decide)))).other W31 (Or.inr (slot_ne (Or.inl (hw _ (List.mem_of_getElem? (i := 43) rfl))) (Or.inl (hw _ (List.mem_of_getElem? (i := 36) rfl))) (by decide) (t := .int) (t' := .int) (by decide) (by decide))))
    have F_36 : Fld Z h31 o0 "com/example/rights_after_actions/rightsafteractions/io/TextFile$Lines" "end" "I" (.int (own_E u nx z27_l2)) := ((H103_F_o0_end.other W28 (Or.inr (slot_ne (Or.inl (hw _ (List.mem_of_getElem? (i := 50) rfl))) (Or.inl (hw _ (List.mem_of_getElem? (i := 57) rfl))) (by decide) (t := .int) (t' := .int) (by decide) (by decide)))).other W31 (Or.inr (slot_ne (Or.inl (hw _ (List.mem_of_getElem? (i := 50) rfl))) (Or.inl (hw _ (List.mem_of_getElem? (i := 36) rfl))) (by decide) (t := .int) (t' := .int) (by decide) (by decide))))
    have F_37 : Fld Z h31 o0 "com/example/rights_after_actions/rightsafteractions/io/TextFile$Lines" "next" "I" (.int (z27_l2 + (1 : Int32))) := (Fw28.other W31 (Or.inr (slot_ne (Or.inl (hw _ (List.mem_of_getElem? (i := 57) rfl))) (Or.inl (hw _ (List.mem_of_getElem? (i := 36) rfl))) (by decide) (t := .int) (t' := .int) (by decide) (by decide))))
    exact Fini.retN X31 hx hlk (t := .boolean) Bd.returns (by simp) (hb hby d8_A_121) nb1 (by decide) (by decide) ⟨rfl, N31, (by rw [e31]; exact Kp_33), z27_l2, cy103_P, (by rw [e31]; exact F_34), (by rw [e31]; exact Fw31), (by rw [e31]; exact F_35), (by rw [e31]; exact F_36), (by rw [e31]; exact F_37)⟩
  have B53 : ∀ (T_53 : State) (h_53 : Heap) (locs : List Loc) (X_53 : Stand p l e ({ frames := 0, cells := 0, slots := 0, locals := 0 } : Room) s m #[(.ref o0)] below meth c T_53 locs 0 0) (e_53 : T_53.heap = h_53) (z27_l2 : Int32) (N_53 : Fr n0 locs) (H53_E_o0 : Exa Z h_53 o0 "com/example/rights_after_actions/rightsafteractions/io/TextFile$Lines") (H53_F_o0_content : Fld Z h_53 o0 "com/example/rights_after_actions/rightsafteractions/io/TextFile$Lines" "content" "[B" (.ref cc)) (H53_F_o0_number : Fld Z h_53 o0 "com/example/rights_after_actions/rightsafteractions/io/TextFile$Lines" "number" "I" (.int nu)) (H53_F_o0_start : Fld Z h_53 o0 "com/example/rights_after_actions/rightsafteractions/io/TextFile$Lines" "start" "I" (.int st)) (H53_F_o0_end : Fld Z h_53 o0 "com/example/rights_after_actions/rightsafteractions/io/TextFile$Lines" "end" "I" (.int en)) (H53_F_o0_next : Fld Z h_53 o0 "com/example/rights_after_actions/rightsafteractions/io/TextFile$Lines" "next" "I" (.int nx)) (H53_A_cc : AryI Z h_53 cc .byte nv u) (H53_Z : n0 ≤ h_53.size) (H53_K : Keep h0 h_53 [o0]) (cy53_P : own_P u nv nx z27_l2), Fini p e below s (fun v h' L => v = some (.int 1) ∧ Fr n0 L ∧ Keep h0 h' [o0] ∧ ∃ Fx : Int32, own_P u nv nx Fx ∧ Fld Z h' o0 "com/example/rights_after_actions/rightsafteractions/io/TextFile$Lines" "content" "[B" (.ref cc) ∧ Fld Z h' o0 "com/example/rights_after_actions/rightsafteractions/io/TextFile$Lines" "number" "I" (.int (nu + (1 : Int32))) ∧ Fld Z h' o0 "com/example/rights_after_actions/rightsafteractions/io/TextFile$Lines" "start" "I" (.int nx) ∧ Fld Z h' o0 "com/example/rights_after_actions/rightsafteractions/io/TextFile$Lines" "end" "I" (.int (own_E u nx Fx)) ∧ Fld Z h' o0 "com/example/rights_after_actions/rightsafteractions/io/TextFile$Lines" "next" "I" (.int (Fx + (1 : Int32)))) (Room.cells ({ frames := 0, cells := 0, slots := 0, locals := 0 } : Room)) (Room.slots ({ frames := 0, cells := 0, slots := 0, locals := 0 } : Room)) T_53 (mkF m 53 #[.val (.ref o0), .val (.int (1 : Int32)), .val (.int z27_l2)] []) := by
    intro T_53 h_53 locs X_53 e_53 z27_l2 N_53 H53_E_o0 H53_F_o0_content H53_F_o0_number H53_F_o0_start H53_F_o0_end H53_F_o0_next H53_A_cc H53_Z H53_K cy53_P
    refine Fini.st (fun _ k => XS.aloadN X_53.here hx rfl (hb hby d8_A_53) rfl rfl k) ?_
    show Fini p e below s _ _ _ T_53 (mkF m 54 #[.val (.ref o0), .val (.int (1 : Int32)), .val (.int z27_l2)] [(.ref o0)])
    refine Fini.st (fun _ k => XS.aloadN X_53.here hx rfl (hb hby d8_A_54) rfl rfl k) ?_
    show Fini p e below s _ _ _ T_53 (mkF m 55 #[.val (.ref o0), .val (.int (1 : Int32)), .val (.int z27_l2)] [(.ref o0), (.ref o0)])
    obtain ⟨T8, X8, e8, st8⟩ := getF X_53 hx hZ hown (host := "") (Or.inl (hw _ (List.mem_of_getElem? (i := 56) rfl))) Via.refl e_53 H53_F_o0_next (g := (mkF m 55 #[.val (.ref o0), .val (.int (1 : Int32)), .val (.int z27_l2)] [(.ref o0), (.ref o0)])) rfl rfl (hb hby d8_A_55)
    refine Fini.st st8 ?_
    show Fini p e below s _ _ _ T8 (mkF m 58 #[.val (.ref o0), .val (.int (1 : Int32)), .val (.int z27_l2)] [(.int nx), (.ref o0)])
    obtain ⟨T9, h9, X9, e9, W9, st9⟩ := putF X8 hx hZ hown (host := "") (Or.inl (hw _ (List.mem_of_getElem? (i := 42) rfl))) Via.refl e8 H53_F_o0_start H53_E_o0 (Or.inl (hw _ (List.mem_of_getElem? (i := 43) rfl))) (hw _ (List.mem_of_getElem? (i := 3) rfl)) (ty := .int) (by decide) rfl rfl (g := (mkF m 58 #[.val (.ref o0), .val (.int (1 : Int32)), .val (.int z27_l2)] [(.int nx), (.ref o0)])) rfl rfl (hb hby d8_A_58)
    have Fw9 : Fld Z h9 o0 "com/example/rights_after_actions/rightsafteractions/io/TextFile$Lines" "start" "I" (.int nx) := H53_F_o0_start.same W9
    refine Fini.st st9 ?_
    have N9 := Fr.snoc X9 N_53 g0
    show Fini p e below s _ _ _ T9 (mkF m 61 #[.val (.ref o0), .val (.int (1 : Int32)), .val (.int z27_l2)] [])
    refine Fini.st (fun _ k => XS.aloadN X9.here hx rfl (hb hby d8_A_61) rfl rfl k) ?_
    show Fini p e below s _ _ _ T9 (mkF m 62 #[.val (.ref o0), .val (.int (1 : Int32)), .val (.int z27_l2)] [(.ref o0)])
    refine Fini.st (fun _ k => XS.iloadN X9.here hx rfl (hb hby d8_A_62) rfl k) ?_
    show Fini p e below s _ _ _ T9 (mkF m 63 #[.val (.ref o0), .val (.int (1 : Int32)), .val (.int z27_l2)] [(.int z27_l2), (.ref o0)])
    have F_11 : Fld Z h9 o0 "com/example/rights_after_actions/rightsafteractions/io/TextFile$Lines" "end" "I" (.int en) := (H53_F_o0_end.other W9 (Or.inr (slot_ne (Or.inl (hw _ (List.mem_of_getElem? (i := 50) rfl))) (Or.inl (hw _ (List.mem_of_getElem? (i := 43) rfl))) (by decide) (t := .int) (t' := .int) (by decide) (by decide))))
    have Ex_12 : Exa Z h9 o0 "com/example/rights_after_actions/rightsafteractions/io/TextFile$Lines" := (H53_E_o0.wr W9)
    obtain ⟨T10, h10, X10, e10, W10, st10⟩ := putF X9 hx hZ hown (host := "") (Or.inl (hw _ (List.mem_of_getElem? (i := 49) rfl))) Via.refl e9 F_11 Ex_12 (Or.inl (hw _ (List.mem_of_getElem? (i := 50) rfl))) (hw _ (List.mem_of_getElem? (i := 3) rfl)) (ty := .int) (by decide) rfl rfl (g := (mkF m 63 #[.val (.ref o0), .val (.int (1 : Int32)), .val (.int z27_l2)] [(.int z27_l2), (.ref o0)])) rfl rfl (hb hby d8_A_63)
    have Fw10 : Fld Z h10 o0 "com/example/rights_after_actions/rightsafteractions/io/TextFile$Lines" "end" "I" (.int z27_l2) := F_11.same W10
    refine Fini.st st10 ?_
    have N10 := Fr.snoc X10 N9 g0
    show Fini p e below s _ _ _ T10 (mkF m 66 #[.val (.ref o0), .val (.int (1 : Int32)), .val (.int z27_l2)] [])
    refine Fini.st (fun _ k => XS.aloadN X10.here hx rfl (hb hby d8_A_66) rfl rfl k) ?_
    show Fini p e below s _ _ _ T10 (mkF m 67 #[.val (.ref o0), .val (.int (1 : Int32)), .val (.int z27_l2)] [(.ref o0)])
    obtain ⟨T13, X13, e13, st13⟩ := getF X10 hx hZ hown (host := "") (Or.inl (hw _ (List.mem_of_getElem? (i := 49) rfl))) Via.refl e10 Fw10 (g := (mkF m 67 #[.val (.ref o0), .val (.int (1 : Int32)), .val (.int z27_l2)] [(.ref o0)])) rfl rfl (hb hby d8_A_67)
    refine Fini.st st13 ?_
    show Fini p e below s _ _ _ T13 (mkF m 70 #[.val (.ref o0), .val (.int (1 : Int32)), .val (.int z27_l2)] [(.int z27_l2)])
    refine Fini.st (fun _ k => XS.aloadN X13.here hx rfl (hb hby d8_A_70) rfl rfl k) ?_
    show Fini p e below s _ _ _ T13 (mkF m 71 #[.val (.ref o0), .val (.int (1 : Int32)), .val (.int z27_l2)] [(.ref o0), (.int z27_l2)])
    have F_15 : Fld Z h10 o0 "com/example/rights_after_actions/rightsafteractions/io/TextFile$Lines" "start" "I" (.int nx) := (Fw9.other W10 (Or.inr (slot_ne (Or.inl (hw _ (List.mem_of_getElem? (i := 43) rfl))) (Or.inl (hw _ (List.mem_of_getElem? (i := 50) rfl))) (by decide) (t := .int) (t' := .int) (by decide) (by decide))))
    obtain ⟨T14, X14, e14, st14⟩ := getF X13 hx hZ hown (host := "") (Or.inl (hw _ (List.mem_of_getElem? (i := 42) rfl))) Via.refl e13 F_15 (g := (mkF m 71 #[.val (.ref o0), .val (.int (1 : Int32)), .val (.int z27_l2)] [(.ref o0), (.int z27_l2)])) rfl rfl (hb hby d8_A_71)
    refine Fini.st st14 ?_
    show Fini p e below s _ _ _ T14 (mkF m 74 #[.val (.ref o0), .val (.int (1 : Int32)), .val (.int z27_l2)] [(.int nx), (.int z27_l2)])
    by_cases c16 : nx < z27_l2
    · skip
      refine Fini.st (fun _ k => XS.icmpNo X14.here hx rfl (hb hby d8_A_74) rfl (XT.ii_le_f c16) k) ?_
      show Fini p e below s _ _ _ T14 (mkF m 77 #[.val (.ref o0), .val (.int (1 : Int32)), .val (.int z27_l2)] [])
      refine Fini.st (fun _ k => XS.aloadN X14.here hx rfl (hb hby d8_A_77) rfl rfl k) ?_
      show Fini p e below s _ _ _ T14 (mkF m 78 #[.val (.ref o0), .val (.int (1 : Int32)), .val (.int z27_l2)] [(.ref o0)])
      have F_18 : Fld Z h10 o0 "com/example/rights_after_actions/rightsafteractions/io/TextFile$Lines" "content" "[B" (.ref cc) := ((H53_F_o0_content.other W9 (Or.inr (slot_ne (Or.inr (hw _ (List.mem_of_getElem? (i := 25) rfl))) (Or.inl (hw _ (List.mem_of_getElem? (i := 43) rfl))) (by decide) (t := (.array .byte)) (t' := .int) (by decide) (by decide)))).other W10 (Or.inr (slot_ne (Or.inr (hw _ (List.mem_of_getElem? (i := 25) rfl))) (Or.inl (hw _ (List.mem_of_getElem? (i := 50) rfl))) (by decide) (t := (.array .byte)) (t' := .int) (by decide) (by decide))))
      obtain ⟨T17, X17, e17, st17⟩ := getF X14 hx hZ hown (host := "") (Or.inl (hw _ (List.mem_of_getElem? (i := 24) rfl))) Via.refl e14 F_18 (g := (mkF m 78 #[.val (.ref o0), .val (.int (1 : Int32)), .val (.int z27_l2)] [(.ref o0)])) rfl rfl (hb hby d8_A_78)
      refine Fini.st st17 ?_
      show Fini p e below s _ _ _ T17 (mkF m 81 #[.val (.ref o0), .val (.int (1 : Int32)), .val (.int z27_l2)] [(.ref cc)])
      refine Fini.st (fun _ k => XS.aloadN X17.here hx rfl (hb hby d8_A_81) rfl rfl k) ?_
      show Fini p e below s _ _ _ T17 (mkF m 82 #[.val (.ref o0), .val (.int (1 : Int32)), .val (.int z27_l2)] [(.ref o0), (.ref cc)])
      obtain ⟨T19, X19, e19, st19⟩ := getF X17 hx hZ hown (host := "") (Or.inl (hw _ (List.mem_of_getElem? (i := 49) rfl))) Via.refl e17 Fw10 (g := (mkF m 82 #[.val (.ref o0), .val (.int (1 : Int32)), .val (.int z27_l2)] [(.ref o0), (.ref cc)])) rfl rfl (hb hby d8_A_82)
      refine Fini.st st19 ?_
      show Fini p e below s _ _ _ T19 (mkF m 85 #[.val (.ref o0), .val (.int (1 : Int32)), .val (.int z27_l2)] [(.int z27_l2), (.ref cc)])
      refine Fini.st (fun _ k => XS.iconst X19.here hx rfl (hb hby d8_A_85) k) ?_
      show Fini p e below s _ _ _ T19 (mkF m 86 #[.val (.ref o0), .val (.int (1 : Int32)), .val (.int z27_l2)] [(.int (1 : Int32)), (.int z27_l2), (.ref cc)])
      refine Fini.st (fun _ k => XS.isub X19.here hx rfl (hb hby d8_A_86) rfl k) ?_
      show Fini p e below s _ _ _ T19 (mkF m 87 #[.val (.ref o0), .val (.int (1 : Int32)), .val (.int z27_l2)] [(.int (z27_l2 - (1 : Int32))), (.ref cc)])
      have Ar_20 : AryI Z h10 cc .byte nv u := ((H53_A_cc.other W9 ne0).other W10 ne0)
      refine Fini.st (fun _ k => Ar_20.loadB X19 hx hZ e19 (own_in1 cy53_P c16 h0' h4) rfl rfl (hb hby d8_A_87) k) ?_
      show Fini p e below s _ _ _ T19 (mkF m 88 #[.val (.ref o0), .val (.int (1 : Int32)), .val (.int z27_l2)] [(.int (u ((z27_l2 - (1 : Int32))).toNatClampNeg))])
      refine Fini.st (fun _ k => XS.bipush X19.here hx rfl (hb hby d8_A_88) k) ?_
      show Fini p e below s _ _ _ T19 (mkF m 90 #[.val (.ref o0), .val (.int (1 : Int32)), .val (.int z27_l2)] [(.int (13 : Int32)), (.int (u ((z27_l2 - (1 : Int32))).toNatClampNeg))])
      by_cases c21 : (u ((z27_l2 - (1 : Int32))).toNatClampNeg) = (13 : Int32)
      · skip
        refine Fini.st (fun _ k => XS.icmpNo X19.here hx rfl (hb hby d8_A_90) rfl (XT.ii_ne_f c21) k) ?_
        show Fini p e below s _ _ _ T19 (mkF m 93 #[.val (.ref o0), .val (.int (1 : Int32)), .val (.int z27_l2)] [])
        refine Fini.st (fun _ k => XS.aloadN X19.here hx rfl (hb hby d8_A_93) rfl rfl k) ?_
        show Fini p e below s _ _ _ T19 (mkF m 94 #[.val (.ref o0), .val (.int (1 : Int32)), .val (.int z27_l2)] [(.ref o0)])
        refine Fini.st (fun _ k => XS.dup X19.here hx rfl (hb hby d8_A_94) rfl rfl k) ?_
        show Fini p e below s _ _ _ T19 (mkF m 95 #[.val (.ref o0), .val (.int (1 : Int32)), .val (.int z27_l2)] [(.ref o0), (.ref o0)])
        obtain ⟨T22, X22, e22, st22⟩ := getF X19 hx hZ hown (host := "") (Or.inl (hw _ (List.mem_of_getElem? (i := 49) rfl))) Via.refl e19 Fw10 (g := (mkF m 95 #[.val (.ref o0), .val (.int (1 : Int32)), .val (.int z27_l2)] [(.ref o0), (.ref o0)])) rfl rfl (hb hby d8_A_95)
        refine Fini.st st22 ?_
        show Fini p e below s _ _ _ T22 (mkF m 98 #[.val (.ref o0), .val (.int (1 : Int32)), .val (.int z27_l2)] [(.int z27_l2), (.ref o0)])
        refine Fini.st (fun _ k => XS.iconst X22.here hx rfl (hb hby d8_A_98) k) ?_
        show Fini p e below s _ _ _ T22 (mkF m 99 #[.val (.ref o0), .val (.int (1 : Int32)), .val (.int z27_l2)] [(.int (1 : Int32)), (.int z27_l2), (.ref o0)])
        refine Fini.st (fun _ k => XS.isub X22.here hx rfl (hb hby d8_A_99) rfl k) ?_
        show Fini p e below s _ _ _ T22 (mkF m 100 #[.val (.ref o0), .val (.int (1 : Int32)), .val (.int z27_l2)] [(.int (z27_l2 - (1 : Int32))), (.ref o0)])
        have Ex_24 : Exa Z h10 o0 "com/example/rights_after_actions/rightsafteractions/io/TextFile$Lines" := (Ex_12.wr W10)
        obtain ⟨T23, h23, X23, e23, W23, st23⟩ := putF X22 hx hZ hown (host := "") (Or.inl (hw _ (List.mem_of_getElem? (i := 49) rfl))) Via.refl e22 Fw10 Ex_24 (Or.inl (hw _ (List.mem_of_getElem? (i := 50) rfl))) (hw _ (List.mem_of_getElem? (i := 3) rfl)) (ty := .int) (by decide) rfl rfl (g := (mkF m 100 #[.val (.ref o0), .val (.int (1 : Int32)), .val (.int z27_l2)] [(.int (z27_l2 - (1 : Int32))), (.ref o0)])) rfl rfl (hb hby d8_A_100)
        have Fw23 : Fld Z h23 o0 "com/example/rights_after_actions/rightsafteractions/io/TextFile$Lines" "end" "I" (.int (z27_l2 - (1 : Int32))) := Fw10.same W23
        refine Fini.st st23 ?_
        have N23 := Fr.snoc X23 N10 g0
        show Fini p e below s _ _ _ T23 (mkF m 103 #[.val (.ref o0), .val (.int (1 : Int32)), .val (.int z27_l2)] [])
        have Fe25 : Fld Z h23 o0 "com/example/rights_after_actions/rightsafteractions/io/TextFile$Lines" "end" "I" (.int (own_E u nx z27_l2)) := by rw [show own_E u nx z27_l2 = (z27_l2 - (1 : Int32)) from ((if_pos c16).trans (if_pos c21))]; exact Fw23
        have Ex_38 : Exa Z h23 o0 "com/example/rights_after_actions/rightsafteractions/io/TextFile$Lines" := (Ex_24.wr W23)
        have F_39 : Fld Z h23 o0 "com/example/rights_after_actions/rightsafteractions/io/TextFile$Lines" "content" "[B" (.ref cc) := (F_18.other W23 (Or.inr (slot_ne (Or.inr (hw _ (List.mem_of_getElem? (i := 25) rfl))) (Or.inl (hw _ (List.mem_of_getElem? (i := 50) rfl))) (by decide) (t := (.array .byte)) (t' := .int) (by decide) (by decide))))
        have F_40 : Fld Z h23 o0 "com/example/rights_after_actions/rightsafteractions/io/TextFile$Lines" "number" "I" (.int nu) := (((H53_F_o0_number.other W9 (Or.inr (slot_ne (Or.inl (hw _ (List.mem_of_getElem? (i := 36) rfl))) (Or.inl (hw _ (List.mem_of_getElem? (i := 43) rfl))) (by decide) (t := .int) (t' := .int) (by decide) (by decide)))).other W10 (Or.inr (slot_ne (Or.inl (hw _ (List.mem_of_getElem? (i := 36) rfl))) (Or.inl (hw _ (List.mem_of_getElem? (i := 50) rfl))) (by decide) (t := .int) (t' := .int) (by decide) (by decide)))).other W23 (Or.inr (slot_ne (Or.inl (hw _ (List.mem_of_getElem? (i := 36) rfl))) (Or.inl (hw _ (List.mem_of_getElem? (i := 50) rfl))) (by decide) (t := .int) (t' := .int) (by decide) (by decide))))
        have F_41 : Fld Z h23 o0 "com/example/rights_after_actions/rightsafteractions/io/TextFile$Lines" "start" "I" (.int nx) := (F_15.other W23 (Or.inr (slot_ne (Or.inl (hw _ (List.mem_of_getElem? (i := 43) rfl))) (Or.inl (hw _ (List.mem_of_getElem? (i := 50) rfl))) (by decide) (t := .int) (t' := .int) (by decide) (by decide))))
        have F_42 : Fld Z h23 o0 "com/example/rights_after_actions/rightsafteractions/io/TextFile$Lines" "next" "I" (.int nx) := (((H53_F_o0_next.other W9 (Or.inr (slot_ne (Or.inl (hw _ (List.mem_of_getElem? (i := 57) rfl))) (Or.inl (hw _ (List.mem_of_getElem? (i := 43) rfl))) (by decide) (t := .int) (t' := .int) (by decide) (by decide)))).other W10 (Or.inr (slot_ne (Or.inl (hw _ (List.mem_of_getElem? (i := 57) rfl))) (Or.inl (hw _ (List.mem_of_getElem? (i := 50) rfl))) (by decide) (t := .int) (t' := .int) (by decide) (by decide)))).other W23 (Or.inr (slot_ne (Or.inl (hw _ (List.mem_of_getElem? (i := 57) rfl))) (Or.inl (hw _ (List.mem_of_getElem? (i := 50) rfl))) (by decide) (t := .int) (t' := .int) (by decide) (by decide))))
        have Ar_43 : AryI Z h23 cc .byte nv u := (Ar_20.other W23 ne0)
        have Zs_44 : n0 ≤ h23.size := (Nat.le_trans (Nat.le_trans (Nat.le_trans H53_Z (Nat.le_of_eq W9.size.symm)) (Nat.le_of_eq W10.size.symm)) (Nat.le_of_eq W23.size.symm))
        have Kp_45 : Keep h0 h23 [o0] := (Keep.wr (Keep.wr (Keep.wr H53_K W9 (Or.inl (List.mem_of_getElem? (i := 0) rfl))) W10 (Or.inl (List.mem_of_getElem? (i := 0) rfl))) W23 (Or.inl (List.mem_of_getElem? (i := 0) rfl)))
        exact B103 T23 _ _ (X23.more (cells' := 0) (slots' := 0) (by decide) (by decide)) e23 z27_l2 N23 Ex_38 F_39 F_40 F_41 Fe25 F_42 Ar_43 Zs_44 Kp_45 cy53_P
      · skip
        refine Fini.st (fun _ k => XS.icmpYes X19.here hx rfl (pc0 := 90) (pc' := 103) rfl (hb hby d8_A_90) rfl (XT.ii_ne_t c21) (by decide) (by decide) k) ?_
        show Fini p e below s _ _ _ T19 (mkF m 103 #[.val (.ref o0), .val (.int (1 : Int32)), .val (.int z27_l2)] [])
        have Fe26 : Fld Z h10 o0 "com/example/rights_after_actions/rightsafteractions/io/TextFile$Lines" "end" "I" (.int (own_E u nx z27_l2)) := by rw [show own_E u nx z27_l2 = z27_l2 from ((if_pos c16).trans (if_neg c21))]; exact Fw10
        have Ex_46 : Exa Z h10 o0 "com/example/rights_after_actions/rightsafteractions/io/TextFile$Lines" := (Ex_12.wr W10)
        have F_47 : Fld Z h10 o0 "com/example/rights_after_actions/rightsafteractions/io/TextFile$Lines" "number" "I" (.int nu) := ((H53_F_o0_number.other W9 (Or.inr (slot_ne (Or.inl (hw _ (List.mem_of_getElem? (i := 36) rfl))) (Or.inl (hw _ (List.mem_of_getElem? (i := 43) rfl))) (by decide) (t := .int) (t' := .int) (by decide) (by decide)))).other W10 (Or.inr (slot_ne (Or.inl (hw _ (List.mem_of_getElem? (i := 36) rfl))) (Or.inl (hw _ (List.mem_of_getElem? (i := 50) rfl))) (by decide) (t := .int) (t' := .int) (by decide) (by decide))))
        have F_48 : Fld Z h10 o0 "com/example/rights_after_actions/rightsafteractions/io/TextFile$Lines" "next" "I" (.int nx) := ((H53_F_o0_next.other W9 (Or.inr (slot_ne (Or.inl (hw _ (List.mem_of_getElem? (i := 57) rfl))) (Or.inl (hw _ (List.mem_of_getElem? (i := 43) rfl))) (by decide) (t := .int) (t' := .int) (by decide) (by decide)))).other W10 (Or.inr (slot_ne (Or.inl (hw _ (List.mem_of_getElem? (i := 57) rfl))) (Or.inl (hw _ (List.mem_of_getElem? (i := 50) rfl))) (by decide) (t := .int) (t' := .int) (by decide) (by decide))))
        have Zs_49 : n0 ≤ h10.size := (Nat.le_trans (Nat.le_trans H53_Z (Nat.le_of_eq W9.size.symm)) (Nat.le_of_eq W10.size.symm))
        have Kp_50 : Keep h0 h10 [o0] := (Keep.wr (Keep.wr H53_K W9 (Or.inl (List.mem_of_getElem? (i := 0) rfl))) W10 (Or.inl (List.mem_of_getElem? (i := 0) rfl)))
        exact B103 T19 _ _ (X19.more (cells' := 0) (slots' := 0) (by decide) (by decide)) e19 z27_l2 N10 Ex_46 F_18 F_47 F_15 Fe26 F_48 Ar_20 Zs_49 Kp_50 cy53_P
    · skip
      refine Fini.st (fun _ k => XS.icmpYes X14.here hx rfl (pc0 := 74) (pc' := 103) rfl (hb hby d8_A_74) rfl (XT.ii_le_t c16) (by decide) (by decide) k) ?_
      show Fini p e below s _ _ _ T14 (mkF m 103 #[.val (.ref o0), .val (.int (1 : Int32)), .val (.int z27_l2)] [])
      have Fe27 : Fld Z h10 o0 "com/example/rights_after_actions/rightsafteractions/io/TextFile$Lines" "end" "I" (.int (own_E u nx z27_l2)) := by rw [show own_E u nx z27_l2 = z27_l2 from (if_neg c16)]; exact Fw10
      have Ex_51 : Exa Z h10 o0 "com/example/rights_after_actions/rightsafteractions/io/TextFile$Lines" := (Ex_12.wr W10)
      have F_52 : Fld Z h10 o0 "com/example/rights_after_actions/rightsafteractions/io/TextFile$Lines" "content" "[B" (.ref cc) := ((H53_F_o0_content.other W9 (Or.inr (slot_ne (Or.inr (hw _ (List.mem_of_getElem? (i := 25) rfl))) (Or.inl (hw _ (List.mem_of_getElem? (i := 43) rfl))) (by decide) (t := (.array .byte)) (t' := .int) (by decide) (by decide)))).other W10 (Or.inr (slot_ne (Or.inr (hw _ (List.mem_of_getElem? (i := 25) rfl))) (Or.inl (hw _ (List.mem_of_getElem? (i := 50) rfl))) (by decide) (t := (.array .byte)) (t' := .int) (by decide) (by decide))))
      have F_53 : Fld Z h10 o0 "com/example/rights_after_actions/rightsafteractions/io/TextFile$Lines" "number" "I" (.int nu) := ((H53_F_o0_number.other W9 (Or.inr (slot_ne (Or.inl (hw _ (List.mem_of_getElem? (i := 36) rfl))) (Or.inl (hw _ (List.mem_of_getElem? (i := 43) rfl))) (by decide) (t := .int) (t' := .int) (by decide) (by decide)))).other W10 (Or.inr (slot_ne (Or.inl (hw _ (List.mem_of_getElem? (i := 36) rfl))) (Or.inl (hw _ (List.mem_of_getElem? (i := 50) rfl))) (by decide) (t := .int) (t' := .int) (by decide) (by decide))))
      have F_54 : Fld Z h10 o0 "com/example/rights_after_actions/rightsafteractions/io/TextFile$Lines" "next" "I" (.int nx) := ((H53_F_o0_next.other W9 (Or.inr (slot_ne (Or.inl (hw _ (List.mem_of_getElem? (i := 57) rfl))) (Or.inl (hw _ (List.mem_of_getElem? (i := 43) rfl))) (by decide) (t := .int) (t' := .int) (by decide) (by decide)))).other W10 (Or.inr (slot_ne (Or.inl (hw _ (List.mem_of_getElem? (i := 57) rfl))) (Or.inl (hw _ (List.mem_of_getElem? (i := 50) rfl))) (by decide) (t := .int) (t' := .int) (by decide) (by decide))))
      have Ar_55 : AryI Z h10 cc .byte nv u := ((H53_A_cc.other W9 ne0).other W10 ne0)
      have Zs_56 : n0 ≤ h10.size := (Nat.le_trans (Nat.le_trans H53_Z (Nat.le_of_eq W9.size.symm)) (Nat.le_of_eq W10.size.symm))
      have Kp_57 : Keep h0 h10 [o0] := (Keep.wr (Keep.wr H53_K W9 (Or.inl (List.mem_of_getElem? (i := 0) rfl))) W10 (Or.inl (List.mem_of_getElem? (i := 0) rfl)))
      exact B103 T14 _ _ (X14.more (cells' := 0) (slots' := 0) (by decide) (by decide)) e14 z27_l2 N10 Ex_51 F_52 F_53 F_15 Fe27 F_54 Ar_55 Zs_56 Kp_57 cy53_P
  have B27 : ∀ (fuel : Nat) (T_27 : State) (h_27 : Heap) (locs : List Loc) (X_27 : Stand p l e ({ frames := 0, cells := 0, slots := 0, locals := 0 } : Room) s m #[(.ref o0)] below meth c T_27 locs 0 0) (e_27 : T_27.heap = h_27) (z27_l2 : Int32) (N_27 : Fr n0 locs) (H27_E_o0 : Exa Z h_27 o0 "com/example/rights_after_actions/rightsafteractions/io/TextFile$Lines") (H27_F_o0_content : Fld Z h_27 o0 "com/example/rights_after_actions/rightsafteractions/io/TextFile$Lines" "content" "[B" (.ref cc)) (H27_F_o0_number : Fld Z h_27 o0 "com/example/rights_after_actions/rightsafteractions/io/TextFile$Lines" "number" "I" (.int nu)) (H27_F_o0_start : Fld Z h_27 o0 "com/example/rights_after_actions/rightsafteractions/io/TextFile$Lines" "start" "I" (.int st)) (H27_F_o0_end : Fld Z h_27 o0 "com/example/rights_after_actions/rightsafteractions/io/TextFile$Lines" "end" "I" (.int en)) (H27_F_o0_next : Fld Z h_27 o0 "com/example/rights_after_actions/rightsafteractions/io/TextFile$Lines" "next" "I" (.int nx)) (H27_A_cc : AryI Z h_27 cc .byte nv u) (H27_Z : n0 ≤ h_27.size) (H27_K : Keep h0 h_27 [o0]) (cy27_I : own_I u nv nx z27_l2) (cy27_F : nv.toInt - z27_l2.toInt < (fuel : Int)), Fini p e below s (fun v h' L => v = some (.int 1) ∧ Fr n0 L ∧ Keep h0 h' [o0] ∧ ∃ Fx : Int32, own_P u nv nx Fx ∧ Fld Z h' o0 "com/example/rights_after_actions/rightsafteractions/io/TextFile$Lines" "content" "[B" (.ref cc) ∧ Fld Z h' o0 "com/example/rights_after_actions/rightsafteractions/io/TextFile$Lines" "number" "I" (.int (nu + (1 : Int32))) ∧ Fld Z h' o0 "com/example/rights_after_actions/rightsafteractions/io/TextFile$Lines" "start" "I" (.int nx) ∧ Fld Z h' o0 "com/example/rights_after_actions/rightsafteractions/io/TextFile$Lines" "end" "I" (.int (own_E u nx Fx)) ∧ Fld Z h' o0 "com/example/rights_after_actions/rightsafteractions/io/TextFile$Lines" "next" "I" (.int (Fx + (1 : Int32)))) (Room.cells ({ frames := 0, cells := 0, slots := 0, locals := 0 } : Room)) (Room.slots ({ frames := 0, cells := 0, slots := 0, locals := 0 } : Room)) T_27 (mkF m 27 #[.val (.ref o0), .val (.int (1 : Int32)), .val (.int z27_l2)] []) := by
    intro fuel
    induction fuel with
    | zero =>
      intro T_27 h_27 locs X_27 e_27 z27_l2 N_27 H27_E_o0 H27_F_o0_content H27_F_o0_number H27_F_o0_start H27_F_o0_end H27_F_o0_next H27_A_cc H27_Z H27_K cy27_I cy27_F
      exact absurd cy27_F (own_I2 cy27_I)
    | succ fuel ih =>
      intro T_27 h_27 locs X_27 e_27 z27_l2 N_27 H27_E_o0 H27_F_o0_content H27_F_o0_number H27_F_o0_start H27_F_o0_end H27_F_o0_next H27_A_cc H27_Z H27_K cy27_I cy27_F
      refine Fini.st (fun _ k => XS.iloadN X_27.here hx rfl (hb hby d8_A_27) rfl k) ?_
      show Fini p e below s _ _ _ T_27 (mkF m 28 #[.val (.ref o0), .val (.int (1 : Int32)), .val (.int z27_l2)] [(.int z27_l2)])
      refine Fini.st (fun _ k => XS.aloadN X_27.here hx rfl (hb hby d8_A_28) rfl rfl k) ?_
      show Fini p e below s _ _ _ T_27 (mkF m 29 #[.val (.ref o0), .val (.int (1 : Int32)), .val (.int z27_l2)] [(.ref o0), (.int z27_l2)])
      obtain ⟨T4, X4, e4, st4⟩ := getF X_27 hx hZ hown (host := "") (Or.inl (hw _ (List.mem_of_getElem? (i := 24) rfl))) Via.refl e_27 H27_F_o0_content (g := (mkF m 29 #[.val (.ref o0), .val (.int (1 : Int32)), .val (.int z27_l2)] [(.ref o0), (.int z27_l2)])) rfl rfl (hb hby d8_A_29)
      refine Fini.st st4 ?_
      show Fini p e below s _ _ _ T4 (mkF m 32 #[.val (.ref o0), .val (.int (1 : Int32)), .val (.int z27_l2)] [(.ref cc), (.int z27_l2)])
      refine Fini.st (fun _ k => H27_A_cc.len X4 hx hZ e4 rfl rfl (hb hby d8_A_32) k) ?_
      show Fini p e below s _ _ _ T4 (mkF m 33 #[.val (.ref o0), .val (.int (1 : Int32)), .val (.int z27_l2)] [(.int nv), (.int z27_l2)])
      by_cases c5 : z27_l2 < nv
      · skip
        refine Fini.st (fun _ k => XS.icmpNo X4.here hx rfl (hb hby d8_A_33) rfl (XT.ii_ge_f c5) k) ?_
        show Fini p e below s _ _ _ T4 (mkF m 36 #[.val (.ref o0), .val (.int (1 : Int32)), .val (.int z27_l2)] [])
        refine Fini.st (fun _ k => XS.aloadN X4.here hx rfl (hb hby d8_A_36) rfl rfl k) ?_
        show Fini p e below s _ _ _ T4 (mkF m 37 #[.val (.ref o0), .val (.int (1 : Int32)), .val (.int z27_l2)] [(.ref o0)])
        obtain ⟨T6, X6, e6, st6⟩ := getF X4 hx hZ hown (host := "") (Or.inl (hw _ (List.mem_of_getElem? (i := 24) rfl))) Via.refl e4 H27_F_o0_content (g := (mkF m 37 #[.val (.ref o0), .val (.int (1 : Int32)), .val (.int z27_l2)] [(.ref o0)])) rfl rfl (hb hby d8_A_37)
        refine Fini.st st6 ?_
        show Fini p e below s _ _ _ T6 (mkF m 40 #[.val (.ref o0), .val (.int (1 : Int32)), .val (.int z27_l2)] [(.ref cc)])
        refine Fini.st (fun _ k => XS.iloadN X6.here hx rfl (hb hby d8_A_40) rfl k) ?_
        show Fini p e below s _ _ _ T6 (mkF m 41 #[.val (.ref o0), .val (.int (1 : Int32)), .val (.int z27_l2)] [(.int z27_l2), (.ref cc)])
        refine Fini.st (fun _ k => H27_A_cc.loadB X6 hx hZ e6 (own_in cy27_I c5 h0') rfl rfl (hb hby d8_A_41) k) ?_
        show Fini p e below s _ _ _ T6 (mkF m 42 #[.val (.ref o0), .val (.int (1 : Int32)), .val (.int z27_l2)] [(.int (u (z27_l2).toNatClampNeg))])
        refine Fini.st (fun _ k => XS.bipush X6.here hx rfl (hb hby d8_A_42) k) ?_
        show Fini p e below s _ _ _ T6 (mkF m 44 #[.val (.ref o0), .val (.int (1 : Int32)), .val (.int z27_l2)] [(.int (10 : Int32)), (.int (u (z27_l2).toNatClampNeg))])
        by_cases c7 : (u (z27_l2).toNatClampNeg) = (10 : Int32)
        · skip
          refine Fini.st (fun _ k => XS.icmpYes X6.here hx rfl (pc0 := 44) (pc' := 53) rfl (hb hby d8_A_44) rfl (XT.ii_eq_t c7) (by decide) (by decide) k) ?_
          show Fini p e below s _ _ _ T6 (mkF m 53 #[.val (.ref o0), .val (.int (1 : Int32)), .val (.int z27_l2)] [])
          exact B53 T6 _ _ (X6.more (cells' := 0) (slots' := 0) (by decide) (by decide)) e6 z27_l2 N_27 H27_E_o0 H27_F_o0_content H27_F_o0_number H27_F_o0_start H27_F_o0_end H27_F_o0_next H27_A_cc H27_Z H27_K (own_P1 cy27_I c5 c7)
        · skip
          refine Fini.st (fun _ k => XS.icmpNo X6.here hx rfl (hb hby d8_A_44) rfl (XT.ii_eq_f c7) k) ?_
          show Fini p e below s _ _ _ T6 (mkF m 47 #[.val (.ref o0), .val (.int (1 : Int32)), .val (.int z27_l2)] [])
          refine Fini.st (fun _ k => XS.iinc X6.here hx rfl (hb hby d8_A_47) rfl (l' := #[.val (.ref o0), .val (.int (1 : Int32)), .val (.int (z27_l2 + (1 : Int32)))]) rfl k) ?_
          show Fini p e below s _ _ _ T6 (mkF m 50 #[.val (.ref o0), .val (.int (1 : Int32)), .val (.int (z27_l2 + (1 : Int32)))] [])
          refine Fini.st (fun _ k => XS.goto X6.here hx rfl (pc0 := 50) (pc' := 27) rfl (hb hby d8_A_50) (by decide) (by decide) k) ?_
          show Fini p e below s _ _ _ T6 (mkF m 27 #[.val (.ref o0), .val (.int (1 : Int32)), .val (.int (z27_l2 + (1 : Int32)))] [])
          exact ih T6 _ _ (X6.more (cells' := 0) (slots' := 0) (by decide) (by decide)) e6 (z27_l2 + (1 : Int32)) N_27 H27_E_o0 H27_F_o0_content H27_F_o0_number H27_F_o0_start H27_F_o0_end H27_F_o0_next H27_A_cc H27_Z H27_K (own_I1 cy27_I c5 c7 h4) (own_F1 cy27_I cy27_F c5 h4)
      · skip
        refine Fini.st (fun _ k => XS.icmpYes X4.here hx rfl (pc0 := 33) (pc' := 53) rfl (hb hby d8_A_33) rfl (XT.ii_ge_t c5) (by decide) (by decide) k) ?_
        show Fini p e below s _ _ _ T4 (mkF m 53 #[.val (.ref o0), .val (.int (1 : Int32)), .val (.int z27_l2)] [])
        exact B53 T4 _ _ (X4.more (cells' := 0) (slots' := 0) (by decide) (by decide)) e4 z27_l2 N_27 H27_E_o0 H27_F_o0_content H27_F_o0_number H27_F_o0_start H27_F_o0_end H27_F_o0_next H27_A_cc H27_Z H27_K (own_P0 cy27_I c5)
  show Fini p e below s (fun v h' L => v = some (.int 1) ∧ Fr n0 L ∧ Keep h0 h' [o0] ∧ ∃ Fx : Int32, own_P u nv nx Fx ∧ Fld Z h' o0 "com/example/rights_after_actions/rightsafteractions/io/TextFile$Lines" "content" "[B" (.ref cc) ∧ Fld Z h' o0 "com/example/rights_after_actions/rightsafteractions/io/TextFile$Lines" "number" "I" (.int (nu + (1 : Int32))) ∧ Fld Z h' o0 "com/example/rights_after_actions/rightsafteractions/io/TextFile$Lines" "start" "I" (.int nx) ∧ Fld Z h' o0 "com/example/rights_after_actions/rightsafteractions/io/TextFile$Lines" "end" "I" (.int (own_E u nx Fx)) ∧ Fld Z h' o0 "com/example/rights_after_actions/rightsafteractions/io/TextFile$Lines" "next" "I" (.int (Fx + (1 : Int32)))) _ _ s₁ (entryFrame m #[(.ref o0)] 3)
  refine Fini.cast (ef8_A m o0) ?_
  show Fini p e below s _ _ _ s₁ (mkF m 0 #[.val (.ref o0), .unset, .unset] [])
  refine Fini.st (fun _ k => XS.aloadN X0.here hx rfl (hb hby d8_A_0) rfl rfl k) ?_
  show Fini p e below s _ _ _ s₁ (mkF m 1 #[.val (.ref o0), .unset, .unset] [(.ref o0)])
  obtain ⟨T1, X1, e1, st1⟩ := getF X0 hx hZ hown (host := "") (Or.inl (hw _ (List.mem_of_getElem? (i := 56) rfl))) Via.refl e0 F_next (g := (mkF m 1 #[.val (.ref o0), .unset, .unset] [(.ref o0)])) rfl rfl (hb hby d8_A_1)
  refine Fini.st st1 ?_
  show Fini p e below s _ _ _ T1 (mkF m 4 #[.val (.ref o0), .unset, .unset] [(.int nx)])
  refine Fini.st (fun _ k => XS.aloadN X1.here hx rfl (hb hby d8_A_4) rfl rfl k) ?_
  show Fini p e below s _ _ _ T1 (mkF m 5 #[.val (.ref o0), .unset, .unset] [(.ref o0), (.int nx)])
  obtain ⟨T2, X2, e2, st2⟩ := getF X1 hx hZ hown (host := "") (Or.inl (hw _ (List.mem_of_getElem? (i := 24) rfl))) Via.refl e1 F_content (g := (mkF m 5 #[.val (.ref o0), .unset, .unset] [(.ref o0), (.int nx)])) rfl rfl (hb hby d8_A_5)
  refine Fini.st st2 ?_
  show Fini p e below s _ _ _ T2 (mkF m 8 #[.val (.ref o0), .unset, .unset] [(.ref cc), (.int nx)])
  refine Fini.st (fun _ k => A_c.len X2 hx hZ e2 rfl rfl (hb hby d8_A_8) k) ?_
  show Fini p e below s _ _ _ T2 (mkF m 9 #[.val (.ref o0), .unset, .unset] [(.int nv), (.int nx)])
  refine Fini.st (fun _ k => XS.icmpNo X2.here hx rfl (hb hby d8_A_9) rfl (XT.ii_ge_f hA) k) ?_
  show Fini p e below s _ _ _ T2 (mkF m 12 #[.val (.ref o0), .unset, .unset] [])
  refine Fini.st (fun _ k => XS.iconst X2.here hx rfl (hb hby d8_A_12) k) ?_
  show Fini p e below s _ _ _ T2 (mkF m 13 #[.val (.ref o0), .unset, .unset] [(.int (1 : Int32))])
  refine Fini.st (fun _ k => XS.goto X2.here hx rfl (pc0 := 13) (pc' := 17) rfl (hb hby d8_A_13) (by decide) (by decide) k) ?_
  show Fini p e below s _ _ _ T2 (mkF m 17 #[.val (.ref o0), .unset, .unset] [(.int (1 : Int32))])
  refine Fini.st (fun _ k => XS.istoreN X2.here hx rfl (hb hby d8_A_17) rfl (l' := #[.val (.ref o0), .val (.int (1 : Int32)), .unset]) rfl k) ?_
  show Fini p e below s _ _ _ T2 (mkF m 18 #[.val (.ref o0), .val (.int (1 : Int32)), .unset] [])
  refine Fini.st (fun _ k => XS.iloadN X2.here hx rfl (hb hby d8_A_18) rfl k) ?_
  show Fini p e below s _ _ _ T2 (mkF m 19 #[.val (.ref o0), .val (.int (1 : Int32)), .unset] [(.int (1 : Int32))])
  refine Fini.st (fun _ k => XS.ifNo X2.here hx rfl (hb hby d8_A_19) rfl (XT.i0_eq_f (by decide : ¬ (1 : Int32) = (0 : Int32))) k) ?_
  show Fini p e below s _ _ _ T2 (mkF m 22 #[.val (.ref o0), .val (.int (1 : Int32)), .unset] [])
  refine Fini.st (fun _ k => XS.aloadN X2.here hx rfl (hb hby d8_A_22) rfl rfl k) ?_
  show Fini p e below s _ _ _ T2 (mkF m 23 #[.val (.ref o0), .val (.int (1 : Int32)), .unset] [(.ref o0)])
  obtain ⟨T3, X3, e3, st3⟩ := getF X2 hx hZ hown (host := "") (Or.inl (hw _ (List.mem_of_getElem? (i := 56) rfl))) Via.refl e2 F_next (g := (mkF m 23 #[.val (.ref o0), .val (.int (1 : Int32)), .unset] [(.ref o0)])) rfl rfl (hb hby d8_A_23)
  refine Fini.st st3 ?_
  show Fini p e below s _ _ _ T3 (mkF m 26 #[.val (.ref o0), .val (.int (1 : Int32)), .unset] [(.int nx)])
  refine Fini.st (fun _ k => XS.istoreN X3.here hx rfl (hb hby d8_A_26) rfl (l' := #[.val (.ref o0), .val (.int (1 : Int32)), .val (.int nx)]) rfl k) ?_
  show Fini p e below s _ _ _ T3 (mkF m 27 #[.val (.ref o0), .val (.int (1 : Int32)), .val (.int nx)] [])
  exact B27 5 T3 _ _ (X3.more (cells' := 0) (slots' := 0) (by decide) (by decide)) e3 nx N0 E_o0 F_content F_number F_start F_end F_next A_c Z0 (Keep.refl h0 [o0]) (own_I0 h0' hA) (own_F0 h0' h4)
theorem d8_B_0 : decode prog_68_method_2_code 0 = .ok (.aload_n 0, 1) := by decide +kernel
theorem d8_B_1 : decode prog_68_method_2_code 1 = .ok (.getfield 23, 3) := by decide +kernel
theorem d8_B_4 : decode prog_68_method_2_code 4 = .ok (.aload_n 0, 1) := by decide +kernel
theorem d8_B_5 : decode prog_68_method_2_code 5 = .ok (.getfield 19, 3) := by decide +kernel
theorem d8_B_8 : decode prog_68_method_2_code 8 = .ok (.arraylength, 1) := by decide +kernel
theorem d8_B_9 : decode prog_68_method_2_code 9 = .ok (.if_icmp .ge 7, 3) := by decide +kernel
theorem d8_B_16 : decode prog_68_method_2_code 16 = .ok (.iconst 0, 1) := by decide +kernel
theorem d8_B_17 : decode prog_68_method_2_code 17 = .ok (.istore_n 1, 1) := by decide +kernel
theorem d8_B_18 : decode prog_68_method_2_code 18 = .ok (.iload_n 1, 1) := by decide +kernel
theorem d8_B_19 : decode prog_68_method_2_code 19 = .ok (.ifCond .eq 101, 3) := by decide +kernel
theorem d8_B_120 : decode prog_68_method_2_code 120 = .ok (.iload_n 1, 1) := by decide +kernel
theorem d8_B_121 : decode prog_68_method_2_code 121 = .ok (.ireturn, 1) := by decide +kernel
theorem ef8_B (m : MethodId) (x0 : Addr) : entryFrame m #[(.ref x0)] 3 = mkF m 0 #[.val (.ref x0), .unset, .unset] [] := by first | (simp [entryFrame, mkF, argsToLocals, Value.category]; done) | rfl
def f8_B (nv : Int32) (u : Nat → Int32) (nx : Int32) : Int32 := (0 : Int32)
set_option maxRecDepth 65536 in
set_option maxHeartbeats 40000000 in
theorem rm8_B (l : Launch) (Z : State) (a0 : Array Value) (hw : ∀ d ∈ tables_1, d.before a0 Z = true) (ws : List Jvm.Cond) (o0 : Addr) (cc : Addr) (nv : Int32) (u : Nat → Int32) (nx : Int32) (h0 : Heap) (F_content : Fld Z h0 o0 "com/example/rights_after_actions/rightsafteractions/io/TextFile$Lines" "content" "[B" (.ref cc)) (F_next : Fld Z h0 o0 "com/example/rights_after_actions/rightsafteractions/io/TextFile$Lines" "next" "I" (.int nx)) (A_c : AryI Z h0 cc .byte nv u) (hB : ¬ nx < nv) :
    Cmet l Z (⟨"com/example/rights_after_actions/rightsafteractions/io/TextFile$Lines", "next", "()Z"⟩ : MethodName) prog_68_method_2_code 3 (some .boolean) ws ({ frames := 0, cells := 0, slots := 0, locals := 0 } : Room) #[(.ref o0)] h0 (fun v h' L => v = some (.int (f8_B nv u nx)) ∧ h' = h0 ∧ L = []) := by
  refine MetFree.of_bodySF (plainFor_of_name pn_1) hisR ?_
  intro p e s m args below meth c s₁ Bd hml0 hP hK
  obtain ⟨rfl, hZ, hh⟩ := hP
  have hx := Bd.exec
  have hlk : meth.locks = false := BodyLoose.notSynchronized Bd
  have hby := Bd.bytes
  have hml : c.maxLocals = 3 := hml0
  have hown : s.vm.findClass "com/example/rights_after_actions/rightsafteractions/io/TextFile$Lines" = some m.cls := findClass_of_methodNamed Bd.named
  have hnm := (name_of_methodNamed Bd.named Bd.method).1
  have X0 : Stand p l e ({ frames := 0, cells := 0, slots := 0, locals := 0 } : Room) s m #[(.ref o0)] below meth c s₁ [] 0 0 := Stand.of_body Bd
  have e0 : s₁.heap = h0 := by rw [← hh, Bd.state]; rfl
  have hv0 : f8_B nv u nx = f8_B nv u nx := rfl
  show Fini p e below s (fun v h' L => v = some (.int (f8_B nv u nx)) ∧ h' = h0 ∧ L = []) _ _ s₁ (entryFrame m #[(.ref o0)] 3)
  refine Fini.cast (ef8_B m o0) ?_
  show Fini p e below s _ _ _ s₁ (mkF m 0 #[.val (.ref o0), .unset, .unset] [])
  refine Fini.st (fun _ k => XS.aloadN X0.here hx rfl (hb hby d8_B_0) rfl rfl k) ?_
  show Fini p e below s _ _ _ s₁ (mkF m 1 #[.val (.ref o0), .unset, .unset] [(.ref o0)])
  obtain ⟨T1, X1, e1, st1⟩ := getF X0 hx hZ hown (host := "") (Or.inl (hw _ (List.mem_of_getElem? (i := 56) rfl))) Via.refl e0 F_next (g := (mkF m 1 #[.val (.ref o0), .unset, .unset] [(.ref o0)])) rfl rfl (hb hby d8_B_1)
  refine Fini.st st1 ?_
  show Fini p e below s _ _ _ T1 (mkF m 4 #[.val (.ref o0), .unset, .unset] [(.int nx)])
  refine Fini.st (fun _ k => XS.aloadN X1.here hx rfl (hb hby d8_B_4) rfl rfl k) ?_
  show Fini p e below s _ _ _ T1 (mkF m 5 #[.val (.ref o0), .unset, .unset] [(.ref o0), (.int nx)])
  obtain ⟨T2, X2, e2, st2⟩ := getF X1 hx hZ hown (host := "") (Or.inl (hw _ (List.mem_of_getElem? (i := 24) rfl))) Via.refl e1 F_content (g := (mkF m 5 #[.val (.ref o0), .unset, .unset] [(.ref o0), (.int nx)])) rfl rfl (hb hby d8_B_5)
  refine Fini.st st2 ?_
  show Fini p e below s _ _ _ T2 (mkF m 8 #[.val (.ref o0), .unset, .unset] [(.ref cc), (.int nx)])
  refine Fini.st (fun _ k => A_c.len X2 hx hZ e2 rfl rfl (hb hby d8_B_8) k) ?_
  show Fini p e below s _ _ _ T2 (mkF m 9 #[.val (.ref o0), .unset, .unset] [(.int nv), (.int nx)])
  refine Fini.st (fun _ k => XS.icmpYes X2.here hx rfl (pc0 := 9) (pc' := 16) rfl (hb hby d8_B_9) rfl (XT.ii_ge_t hB) (by decide) (by decide) k) ?_
  show Fini p e below s _ _ _ T2 (mkF m 16 #[.val (.ref o0), .unset, .unset] [])
  refine Fini.st (fun _ k => XS.iconst X2.here hx rfl (hb hby d8_B_16) k) ?_
  show Fini p e below s _ _ _ T2 (mkF m 17 #[.val (.ref o0), .unset, .unset] [(.int (0 : Int32))])
  refine Fini.st (fun _ k => XS.istoreN X2.here hx rfl (hb hby d8_B_17) rfl (l' := #[.val (.ref o0), .val (.int (0 : Int32)), .unset]) rfl k) ?_
  show Fini p e below s _ _ _ T2 (mkF m 18 #[.val (.ref o0), .val (.int (0 : Int32)), .unset] [])
  refine Fini.st (fun _ k => XS.iloadN X2.here hx rfl (hb hby d8_B_18) rfl k) ?_
  show Fini p e below s _ _ _ T2 (mkF m 19 #[.val (.ref o0), .val (.int (0 : Int32)), .unset] [(.int (0 : Int32))])
  refine Fini.st (fun _ k => XS.ifYes X2.here hx rfl (pc0 := 19) (pc' := 120) rfl (hb hby d8_B_19) rfl (XT.i0_eq_t (by decide : (0 : Int32) = (0 : Int32))) (by decide) (by decide) k) ?_
  show Fini p e below s _ _ _ T2 (mkF m 120 #[.val (.ref o0), .val (.int (0 : Int32)), .unset] [])
  refine Fini.st (fun _ k => XS.iloadN X2.here hx rfl (hb hby d8_B_120) rfl k) ?_
  show Fini p e below s _ _ _ T2 (mkF m 121 #[.val (.ref o0), .val (.int (0 : Int32)), .unset] [(.int (0 : Int32))])
  exact Fini.retN X2 hx hlk (t := .boolean) Bd.returns (by simp) (hb hby d8_B_121) nb0 (by decide) (by decide) ⟨congrArg (fun z => some (Value.int z)) hv0.symm, e2, rfl⟩
theorem pd_1 : parseMethodDescriptor "()I" = some ⟨[], some .int⟩ := by decide +kernel
theorem pd_2 : parseMethodDescriptor "()Z" = some ⟨[], some .boolean⟩ := by decide +kernel
theorem pd_3 : parseMethodDescriptor "([BI)I" = some ⟨[(.array .byte), .int], some .int⟩ := by decide +kernel
theorem d4_0 : decode method_5_code 0 = .ok (.iload_n 2, 1) := by decide +kernel
theorem d4_1 : decode method_5_code 1 = .ok (.ifCond .ge 5, 3) := by decide +kernel
theorem d4_6 : decode method_5_code 6 = .ok (.aload_n 0, 1) := by decide +kernel
theorem d4_7 : decode method_5_code 7 = .ok (.invokevirtual 23, 3) := by decide +kernel
theorem d4_10 : decode method_5_code 10 = .ok (.istore 4, 2) := by decide +kernel
theorem d4_12 : decode method_5_code 12 = .ok (.aload_n 0, 1) := by decide +kernel
theorem d4_13 : decode method_5_code 13 = .ok (.invokevirtual 27, 3) := by decide +kernel
theorem d4_16 : decode method_5_code 16 = .ok (.istore 5, 2) := by decide +kernel
theorem d4_18 : decode method_5_code 18 = .ok (.aload_n 0, 1) := by decide +kernel
theorem d4_19 : decode method_5_code 19 = .ok (.invokevirtual 30, 3) := by decide +kernel
theorem d4_22 : decode method_5_code 22 = .ok (.istore 6, 2) := by decide +kernel
theorem d4_24 : decode method_5_code 24 = .ok (.aload_n 0, 1) := by decide +kernel
theorem d4_25 : decode method_5_code 25 = .ok (.invokevirtual 33, 3) := by decide +kernel
theorem d4_28 : decode method_5_code 28 = .ok (.istore 7, 2) := by decide +kernel
theorem d4_30 : decode method_5_code 30 = .ok (.iload_n 2, 1) := by decide +kernel
theorem d4_31 : decode method_5_code 31 = .ok (.aload_n 1, 1) := by decide +kernel
theorem d4_32 : decode method_5_code 32 = .ok (.arraylength, 1) := by decide +kernel
theorem d4_33 : decode method_5_code 33 = .ok (.if_icmp .lt 53, 3) := by decide +kernel
theorem d4_36 : decode method_5_code 36 = .ok (.iload 7, 2) := by decide +kernel
theorem d4_38 : decode method_5_code 38 = .ok (.ifCond .ne 34, 3) := by decide +kernel
theorem d4_41 : decode method_5_code 41 = .ok (.aload_n 0, 1) := by decide +kernel
theorem d4_42 : decode method_5_code 42 = .ok (.invokevirtual 23, 3) := by decide +kernel
theorem d4_45 : decode method_5_code 45 = .ok (.iload 4, 2) := by decide +kernel
theorem d4_47 : decode method_5_code 47 = .ok (.if_icmp .ne 25, 3) := by decide +kernel
theorem d4_50 : decode method_5_code 50 = .ok (.aload_n 0, 1) := by decide +kernel
theorem d4_51 : decode method_5_code 51 = .ok (.invokevirtual 27, 3) := by decide +kernel
theorem d4_54 : decode method_5_code 54 = .ok (.iload 5, 2) := by decide +kernel
theorem d4_56 : decode method_5_code 56 = .ok (.if_icmp .ne 16, 3) := by decide +kernel
theorem d4_59 : decode method_5_code 59 = .ok (.aload_n 0, 1) := by decide +kernel
theorem d4_60 : decode method_5_code 60 = .ok (.invokevirtual 30, 3) := by decide +kernel
theorem d4_63 : decode method_5_code 63 = .ok (.iload 6, 2) := by decide +kernel
theorem d4_65 : decode method_5_code 65 = .ok (.if_icmp .ne 7, 3) := by decide +kernel
theorem d4_68 : decode method_5_code 68 = .ok (.iconst 1, 1) := by decide +kernel
theorem d4_69 : decode method_5_code 69 = .ok (.goto 4, 3) := by decide +kernel
theorem d4_73 : decode method_5_code 73 = .ok (.istore 8, 2) := by decide +kernel
theorem d4_75 : decode method_5_code 75 = .ok (.iload 8, 2) := by decide +kernel
theorem d4_77 : decode method_5_code 77 = .ok (.ifCond .eq 7, 3) := by decide +kernel
theorem d4_80 : decode method_5_code 80 = .ok (.iload_n 2, 1) := by decide +kernel
theorem d4_81 : decode method_5_code 81 = .ok (.goto 4, 3) := by decide +kernel
theorem d4_85 : decode method_5_code 85 = .ok (.ireturn, 1) := by decide +kernel
theorem d4_86 : decode method_5_code 86 = .ok (.aload_n 1, 1) := by decide +kernel
theorem d4_87 : decode method_5_code 87 = .ok (.iload_n 2, 1) := by decide +kernel
theorem d4_88 : decode method_5_code 88 = .ok (.invokestatic 37, 3) := by decide +kernel
theorem d4_91 : decode method_5_code 91 = .ok (.istore 8, 2) := by decide +kernel
theorem d4_93 : decode method_5_code 93 = .ok (.iload 8, 2) := by decide +kernel
theorem d4_95 : decode method_5_code 95 = .ok (.istore 9, 2) := by decide +kernel
theorem d4_97 : decode method_5_code 97 = .ok (.iload 8, 2) := by decide +kernel
theorem d4_99 : decode method_5_code 99 = .ok (.iload_n 2, 1) := by decide +kernel
theorem d4_100 : decode method_5_code 100 = .ok (.if_icmp .le 20, 3) := by decide +kernel
theorem d4_103 : decode method_5_code 103 = .ok (.aload_n 1, 1) := by decide +kernel
theorem d4_104 : decode method_5_code 104 = .ok (.iload 8, 2) := by decide +kernel
theorem d4_106 : decode method_5_code 106 = .ok (.iconst 1, 1) := by decide +kernel
theorem d4_107 : decode method_5_code 107 = .ok (.isub, 1) := by decide +kernel
theorem d4_108 : decode method_5_code 108 = .ok (.baload, 1) := by decide +kernel
theorem d4_109 : decode method_5_code 109 = .ok (.bipush 13, 2) := by decide +kernel
theorem d4_111 : decode method_5_code 111 = .ok (.if_icmp .ne 9, 3) := by decide +kernel
theorem d4_114 : decode method_5_code 114 = .ok (.iload 8, 2) := by decide +kernel
theorem d4_116 : decode method_5_code 116 = .ok (.iconst 1, 1) := by decide +kernel
theorem d4_117 : decode method_5_code 117 = .ok (.isub, 1) := by decide +kernel
theorem d4_118 : decode method_5_code 118 = .ok (.istore 9, 2) := by decide +kernel
theorem d4_120 : decode method_5_code 120 = .ok (.iload 7, 2) := by decide +kernel
theorem d4_122 : decode method_5_code 122 = .ok (.ifCond .eq 32, 3) := by decide +kernel
theorem d4_125 : decode method_5_code 125 = .ok (.aload_n 0, 1) := by decide +kernel
theorem d4_126 : decode method_5_code 126 = .ok (.invokevirtual 23, 3) := by decide +kernel
theorem d4_129 : decode method_5_code 129 = .ok (.iload_n 3, 1) := by decide +kernel
theorem d4_130 : decode method_5_code 130 = .ok (.if_icmp .ne 24, 3) := by decide +kernel
theorem d4_133 : decode method_5_code 133 = .ok (.aload_n 0, 1) := by decide +kernel
theorem d4_134 : decode method_5_code 134 = .ok (.invokevirtual 27, 3) := by decide +kernel
theorem d4_137 : decode method_5_code 137 = .ok (.iload_n 2, 1) := by decide +kernel
theorem d4_138 : decode method_5_code 138 = .ok (.if_icmp .ne 16, 3) := by decide +kernel
theorem d4_141 : decode method_5_code 141 = .ok (.aload_n 0, 1) := by decide +kernel
theorem d4_142 : decode method_5_code 142 = .ok (.invokevirtual 30, 3) := by decide +kernel
theorem d4_145 : decode method_5_code 145 = .ok (.iload 9, 2) := by decide +kernel
theorem d4_147 : decode method_5_code 147 = .ok (.if_icmp .ne 7, 3) := by decide +kernel
theorem d4_150 : decode method_5_code 150 = .ok (.iconst 1, 1) := by decide +kernel
theorem d4_151 : decode method_5_code 151 = .ok (.goto 4, 3) := by decide +kernel
theorem d4_155 : decode method_5_code 155 = .ok (.istore 10, 2) := by decide +kernel
theorem d4_157 : decode method_5_code 157 = .ok (.iload 10, 2) := by decide +kernel
theorem d4_159 : decode method_5_code 159 = .ok (.ifCond .eq 10, 3) := by decide +kernel
theorem d4_162 : decode method_5_code 162 = .ok (.iload 8, 2) := by decide +kernel
theorem d4_164 : decode method_5_code 164 = .ok (.iconst 1, 1) := by decide +kernel
theorem d4_165 : decode method_5_code 165 = .ok (.iadd, 1) := by decide +kernel
theorem d4_166 : decode method_5_code 166 = .ok (.goto 4, 3) := by decide +kernel
theorem d4_170 : decode method_5_code 170 = .ok (.ireturn, 1) := by decide +kernel
theorem ef4 (m : MethodId) (x0 : Addr) (x1 : Addr) (x2 : Int32) (x3 : Int32) : entryFrame m #[(.ref x0), (.ref x1), (.int x2), (.int x3)] 11 = mkF m 0 #[.val (.ref x0), .val (.ref x1), .val (.int x2), .val (.int x3), .unset, .unset, .unset, .unset, .unset, .unset, .unset] [] := by first | (simp [entryFrame, mkF, argsToLocals, Value.category]; done) | rfl
set_option maxRecDepth 65536 in
set_option maxHeartbeats 40000000 in
theorem rm4 (l : Launch) (Z : State) (a0 : Array Value) (hw : ∀ d ∈ tables_1, d.before a0 Z = true) (ws : List Jvm.Cond) (o0 : Addr) (o1 : Addr) (p2 : Int32) (p3 : Int32) (nv : Int32) (u : Nat → Int32) (nu : Int32) (st : Int32) (en : Int32) (h0 : Heap) (n0 : Nat) (Z0 : n0 ≤ h0.size) (E_o0 : Exa Z h0 o0 "com/example/rights_after_actions/rightsafteractions/io/TextFile$Lines") (F_content : Fld Z h0 o0 "com/example/rights_after_actions/rightsafteractions/io/TextFile$Lines" "content" "[B" (.ref o1)) (F_number : Fld Z h0 o0 "com/example/rights_after_actions/rightsafteractions/io/TextFile$Lines" "number" "I" (.int nu)) (F_start : Fld Z h0 o0 "com/example/rights_after_actions/rightsafteractions/io/TextFile$Lines" "start" "I" (.int st)) (F_end : Fld Z h0 o0 "com/example/rights_after_actions/rightsafteractions/io/TextFile$Lines" "end" "I" (.int en)) (F_next : Fld Z h0 o0 "com/example/rights_after_actions/rightsafteractions/io/TextFile$Lines" "next" "I" (.int p2)) (A_c : AryI Z h0 o1 .byte nv u) (g0 : n0 ≤ o0) (ne0 : o1 ≠ o0) (h0' : ¬ p2 < 0) (h4 : ¬ (4 : Int32) < nv) (hnu : p2 < nv → (nu + (1 : Int32)) = p3) :
    Cmet l Z (⟨"com/example/rights_after_actions/rightsafteractions/io/LinesNextPinLaw", "step", "(Lcom/example/rights_after_actions/rightsafteractions/io/TextFile$Lines;[BII)I"⟩ : MethodName) method_5_code 11 (some .int) ws ({ frames := 1, cells := 0, slots := 0, locals := 14 } : Room) #[(.ref o0), (.ref o1), (.int p2), (.int p3)] h0 (fun v h' L => Fr n0 L ∧ Keep h0 h' [o0] ∧ ∃ (q nu' st' en' : Int32), v = some (.int q) ∧ ¬ q < 0 ∧ (q < nv → nu' = p3) ∧ Fld Z h' o0 "com/example/rights_after_actions/rightsafteractions/io/TextFile$Lines" "content" "[B" (.ref o1) ∧ Fld Z h' o0 "com/example/rights_after_actions/rightsafteractions/io/TextFile$Lines" "number" "I" (.int nu') ∧ Fld Z h' o0 "com/example/rights_after_actions/rightsafteractions/io/TextFile$Lines" "start" "I" (.int st') ∧ Fld Z h' o0 "com/example/rights_after_actions/rightsafteractions/io/TextFile$Lines" "end" "I" (.int en') ∧ Fld Z h' o0 "com/example/rights_after_actions/rightsafteractions/io/TextFile$Lines" "next" "I" (.int q)) := by
  refine MetFree.of_bodySF (plainFor_of_name pn_2) hisR ?_
  intro p e s m args below meth c s₁ Bd hml0 hP hK
  obtain ⟨rfl, hZ, hh⟩ := hP
  have hx := Bd.exec
  have hlk : meth.locks = false := BodyLoose.notSynchronized Bd
  have hby := Bd.bytes
  have hml : c.maxLocals = 11 := hml0
  have hown : s.vm.findClass "com/example/rights_after_actions/rightsafteractions/io/LinesNextPinLaw" = some m.cls := findClass_of_methodNamed Bd.named
  have hnm := (name_of_methodNamed Bd.named Bd.method).1
  have X0 : Stand p l e ({ frames := 1, cells := 0, slots := 0, locals := 14 } : Room) s m #[(.ref o0), (.ref o1), (.int p2), (.int p3)] below meth c s₁ [] 0 0 := Stand.of_body Bd
  have e0 : s₁.heap = h0 := by rw [← hh, Bd.state]; rfl
  have N0 := Fr.nil n0
  show Fini p e below s (fun v h' L => Fr n0 L ∧ Keep h0 h' [o0] ∧ ∃ (q nu' st' en' : Int32), v = some (.int q) ∧ ¬ q < 0 ∧ (q < nv → nu' = p3) ∧ Fld Z h' o0 "com/example/rights_after_actions/rightsafteractions/io/TextFile$Lines" "content" "[B" (.ref o1) ∧ Fld Z h' o0 "com/example/rights_after_actions/rightsafteractions/io/TextFile$Lines" "number" "I" (.int nu') ∧ Fld Z h' o0 "com/example/rights_after_actions/rightsafteractions/io/TextFile$Lines" "start" "I" (.int st') ∧ Fld Z h' o0 "com/example/rights_after_actions/rightsafteractions/io/TextFile$Lines" "end" "I" (.int en') ∧ Fld Z h' o0 "com/example/rights_after_actions/rightsafteractions/io/TextFile$Lines" "next" "I" (.int q)) _ _ s₁ (entryFrame m #[(.ref o0), (.ref o1), (.int p2), (.int p3)] 11)
  refine Fini.cast (ef4 m o0 o1 p2 p3) ?_
  show Fini p e below s _ _ _ s₁ (mkF m 0 #[.val (.ref o0), .val (.ref o1), .val (.int p2), .val (.int p3), .unset, .unset, .unset, .unset, .unset, .unset, .unset] [])
  refine Fini.st (fun _ k => XS.iloadN X0.here hx rfl (hb hby d4_0) rfl k) ?_
  show Fini p e below s _ _ _ s₁ (mkF m 1 #[.val (.ref o0), .val (.ref o1), .val (.int p2), .val (.int p3), .unset, .unset, .unset, .unset, .unset, .unset, .unset] [(.int p2)])
  refine Fini.st (fun _ k => XS.ifYes X0.here hx rfl (pc0 := 1) (pc' := 6) rfl (hb hby d4_1) rfl (XT.i0_ge_t h0') (by decide) (by decide) k) ?_
  show Fini p e below s _ _ _ s₁ (mkF m 6 #[.val (.ref o0), .val (.ref o1), .val (.int p2), .val (.int p3), .unset, .unset, .unset, .unset, .unset, .unset, .unset] [])
  refine Fini.st (fun _ k => XS.aloadN X0.here hx rfl (hb hby d4_6) rfl rfl k) ?_
  show Fini p e below s _ _ _ s₁ (mkF m 7 #[.val (.ref o0), .val (.ref o1), .val (.int p2), .val (.int p3), .unset, .unset, .unset, .unset, .unset, .unset, .unset] [(.ref o0)])
  obtain ⟨T1, X1, e1, st1⟩ := pureV X0 hx hZ hown (hw _ (List.mem_of_getElem? (i := 30) rfl)) (hw _ (List.mem_of_getElem? (i := 31) rfl)) (hw _ (List.mem_of_getElem? (i := 33) rfl)) (hw _ (List.mem_of_getElem? (i := 32) rfl)) (hw _ (List.mem_of_getElem? (i := 4) rfl)) (hw _ (List.mem_of_getElem? (i := 34) rfl)) (notFace_of_selects (args := #[]) (mvT hZ (hw _ (List.mem_of_getElem? (i := 33) rfl)))) E_o0 (by decide) (rm5 l Z a0 hw [] o0 nu h0 F_number) e0 (W := 0) (by decide) (by decide) (by decide) (by decide) (g := (mkF m 7 #[.val (.ref o0), .val (.ref o1), .val (.int p2), .val (.int p3), .unset, .unset, .unset, .unset, .unset, .unset, .unset] [(.ref o0)])) rfl (by rw [hml]; rfl) (argsL := []) (rest := []) rfl (lenOf pd_1 rfl) rfl (by show 2 * 0 + _ ≤ _; exact Nat.le_of_eq rfl) (hb hby d4_7)
  refine Fini.st st1 ?_
  show Fini p e below s _ _ _ T1 (mkF m 10 #[.val (.ref o0), .val (.ref o1), .val (.int p2), .val (.int p3), .unset, .unset, .unset, .unset, .unset, .unset, .unset] [(.int nu)])
  refine Fini.st (fun _ k => XS.istore X1.here hx rfl (hb hby d4_10) rfl (l' := #[.val (.ref o0), .val (.ref o1), .val (.int p2), .val (.int p3), .val (.int nu), .unset, .unset, .unset, .unset, .unset, .unset]) rfl k) ?_
  show Fini p e below s _ _ _ T1 (mkF m 12 #[.val (.ref o0), .val (.ref o1), .val (.int p2), .val (.int p3), .val (.int nu), .unset, .unset, .unset, .unset, .unset, .unset] [])
  refine Fini.st (fun _ k => XS.aloadN X1.here hx rfl (hb hby d4_12) rfl rfl k) ?_
  show Fini p e below s _ _ _ T1 (mkF m 13 #[.val (.ref o0), .val (.ref o1), .val (.int p2), .val (.int p3), .val (.int nu), .unset, .unset, .unset, .unset, .unset, .unset] [(.ref o0)])
  obtain ⟨T2, X2, e2, st2⟩ := pureV X1 hx hZ hown (hw _ (List.mem_of_getElem? (i := 37) rfl)) (hw _ (List.mem_of_getElem? (i := 38) rfl)) (hw _ (List.mem_of_getElem? (i := 40) rfl)) (hw _ (List.mem_of_getElem? (i := 39) rfl)) (hw _ (List.mem_of_getElem? (i := 4) rfl)) (hw _ (List.mem_of_getElem? (i := 41) rfl)) (notFace_of_selects (args := #[]) (mvT hZ (hw _ (List.mem_of_getElem? (i := 40) rfl)))) E_o0 (by decide) (rm6 l Z a0 hw [] o0 st h0 F_start) e1 (W := 0) (by decide) (by decide) (by decide) (by decide) (g := (mkF m 13 #[.val (.ref o0), .val (.ref o1), .val (.int p2), .val (.int p3), .val (.int nu), .unset, .unset, .unset, .unset, .unset, .unset] [(.ref o0)])) rfl (by rw [hml]; rfl) (argsL := []) (rest := []) rfl (lenOf pd_1 rfl) rfl (by show 2 * 0 + _ ≤ _; exact Nat.le_of_eq rfl) (hb hby d4_13)
  refine Fini.st st2 ?_
  show Fini p e below s _ _ _ T2 (mkF m 16 #[.val (.ref o0), .val (.ref o1), .val (.int p2), .val (.int p3), .val (.int nu), .unset, .unset, .unset, .unset, .unset, .unset] [(.int st)])
  refine Fini.st (fun _ k => XS.istore X2.here hx rfl (hb hby d4_16) rfl (l' := #[.val (.ref o0), .val (.ref o1), .val (.int p2), .val (.int p3), .val (.int nu), .val (.int st), .unset, .unset, .unset, .unset, .unset]) rfl k) ?_
  show Fini p e below s _ _ _ T2 (mkF m 18 #[.val (.ref o0), .val (.ref o1), .val (.int p2), .val (.int p3), .val (.int nu), .val (.int st), .unset, .unset, .unset, .unset, .unset] [])
  refine Fini.st (fun _ k => XS.aloadN X2.here hx rfl (hb hby d4_18) rfl rfl k) ?_
  show Fini p e below s _ _ _ T2 (mkF m 19 #[.val (.ref o0), .val (.ref o1), .val (.int p2), .val (.int p3), .val (.int nu), .val (.int st), .unset, .unset, .unset, .unset, .unset] [(.ref o0)])
  obtain ⟨T3, X3, e3, st3⟩ := pureV X2 hx hZ hown (hw _ (List.mem_of_getElem? (i := 44) rfl)) (hw _ (List.mem_of_getElem? (i := 45) rfl)) (hw _ (List.mem_of_getElem? (i := 47) rfl)) (hw _ (List.mem_of_getElem? (i := 46) rfl)) (hw _ (List.mem_of_getElem? (i := 4) rfl)) (hw _ (List.mem_of_getElem? (i := 48) rfl)) (notFace_of_selects (args := #[]) (mvT hZ (hw _ (List.mem_of_getElem? (i := 47) rfl)))) E_o0 (by decide) (rm7 l Z a0 hw [] o0 en h0 F_end) e2 (W := 0) (by decide) (by decide) (by decide) (by decide) (g := (mkF m 19 #[.val (.ref o0), .val (.ref o1), .val (.int p2), .val (.int p3), .val (.int nu), .val (.int st), .unset, .unset, .unset, .unset, .unset] [(.ref o0)])) rfl (by rw [hml]; rfl) (argsL := []) (rest := []) rfl (lenOf pd_1 rfl) rfl (by show 2 * 0 + _ ≤ _; exact Nat.le_of_eq rfl) (hb hby d4_19)
  refine Fini.st st3 ?_
  show Fini p e below s _ _ _ T3 (mkF m 22 #[.val (.ref o0), .val (.ref o1), .val (.int p2), .val (.int p3), .val (.int nu), .val (.int st), .unset, .unset, .unset, .unset, .unset] [(.int en)])
  refine Fini.st (fun _ k => XS.istore X3.here hx rfl (hb hby d4_22) rfl (l' := #[.val (.ref o0), .val (.ref o1), .val (.int p2), .val (.int p3), .val (.int nu), .val (.int st), .val (.int en), .unset, .unset, .unset, .unset]) rfl k) ?_
  show Fini p e below s _ _ _ T3 (mkF m 24 #[.val (.ref o0), .val (.ref o1), .val (.int p2), .val (.int p3), .val (.int nu), .val (.int st), .val (.int en), .unset, .unset, .unset, .unset] [])
  rcases Classical.em (p2 < nv) with hpn | hpn
  · skip
    skip
    refine Fini.st (fun _ k => XS.aloadN X3.here hx rfl (hb hby d4_24) rfl rfl k) ?_
    show Fini p e below s _ _ _ T3 (mkF m 25 #[.val (.ref o0), .val (.ref o1), .val (.int p2), .val (.int p3), .val (.int nu), .val (.int st), .val (.int en), .unset, .unset, .unset, .unset] [(.ref o0)])
    obtain ⟨v4, T4, L4, X4, hQ4, st4⟩ := callV X3 hx hZ hown (hw _ (List.mem_of_getElem? (i := 51) rfl)) (hw _ (List.mem_of_getElem? (i := 52) rfl)) (hw _ (List.mem_of_getElem? (i := 54) rfl)) (hw _ (List.mem_of_getElem? (i := 53) rfl)) (hw _ (List.mem_of_getElem? (i := 4) rfl)) (hw _ (List.mem_of_getElem? (i := 55) rfl)) (notFace_of_selects (args := #[]) (mvT hZ (hw _ (List.mem_of_getElem? (i := 54) rfl)))) E_o0 (by decide) (rm8_A l Z a0 hw [] o0 o1 nv u nu st en p2 h0 n0 Z0 E_o0 F_content F_number F_start F_end F_next A_c g0 ne0 hpn h0' h4) e3 (W := 0) (by decide) (by decide) (by decide) (by decide) (g := (mkF m 25 #[.val (.ref o0), .val (.ref o1), .val (.int p2), .val (.int p3), .val (.int nu), .val (.int st), .val (.int en), .unset, .unset, .unset, .unset] [(.ref o0)])) rfl (by rw [hml]; rfl) (argsL := []) (rest := []) rfl (lenOf pd_2 rfl) rfl (by show 2 * 0 + _ ≤ _; exact Nat.le_of_eq rfl) (hb hby d4_25)
    obtain ⟨rfl, Nq4, K4, Fx4, hP4, Fc4, Fnumber4, Fstart4, Fend4, Fnext4⟩ := hQ4
    obtain rfl : Fx4 = f10 p2 nv u := own_uniq hP4 (own_lf u h0' hpn h4)
    have N4 := Fr.app N0 Nq4
    refine Fini.st st4 ?_
    show Fini p e below s _ _ _ T4 (mkF m 28 #[.val (.ref o0), .val (.ref o1), .val (.int p2), .val (.int p3), .val (.int nu), .val (.int st), .val (.int en), .unset, .unset, .unset, .unset] [(.int (1 : Int32))])
    refine Fini.st (fun _ k => XS.istore X4.here hx rfl (hb hby d4_28) rfl (l' := #[.val (.ref o0), .val (.ref o1), .val (.int p2), .val (.int p3), .val (.int nu), .val (.int st), .val (.int en), .val (.int (1 : Int32)), .unset, .unset, .unset]) rfl k) ?_
    show Fini p e below s _ _ _ T4 (mkF m 30 #[.val (.ref o0), .val (.ref o1), .val (.int p2), .val (.int p3), .val (.int nu), .val (.int st), .val (.int en), .val (.int (1 : Int32)), .unset, .unset, .unset] [])
    refine Fini.st (fun _ k => XS.iloadN X4.here hx rfl (hb hby d4_30) rfl k) ?_
    show Fini p e below s _ _ _ T4 (mkF m 31 #[.val (.ref o0), .val (.ref o1), .val (.int p2), .val (.int p3), .val (.int nu), .val (.int st), .val (.int en), .val (.int (1 : Int32)), .unset, .unset, .unset] [(.int p2)])
    refine Fini.st (fun _ k => XS.aloadN X4.here hx rfl (hb hby d4_31) rfl rfl k) ?_
    show Fini p e below s _ _ _ T4 (mkF m 32 #[.val (.ref o0), .val (.ref o1), .val (.int p2), .val (.int p3), .val (.int nu), .val (.int st), .val (.int en), .val (.int (1 : Int32)), .unset, .unset, .unset] [(.ref o1), (.int p2)])
    have Ar_5 : AryI Z T4.heap o1 .byte nv u := (A_c.keep K4 (ninS ne0 nin0))
    refine Fini.st (fun _ k => Ar_5.len X4 hx hZ rfl rfl rfl (hb hby d4_32) k) ?_
    show Fini p e below s _ _ _ T4 (mkF m 33 #[.val (.ref o0), .val (.ref o1), .val (.int p2), .val (.int p3), .val (.int nu), .val (.int st), .val (.int en), .val (.int (1 : Int32)), .unset, .unset, .unset] [(.int nv), (.int p2)])
    refine Fini.st (fun _ k => XS.icmpYes X4.here hx rfl (pc0 := 33) (pc' := 86) rfl (hb hby d4_33) rfl (XT.ii_lt_t hpn) (by decide) (by decide) k) ?_
    show Fini p e below s _ _ _ T4 (mkF m 86 #[.val (.ref o0), .val (.ref o1), .val (.int p2), .val (.int p3), .val (.int nu), .val (.int st), .val (.int en), .val (.int (1 : Int32)), .unset, .unset, .unset] [])
    refine Fini.st (fun _ k => XS.aloadN X4.here hx rfl (hb hby d4_86) rfl rfl k) ?_
    show Fini p e below s _ _ _ T4 (mkF m 87 #[.val (.ref o0), .val (.ref o1), .val (.int p2), .val (.int p3), .val (.int nu), .val (.int st), .val (.int en), .val (.int (1 : Int32)), .unset, .unset, .unset] [(.ref o1)])
    refine Fini.st (fun _ k => XS.iloadN X4.here hx rfl (hb hby d4_87) rfl k) ?_
    show Fini p e below s _ _ _ T4 (mkF m 88 #[.val (.ref o0), .val (.ref o1), .val (.int p2), .val (.int p3), .val (.int nu), .val (.int st), .val (.int en), .val (.int (1 : Int32)), .unset, .unset, .unset] [(.int p2), (.ref o1)])
    obtain ⟨T6, X6, e6, st6⟩ := pureS X4 hx hZ hown (hw _ (List.mem_of_getElem? (i := 61) rfl)) (hw _ (List.mem_of_getElem? (i := 62) rfl)) (hw _ (List.mem_of_getElem? (i := 28) rfl)) (hw _ (List.mem_of_getElem? (i := 63) rfl)) (by decide) (rm10 l Z a0 hw [] o1 p2 nv u T4.heap Ar_5) rfl (W := 0) (by decide) (by decide) (by decide) (by decide) (g := (mkF m 88 #[.val (.ref o0), .val (.ref o1), .val (.int p2), .val (.int p3), .val (.int nu), .val (.int st), .val (.int en), .val (.int (1 : Int32)), .unset, .unset, .unset] [(.int p2), (.ref o1)])) rfl (by rw [hml]; rfl) (argsL := [(.ref o1), (.int p2)]) (rest := []) rfl (lenOf pd_3 rfl) rfl (by show 2 * 0 + _ ≤ _; exact Nat.le_of_eq rfl) (hb hby d4_88)
    refine Fini.st st6 ?_
    show Fini p e below s _ _ _ T6 (mkF m 91 #[.val (.ref o0), .val (.ref o1), .val (.int p2), .val (.int p3), .val (.int nu), .val (.int st), .val (.int en), .val (.int (1 : Int32)), .unset, .unset, .unset] [(.int (f10 p2 nv u))])
    refine Fini.st (fun _ k => XS.istore X6.here hx rfl (hb hby d4_91) rfl (l' := #[.val (.ref o0), .val (.ref o1), .val (.int p2), .val (.int p3), .val (.int nu), .val (.int st), .val (.int en), .val (.int (1 : Int32)), .val (.int (f10 p2 nv u)), .unset, .unset]) rfl k) ?_
    show Fini p e below s _ _ _ T6 (mkF m 93 #[.val (.ref o0), .val (.ref o1), .val (.int p2), .val (.int p3), .val (.int nu), .val (.int st), .val (.int en), .val (.int (1 : Int32)), .val (.int (f10 p2 nv u)), .unset, .unset] [])
    refine Fini.st (fun _ k => XS.iload X6.here hx rfl (hb hby d4_93) rfl k) ?_
    show Fini p e below s _ _ _ T6 (mkF m 95 #[.val (.ref o0), .val (.ref o1), .val (.int p2), .val (.int p3), .val (.int nu), .val (.int st), .val (.int en), .val (.int (1 : Int32)), .val (.int (f10 p2 nv u)), .unset, .unset] [(.int (f10 p2 nv u))])
    refine Fini.st (fun _ k => XS.istore X6.here hx rfl (hb hby d4_95) rfl (l' := #[.val (.ref o0), .val (.ref o1), .val (.int p2), .val (.int p3), .val (.int nu), .val (.int st), .val (.int en), .val (.int (1 : Int32)), .val (.int (f10 p2 nv u)), .val (.int (f10 p2 nv u)), .unset]) rfl k) ?_
    show Fini p e below s _ _ _ T6 (mkF m 97 #[.val (.ref o0), .val (.ref o1), .val (.int p2), .val (.int p3), .val (.int nu), .val (.int st), .val (.int en), .val (.int (1 : Int32)), .val (.int (f10 p2 nv u)), .val (.int (f10 p2 nv u)), .unset] [])
    refine Fini.st (fun _ k => XS.iload X6.here hx rfl (hb hby d4_97) rfl k) ?_
    show Fini p e below s _ _ _ T6 (mkF m 99 #[.val (.ref o0), .val (.ref o1), .val (.int p2), .val (.int p3), .val (.int nu), .val (.int st), .val (.int en), .val (.int (1 : Int32)), .val (.int (f10 p2 nv u)), .val (.int (f10 p2 nv u)), .unset] [(.int (f10 p2 nv u))])
    refine Fini.st (fun _ k => XS.iloadN X6.here hx rfl (hb hby d4_99) rfl k) ?_
    show Fini p e below s _ _ _ T6 (mkF m 100 #[.val (.ref o0), .val (.ref o1), .val (.int p2), .val (.int p3), .val (.int nu), .val (.int st), .val (.int en), .val (.int (1 : Int32)), .val (.int (f10 p2 nv u)), .val (.int (f10 p2 nv u)), .unset] [(.int p2), (.int (f10 p2 nv u))])
    by_cases c7 : p2 < (f10 p2 nv u)
    · skip
      refine Fini.st (fun _ k => XS.icmpNo X6.here hx rfl (hb hby d4_100) rfl (XT.ii_le_f c7) k) ?_
      show Fini p e below s _ _ _ T6 (mkF m 103 #[.val (.ref o0), .val (.ref o1), .val (.int p2), .val (.int p3), .val (.int nu), .val (.int st), .val (.int en), .val (.int (1 : Int32)), .val (.int (f10 p2 nv u)), .val (.int (f10 p2 nv u)), .unset] [])
      refine Fini.st (fun _ k => XS.aloadN X6.here hx rfl (hb hby d4_103) rfl rfl k) ?_
      show Fini p e below s _ _ _ T6 (mkF m 104 #[.val (.ref o0), .val (.ref o1), .val (.int p2), .val (.int p3), .val (.int nu), .val (.int st), .val (.int en), .val (.int (1 : Int32)), .val (.int (f10 p2 nv u)), .val (.int (f10 p2 nv u)), .unset] [(.ref o1)])
      refine Fini.st (fun _ k => XS.iload X6.here hx rfl (hb hby d4_104) rfl k) ?_
      show Fini p e below s _ _ _ T6 (mkF m 106 #[.val (.ref o0), .val (.ref o1), .val (.int p2), .val (.int p3), .val (.int nu), .val (.int st), .val (.int en), .val (.int (1 : Int32)), .val (.int (f10 p2 nv u)), .val (.int (f10 p2 nv u)), .unset] [(.int (f10 p2 nv u)), (.ref o1)])
      refine Fini.st (fun _ k => XS.iconst X6.here hx rfl (hb hby d4_106) k) ?_
      show Fini p e below s _ _ _ T6 (mkF m 107 #[.val (.ref o0), .val (.ref o1), .val (.int p2), .val (.int p3), .val (.int nu), .val (.int st), .val (.int en), .val (.int (1 : Int32)), .val (.int (f10 p2 nv u)), .val (.int (f10 p2 nv u)), .unset] [(.int (1 : Int32)), (.int (f10 p2 nv u)), (.ref o1)])
      refine Fini.st (fun _ k => XS.isub X6.here hx rfl (hb hby d4_107) rfl k) ?_
      show Fini p e below s _ _ _ T6 (mkF m 108 #[.val (.ref o0), .val (.ref o1), .val (.int p2), .val (.int p3), .val (.int nu), .val (.int st), .val (.int en), .val (.int (1 : Int32)), .val (.int (f10 p2 nv u)), .val (.int (f10 p2 nv u)), .unset] [(.int ((f10 p2 nv u) - (1 : Int32))), (.ref o1)])
      refine Fini.st (fun _ k => Ar_5.loadB X6 hx hZ e6 (own_in1 (own_lf u h0' hpn h4) c7 h0' h4) rfl rfl (hb hby d4_108) k) ?_
      show Fini p e below s _ _ _ T6 (mkF m 109 #[.val (.ref o0), .val (.ref o1), .val (.int p2), .val (.int p3), .val (.int nu), .val (.int st), .val (.int en), .val (.int (1 : Int32)), .val (.int (f10 p2 nv u)), .val (.int (f10 p2 nv u)), .unset] [(.int (u (((f10 p2 nv u) - (1 : Int32))).toNatClampNeg))])
      refine Fini.st (fun _ k => XS.bipush X6.here hx rfl (hb hby d4_109) k) ?_
      show Fini p e below s _ _ _ T6 (mkF m 111 #[.val (.ref o0), .val (.ref o1), .val (.int p2), .val (.int p3), .val (.int nu), .val (.int st), .val (.int en), .val (.int (1 : Int32)), .val (.int (f10 p2 nv u)), .val (.int (f10 p2 nv u)), .unset] [(.int (13 : Int32)), (.int (u (((f10 p2 nv u) - (1 : Int32))).toNatClampNeg))])
      by_cases c8 : (u (((f10 p2 nv u) - (1 : Int32))).toNatClampNeg) = (13 : Int32)
      · skip
        refine Fini.st (fun _ k => XS.icmpNo X6.here hx rfl (hb hby d4_111) rfl (XT.ii_ne_f c8) k) ?_
        show Fini p e below s _ _ _ T6 (mkF m 114 #[.val (.ref o0), .val (.ref o1), .val (.int p2), .val (.int p3), .val (.int nu), .val (.int st), .val (.int en), .val (.int (1 : Int32)), .val (.int (f10 p2 nv u)), .val (.int (f10 p2 nv u)), .unset] [])
        refine Fini.st (fun _ k => XS.iload X6.here hx rfl (hb hby d4_114) rfl k) ?_
        show Fini p e below s _ _ _ T6 (mkF m 116 #[.val (.ref o0), .val (.ref o1), .val (.int p2), .val (.int p3), .val (.int nu), .val (.int st), .val (.int en), .val (.int (1 : Int32)), .val (.int (f10 p2 nv u)), .val (.int (f10 p2 nv u)), .unset] [(.int (f10 p2 nv u))])
        refine Fini.st (fun _ k => XS.iconst X6.here hx rfl (hb hby d4_116) k) ?_
        show Fini p e below s _ _ _ T6 (mkF m 117 #[.val (.ref o0), .val (.ref o1), .val (.int p2), .val (.int p3), .val (.int nu), .val (.int st), .val (.int en), .val (.int (1 : Int32)), .val (.int (f10 p2 nv u)), .val (.int (f10 p2 nv u)), .unset] [(.int (1 : Int32)), (.int (f10 p2 nv u))])
        refine Fini.st (fun _ k => XS.isub X6.here hx rfl (hb hby d4_117) rfl k) ?_
        show Fini p e below s _ _ _ T6 (mkF m 118 #[.val (.ref o0), .val (.ref o1), .val (.int p2), .val (.int p3), .val (.int nu), .val (.int st), .val (.int en), .val (.int (1 : Int32)), .val (.int (f10 p2 nv u)), .val (.int (f10 p2 nv u)), .unset] [(.int ((f10 p2 nv u) - (1 : Int32)))])
        refine Fini.st (fun _ k => XS.istore X6.here hx rfl (hb hby d4_118) rfl (l' := #[.val (.ref o0), .val (.ref o1), .val (.int p2), .val (.int p3), .val (.int nu), .val (.int st), .val (.int en), .val (.int (1 : Int32)), .val (.int (f10 p2 nv u)), .val (.int ((f10 p2 nv u) - (1 : Int32))), .unset]) rfl k) ?_
        show Fini p e below s _ _ _ T6 (mkF m 120 #[.val (.ref o0), .val (.ref o1), .val (.int p2), .val (.int p3), .val (.int nu), .val (.int st), .val (.int en), .val (.int (1 : Int32)), .val (.int (f10 p2 nv u)), .val (.int ((f10 p2 nv u) - (1 : Int32))), .unset] [])
        refine Fini.cast (g' := (mkF m 120 #[.val (.ref o0), .val (.ref o1), .val (.int p2), .val (.int p3), .val (.int nu), .val (.int st), .val (.int en), .val (.int (1 : Int32)), .val (.int (f10 p2 nv u)), .val (.int (own_E u p2 (f10 p2 nv u))), .unset] [])) (by rw [show own_E u p2 (f10 p2 nv u) = ((f10 p2 nv u) - (1 : Int32)) from ((if_pos c7).trans (if_pos c8))]) ?_
        show Fini p e below s _ _ _ T6 (mkF m 120 #[.val (.ref o0), .val (.ref o1), .val (.int p2), .val (.int p3), .val (.int nu), .val (.int st), .val (.int en), .val (.int (1 : Int32)), .val (.int (f10 p2 nv u)), .val (.int (own_E u p2 (f10 p2 nv u))), .unset] [])
        refine Fini.st (fun _ k => XS.iload X6.here hx rfl (hb hby d4_120) rfl k) ?_
        show Fini p e below s _ _ _ T6 (mkF m 122 #[.val (.ref o0), .val (.ref o1), .val (.int p2), .val (.int p3), .val (.int nu), .val (.int st), .val (.int en), .val (.int (1 : Int32)), .val (.int (f10 p2 nv u)), .val (.int (own_E u p2 (f10 p2 nv u))), .unset] [(.int (1 : Int32))])
        refine Fini.st (fun _ k => XS.ifNo X6.here hx rfl (hb hby d4_122) rfl (XT.i0_eq_f (by decide : ¬ (1 : Int32) = (0 : Int32))) k) ?_
        show Fini p e below s _ _ _ T6 (mkF m 125 #[.val (.ref o0), .val (.ref o1), .val (.int p2), .val (.int p3), .val (.int nu), .val (.int st), .val (.int en), .val (.int (1 : Int32)), .val (.int (f10 p2 nv u)), .val (.int (own_E u p2 (f10 p2 nv u))), .unset] [])
        refine Fini.st (fun _ k => XS.aloadN X6.here hx rfl (hb hby d4_125) rfl rfl k) ?_
        show Fini p e below s _ _ _ T6 (mkF m 126 #[.val (.ref o0), .val (.ref o1), .val (.int p2), .val (.int p3), .val (.int nu), .val (.int st), .val (.int en), .val (.int (1 : Int32)), .val (.int (f10 p2 nv u)), .val (.int (own_E u p2 (f10 p2 nv u))), .unset] [(.ref o0)])
        have Ex_10 : Exa Z T4.heap o0 "com/example/rights_after_actions/rightsafteractions/io/TextFile$Lines" := (E_o0.keep K4)
        obtain ⟨T9, X9, e9, st9⟩ := pureV X6 hx hZ hown (hw _ (List.mem_of_getElem? (i := 30) rfl)) (hw _ (List.mem_of_getElem? (i := 31) rfl)) (hw _ (List.mem_of_getElem? (i := 33) rfl)) (hw _ (List.mem_of_getElem? (i := 32) rfl)) (hw _ (List.mem_of_getElem? (i := 4) rfl)) (hw _ (List.mem_of_getElem? (i := 34) rfl)) (notFace_of_selects (args := #[]) (mvT hZ (hw _ (List.mem_of_getElem? (i := 33) rfl)))) Ex_10 (by decide) (rm5 l Z a0 hw [] o0 (nu + (1 : Int32)) T4.heap Fnumber4) e6 (W := 0) (by decide) (by decide) (by decide) (by decide) (g := (mkF m 126 #[.val (.ref o0), .val (.ref o1), .val (.int p2), .val (.int p3), .val (.int nu), .val (.int st), .val (.int en), .val (.int (1 : Int32)), .val (.int (f10 p2 nv u)), .val (.int (own_E u p2 (f10 p2 nv u))), .unset] [(.ref o0)])) rfl (by rw [hml]; rfl) (argsL := []) (rest := []) rfl (lenOf pd_1 rfl) rfl (by show 2 * 0 + _ ≤ _; exact Nat.le_of_eq rfl) (hb hby d4_126)
        refine Fini.st st9 ?_
        show Fini p e below s _ _ _ T9 (mkF m 129 #[.val (.ref o0), .val (.ref o1), .val (.int p2), .val (.int p3), .val (.int nu), .val (.int st), .val (.int en), .val (.int (1 : Int32)), .val (.int (f10 p2 nv u)), .val (.int (own_E u p2 (f10 p2 nv u))), .unset] [(.int (nu + (1 : Int32)))])
        refine Fini.st (fun _ k => XS.iloadN X9.here hx rfl (hb hby d4_129) rfl k) ?_
        show Fini p e below s _ _ _ T9 (mkF m 130 #[.val (.ref o0), .val (.ref o1), .val (.int p2), .val (.int p3), .val (.int nu), .val (.int st), .val (.int en), .val (.int (1 : Int32)), .val (.int (f10 p2 nv u)), .val (.int (own_E u p2 (f10 p2 nv u))), .unset] [(.int p3), (.int (nu + (1 : Int32)))])
        refine Fini.st (fun _ k => XS.icmpNo X9.here hx rfl (hb hby d4_130) rfl (XT.ii_ne_f (hnu hpn)) k) ?_
        show Fini p e below s _ _ _ T9 (mkF m 133 #[.val (.ref o0), .val (.ref o1), .val (.int p2), .val (.int p3), .val (.int nu), .val (.int st), .val (.int en), .val (.int (1 : Int32)), .val (.int (f10 p2 nv u)), .val (.int (own_E u p2 (f10 p2 nv u))), .unset] [])
        refine Fini.st (fun _ k => XS.aloadN X9.here hx rfl (hb hby d4_133) rfl rfl k) ?_
        show Fini p e below s _ _ _ T9 (mkF m 134 #[.val (.ref o0), .val (.ref o1), .val (.int p2), .val (.int p3), .val (.int nu), .val (.int st), .val (.int en), .val (.int (1 : Int32)), .val (.int (f10 p2 nv u)), .val (.int (own_E u p2 (f10 p2 nv u))), .unset] [(.ref o0)])
        obtain ⟨T11, X11, e11, st11⟩ := pureV X9 hx hZ hown (hw _ (List.mem_of_getElem? (i := 37) rfl)) (hw _ (List.mem_of_getElem? (i := 38) rfl)) (hw _ (List.mem_of_getElem? (i := 40) rfl)) (hw _ (List.mem_of_getElem? (i := 39) rfl)) (hw _ (List.mem_of_getElem? (i := 4) rfl)) (hw _ (List.mem_of_getElem? (i := 41) rfl)) (notFace_of_selects (args := #[]) (mvT hZ (hw _ (List.mem_of_getElem? (i := 40) rfl)))) Ex_10 (by decide) (rm6 l Z a0 hw [] o0 p2 T4.heap Fstart4) e9 (W := 0) (by decide) (by decide) (by decide) (by decide) (g := (mkF m 134 #[.val (.ref o0), .val (.ref o1), .val (.int p2), .val (.int p3), .val (.int nu), .val (.int st), .val (.int en), .val (.int (1 : Int32)), .val (.int (f10 p2 nv u)), .val (.int (own_E u p2 (f10 p2 nv u))), .unset] [(.ref o0)])) rfl (by rw [hml]; rfl) (argsL := []) (rest := []) rfl (lenOf pd_1 rfl) rfl (by show 2 * 0 + _ ≤ _; exact Nat.le_of_eq rfl) (hb hby d4_134)
        refine Fini.st st11 ?_
        show Fini p e below s _ _ _ T11 (mkF m 137 #[.val (.ref o0), .val (.ref o1), .val (.int p2), .val (.int p3), .val (.int nu), .val (.int st), .val (.int en), .val (.int (1 : Int32)), .val (.int (f10 p2 nv u)), .val (.int (own_E u p2 (f10 p2 nv u))), .unset] [(.int p2)])
        refine Fini.st (fun _ k => XS.iloadN X11.here hx rfl (hb hby d4_137) rfl k) ?_
        show Fini p e below s _ _ _ T11 (mkF m 138 #[.val (.ref o0), .val (.ref o1), .val (.int p2), .val (.int p3), .val (.int nu), .val (.int st), .val (.int en), .val (.int (1 : Int32)), .val (.int (f10 p2 nv u)), .val (.int (own_E u p2 (f10 p2 nv u))), .unset] [(.int p2), (.int p2)])
        refine Fini.st (fun _ k => XS.icmpNo X11.here hx rfl (hb hby d4_138) rfl (XT.ii_ne_f (rfl : p2 = p2)) k) ?_
        show Fini p e below s _ _ _ T11 (mkF m 141 #[.val (.ref o0), .val (.ref o1), .val (.int p2), .val (.int p3), .val (.int nu), .val (.int st), .val (.int en), .val (.int (1 : Int32)), .val (.int (f10 p2 nv u)), .val (.int (own_E u p2 (f10 p2 nv u))), .unset] [])
        refine Fini.st (fun _ k => XS.aloadN X11.here hx rfl (hb hby d4_141) rfl rfl k) ?_
        show Fini p e below s _ _ _ T11 (mkF m 142 #[.val (.ref o0), .val (.ref o1), .val (.int p2), .val (.int p3), .val (.int nu), .val (.int st), .val (.int en), .val (.int (1 : Int32)), .val (.int (f10 p2 nv u)), .val (.int (own_E u p2 (f10 p2 nv u))), .unset] [(.ref o0)])
        obtain ⟨T12, X12, e12, st12⟩ := pureV X11 hx hZ hown (hw _ (List.mem_of_getElem? (i := 44) rfl)) (hw _ (List.mem_of_getElem? (i := 45) rfl)) (hw _ (List.mem_of_getElem? (i := 47) rfl)) (hw _ (List.mem_of_getElem? (i := 46) rfl)) (hw _ (List.mem_of_getElem? (i := 4) rfl)) (hw _ (List.mem_of_getElem? (i := 48) rfl)) (notFace_of_selects (args := #[]) (mvT hZ (hw _ (List.mem_of_getElem? (i := 47) rfl)))) Ex_10 (by decide) (rm7 l Z a0 hw [] o0 (own_E u p2 (f10 p2 nv u)) T4.heap Fend4) e11 (W := 0) (by decide) (by decide) (by decide) (by decide) (g := (mkF m 142 #[.val (.ref o0), .val (.ref o1), .val (.int p2), .val (.int p3), .val (.int nu), .val (.int st), .val (.int en), .val (.int (1 : Int32)), .val (.int (f10 p2 nv u)), .val (.int (own_E u p2 (f10 p2 nv u))), .unset] [(.ref o0)])) rfl (by rw [hml]; rfl) (argsL := []) (rest := []) rfl (lenOf pd_1 rfl) rfl (by show 2 * 0 + _ ≤ _; exact Nat.le_of_eq rfl) (hb hby d4_142)
        refine Fini.st st12 ?_
        show Fini p e below s _ _ _ T12 (mkF m 145 #[.val (.ref o0), .val (.ref o1), .val (.int p2), .val (.int p3), .val (.int nu), .val (.int st), .val (.int en), .val (.int (1 : Int32)), .val (.int (f10 p2 nv u)), .val (.int (own_E u p2 (f10 p2 nv u))), .unset] [(.int (own_E u p2 (f10 p2 nv u)))])
        refine Fini.st (fun _ k => XS.iload X12.here hx rfl (hb hby d4_145) rfl k) ?_
        show Fini p e below s _ _ _ T12 (mkF m 147 #[.val (.ref o0), .val (.ref o1), .val (.int p2), .val (.int p3), .val (.int nu), .val (.int st), .val (.int en), .val (.int (1 : Int32)), .val (.int (f10 p2 nv u)), .val (.int (own_E u p2 (f10 p2 nv u))), .unset] [(.int (own_E u p2 (f10 p2 nv u))), (.int (own_E u p2 (f10 p2 nv u)))])
        refine Fini.st (fun _ k => XS.icmpNo X12.here hx rfl (hb hby d4_147) rfl (XT.ii_ne_f (rfl : (own_E u p2 (f10 p2 nv u)) = (own_E u p2 (f10 p2 nv u)))) k) ?_
        show Fini p e below s _ _ _ T12 (mkF m 150 #[.val (.ref o0), .val (.ref o1), .val (.int p2), .val (.int p3), .val (.int nu), .val (.int st), .val (.int en), .val (.int (1 : Int32)), .val (.int (f10 p2 nv u)), .val (.int (own_E u p2 (f10 p2 nv u))), .unset] [])
        refine Fini.st (fun _ k => XS.iconst X12.here hx rfl (hb hby d4_150) k) ?_
        show Fini p e below s _ _ _ T12 (mkF m 151 #[.val (.ref o0), .val (.ref o1), .val (.int p2), .val (.int p3), .val (.int nu), .val (.int st), .val (.int en), .val (.int (1 : Int32)), .val (.int (f10 p2 nv u)), .val (.int (own_E u p2 (f10 p2 nv u))), .unset] [(.int (1 : Int32))])
        refine Fini.st (fun _ k => XS.goto X12.here hx rfl (pc0 := 151) (pc' := 155) rfl (hb hby d4_151) (by decide) (by decide) k) ?_
        show Fini p e below s _ _ _ T12 (mkF m 155 #[.val (.ref o0), .val (.ref o1), .val (.int p2), .val (.int p3), .val (.int nu), .val (.int st), .val (.int en), .val (.int (1 : Int32)), .val (.int (f10 p2 nv u)), .val (.int (own_E u p2 (f10 p2 nv u))), .unset] [(.int (1 : Int32))])
        refine Fini.st (fun _ k => XS.istore X12.here hx rfl (hb hby d4_155) rfl (l' := #[.val (.ref o0), .val (.ref o1), .val (.int p2), .val (.int p3), .val (.int nu), .val (.int st), .val (.int en), .val (.int (1 : Int32)), .val (.int (f10 p2 nv u)), .val (.int (own_E u p2 (f10 p2 nv u))), .val (.int (1 : Int32))]) rfl k) ?_
        show Fini p e below s _ _ _ T12 (mkF m 157 #[.val (.ref o0), .val (.ref o1), .val (.int p2), .val (.int p3), .val (.int nu), .val (.int st), .val (.int en), .val (.int (1 : Int32)), .val (.int (f10 p2 nv u)), .val (.int (own_E u p2 (f10 p2 nv u))), .val (.int (1 : Int32))] [])
        refine Fini.st (fun _ k => XS.iload X12.here hx rfl (hb hby d4_157) rfl k) ?_
        show Fini p e below s _ _ _ T12 (mkF m 159 #[.val (.ref o0), .val (.ref o1), .val (.int p2), .val (.int p3), .val (.int nu), .val (.int st), .val (.int en), .val (.int (1 : Int32)), .val (.int (f10 p2 nv u)), .val (.int (own_E u p2 (f10 p2 nv u))), .val (.int (1 : Int32))] [(.int (1 : Int32))])
        refine Fini.st (fun _ k => XS.ifNo X12.here hx rfl (hb hby d4_159) rfl (XT.i0_eq_f (by decide : ¬ (1 : Int32) = (0 : Int32))) k) ?_
        show Fini p e below s _ _ _ T12 (mkF m 162 #[.val (.ref o0), .val (.ref o1), .val (.int p2), .val (.int p3), .val (.int nu), .val (.int st), .val (.int en), .val (.int (1 : Int32)), .val (.int (f10 p2 nv u)), .val (.int (own_E u p2 (f10 p2 nv u))), .val (.int (1 : Int32))] [])
        refine Fini.st (fun _ k => XS.iload X12.here hx rfl (hb hby d4_162) rfl k) ?_
        show Fini p e below s _ _ _ T12 (mkF m 164 #[.val (.ref o0), .val (.ref o1), .val (.int p2), .val (.int p3), .val (.int nu), .val (.int st), .val (.int en), .val (.int (1 : Int32)), .val (.int (f10 p2 nv u)), .val (.int (own_E u p2 (f10 p2 nv u))), .val (.int (1 : Int32))] [(.int (f10 p2 nv u))])
        refine Fini.st (fun _ k => XS.iconst X12.here hx rfl (hb hby d4_164) k) ?_
        show Fini p e below s _ _ _ T12 (mkF m 165 #[.val (.ref o0), .val (.ref o1), .val (.int p2), .val (.int p3), .val (.int nu), .val (.int st), .val (.int en), .val (.int (1 : Int32)), .val (.int (f10 p2 nv u)), .val (.int (own_E u p2 (f10 p2 nv u))), .val (.int (1 : Int32))] [(.int (1 : Int32)), (.int (f10 p2 nv u))])
        refine Fini.st (fun _ k => XS.iadd X12.here hx rfl (hb hby d4_165) rfl k) ?_
        show Fini p e below s _ _ _ T12 (mkF m 166 #[.val (.ref o0), .val (.ref o1), .val (.int p2), .val (.int p3), .val (.int nu), .val (.int st), .val (.int en), .val (.int (1 : Int32)), .val (.int (f10 p2 nv u)), .val (.int (own_E u p2 (f10 p2 nv u))), .val (.int (1 : Int32))] [(.int ((f10 p2 nv u) + (1 : Int32)))])
        refine Fini.st (fun _ k => XS.goto X12.here hx rfl (pc0 := 166) (pc' := 170) rfl (hb hby d4_166) (by decide) (by decide) k) ?_
        show Fini p e below s _ _ _ T12 (mkF m 170 #[.val (.ref o0), .val (.ref o1), .val (.int p2), .val (.int p3), .val (.int nu), .val (.int st), .val (.int en), .val (.int (1 : Int32)), .val (.int (f10 p2 nv u)), .val (.int (own_E u p2 (f10 p2 nv u))), .val (.int (1 : Int32))] [(.int ((f10 p2 nv u) + (1 : Int32)))])
        have Kp_13 : Keep h0 T4.heap [o0] := (Keep.trans (Keep.refl h0 [o0]) K4 (allS (P := fun x => x ∈ _ ∨ _ ≤ x) (Or.inl (List.mem_of_getElem? (i := 0) rfl)) all0))
        exact Fini.retI X12 hx hlk Bd.returns (hb hby d4_170) (by decide) (by decide) ⟨N4, (by rw [e12]; exact Kp_13), _, _, _, _, rfl, (own_q (own_lf u h0' hpn h4) h0' h4), (fun _ => hnu hpn), (by rw [e12]; exact Fc4), (by rw [e12]; exact Fnumber4), (by rw [e12]; exact Fstart4), (by rw [e12]; exact Fend4), (by rw [e12]; exact Fnext4)⟩
      · skip
        refine Fini.st (fun _ k => XS.icmpYes X6.here hx rfl (pc0 := 111) (pc' := 120) rfl (hb hby d4_111) rfl (XT.ii_ne_t c8) (by decide) (by decide) k) ?_
        show Fini p e below s _ _ _ T6 (mkF m 120 #[.val (.ref o0), .val (.ref o1), .val (.int p2), .val (.int p3), .val (.int nu), .val (.int st), .val (.int en), .val (.int (1 : Int32)), .val (.int (f10 p2 nv u)), .val (.int (f10 p2 nv u)), .unset] [])
        refine Fini.cast (g' := (mkF m 120 #[.val (.ref o0), .val (.ref o1), .val (.int p2), .val (.int p3), .val (.int nu), .val (.int st), .val (.int en), .val (.int (1 : Int32)), .val (.int (f10 p2 nv u)), .val (.int (own_E u p2 (f10 p2 nv u))), .unset] [])) (by rw [show own_E u p2 (f10 p2 nv u) = (f10 p2 nv u) from ((if_pos c7).trans (if_neg c8))]) ?_
        show Fini p e below s _ _ _ T6 (mkF m 120 #[.val (.ref o0), .val (.ref o1), .val (.int p2), .val (.int p3), .val (.int nu), .val (.int st), .val (.int en), .val (.int (1 : Int32)), .val (.int (f10 p2 nv u)), .val (.int (own_E u p2 (f10 p2 nv u))), .unset] [])
        refine Fini.st (fun _ k => XS.iload X6.here hx rfl (hb hby d4_120) rfl k) ?_
        show Fini p e below s _ _ _ T6 (mkF m 122 #[.val (.ref o0), .val (.ref o1), .val (.int p2), .val (.int p3), .val (.int nu), .val (.int st), .val (.int en), .val (.int (1 : Int32)), .val (.int (f10 p2 nv u)), .val (.int (own_E u p2 (f10 p2 nv u))), .unset] [(.int (1 : Int32))])
        refine Fini.st (fun _ k => XS.ifNo X6.here hx rfl (hb hby d4_122) rfl (XT.i0_eq_f (by decide : ¬ (1 : Int32) = (0 : Int32))) k) ?_
        show Fini p e below s _ _ _ T6 (mkF m 125 #[.val (.ref o0), .val (.ref o1), .val (.int p2), .val (.int p3), .val (.int nu), .val (.int st), .val (.int en), .val (.int (1 : Int32)), .val (.int (f10 p2 nv u)), .val (.int (own_E u p2 (f10 p2 nv u))), .unset] [])
        refine Fini.st (fun _ k => XS.aloadN X6.here hx rfl (hb hby d4_125) rfl rfl k) ?_
        show Fini p e below s _ _ _ T6 (mkF m 126 #[.val (.ref o0), .val (.ref o1), .val (.int p2), .val (.int p3), .val (.int nu), .val (.int st), .val (.int en), .val (.int (1 : Int32)), .val (.int (f10 p2 nv u)), .val (.int (own_E u p2 (f10 p2 nv u))), .unset] [(.ref o0)])
        have Ex_15 : Exa Z T4.heap o0 "com/example/rights_after_actions/rightsafteractions/io/TextFile$Lines" := (E_o0.keep K4)
        obtain ⟨T14, X14, e14, st14⟩ := pureV X6 hx hZ hown (hw _ (List.mem_of_getElem? (i := 30) rfl)) (hw _ (List.mem_of_getElem? (i := 31) rfl)) (hw _ (List.mem_of_getElem? (i := 33) rfl)) (hw _ (List.mem_of_getElem? (i := 32) rfl)) (hw _ (List.mem_of_getElem? (i := 4) rfl)) (hw _ (List.mem_of_getElem? (i := 34) rfl)) (notFace_of_selects (args := #[]) (mvT hZ (hw _ (List.mem_of_getElem? (i := 33) rfl)))) Ex_15 (by decide) (rm5 l Z a0 hw [] o0 (nu + (1 : Int32)) T4.heap Fnumber4) e6 (W := 0) (by decide) (by decide) (by decide) (by decide) (g := (mkF m 126 #[.val (.ref o0), .val (.ref o1), .val (.int p2), .val (.int p3), .val (.int nu), .val (.int st), .val (.int en), .val (.int (1 : Int32)), .val (.int (f10 p2 nv u)), .val (.int (own_E u p2 (f10 p2 nv u))), .unset] [(.ref o0)])) rfl (by rw [hml]; rfl) (argsL := []) (rest := []) rfl (lenOf pd_1 rfl) rfl (by show 2 * 0 + _ ≤ _; exact Nat.le_of_eq rfl) (hb hby d4_126)
        refine Fini.st st14 ?_
        show Fini p e below s _ _ _ T14 (mkF m 129 #[.val (.ref o0), .val (.ref o1), .val (.int p2), .val (.int p3), .val (.int nu), .val (.int st), .val (.int en), .val (.int (1 : Int32)), .val (.int (f10 p2 nv u)), .val (.int (own_E u p2 (f10 p2 nv u))), .unset] [(.int (nu + (1 : Int32)))])
        refine Fini.st (fun _ k => XS.iloadN X14.here hx rfl (hb hby d4_129) rfl k) ?_
        show Fini p e below s _ _ _ T14 (mkF m 130 #[.val (.ref o0), .val (.ref o1), .val (.int p2), .val (.int p3), .val (.int nu), .val (.int st), .val (.int en), .val (.int (1 : Int32)), .val (.int (f10 p2 nv u)), .val (.int (own_E u p2 (f10 p2 nv u))), .unset] [(.int p3), (.int (nu + (1 : Int32)))])
        refine Fini.st (fun _ k => XS.icmpNo X14.here hx rfl (hb hby d4_130) rfl (XT.ii_ne_f (hnu hpn)) k) ?_
        show Fini p e below s _ _ _ T14 (mkF m 133 #[.val (.ref o0), .val (.ref o1), .val (.int p2), .val (.int p3), .val (.int nu), .val (.int st), .val (.int en), .val (.int (1 : Int32)), .val (.int (f10 p2 nv u)), .val (.int (own_E u p2 (f10 p2 nv u))), .unset] [])
        refine Fini.st (fun _ k => XS.aloadN X14.here hx rfl (hb hby d4_133) rfl rfl k) ?_
        show Fini p e below s _ _ _ T14 (mkF m 134 #[.val (.ref o0), .val (.ref o1), .val (.int p2), .val (.int p3), .val (.int nu), .val (.int st), .val (.int en), .val (.int (1 : Int32)), .val (.int (f10 p2 nv u)), .val (.int (own_E u p2 (f10 p2 nv u))), .unset] [(.ref o0)])
        obtain ⟨T16, X16, e16, st16⟩ := pureV X14 hx hZ hown (hw _ (List.mem_of_getElem? (i := 37) rfl)) (hw _ (List.mem_of_getElem? (i := 38) rfl)) (hw _ (List.mem_of_getElem? (i := 40) rfl)) (hw _ (List.mem_of_getElem? (i := 39) rfl)) (hw _ (List.mem_of_getElem? (i := 4) rfl)) (hw _ (List.mem_of_getElem? (i := 41) rfl)) (notFace_of_selects (args := #[]) (mvT hZ (hw _ (List.mem_of_getElem? (i := 40) rfl)))) Ex_15 (by decide) (rm6 l Z a0 hw [] o0 p2 T4.heap Fstart4) e14 (W := 0) (by decide) (by decide) (by decide) (by decide) (g := (mkF m 134 #[.val (.ref o0), .val (.ref o1), .val (.int p2), .val (.int p3), .val (.int nu), .val (.int st), .val (.int en), .val (.int (1 : Int32)), .val (.int (f10 p2 nv u)), .val (.int (own_E u p2 (f10 p2 nv u))), .unset] [(.ref o0)])) rfl (by rw [hml]; rfl) (argsL := []) (rest := []) rfl (lenOf pd_1 rfl) rfl (by show 2 * 0 + _ ≤ _; exact Nat.le_of_eq rfl) (hb hby d4_134)
        refine Fini.st st16 ?_
        show Fini p e below s _ _ _ T16 (mkF m 137 #[.val (.ref o0), .val (.ref o1), .val (.int p2), .val (.int p3), .val (.int nu), .val (.int st), .val (.int en), .val (.int (1 : Int32)), .val (.int (f10 p2 nv u)), .val (.int (own_E u p2 (f10 p2 nv u))), .unset] [(.int p2)])
        refine Fini.st (fun _ k => XS.iloadN X16.here hx rfl (hb hby d4_137) rfl k) ?_
        show Fini p e below s _ _ _ T16 (mkF m 138 #[.val (.ref o0), .val (.ref o1), .val (.int p2), .val (.int p3), .val (.int nu), .val (.int st), .val (.int en), .val (.int (1 : Int32)), .val (.int (f10 p2 nv u)), .val (.int (own_E u p2 (f10 p2 nv u))), .unset] [(.int p2), (.int p2)])
        refine Fini.st (fun _ k => XS.icmpNo X16.here hx rfl (hb hby d4_138) rfl (XT.ii_ne_f (rfl : p2 = p2)) k) ?_
        show Fini p e below s _ _ _ T16 (mkF m 141 #[.val (.ref o0), .val (.ref o1), .val (.int p2), .val (.int p3), .val (.int nu), .val (.int st), .val (.int en), .val (.int (1 : Int32)), .val (.int (f10 p2 nv u)), .val (.int (own_E u p2 (f10 p2 nv u))), .unset] [])
        refine Fini.st (fun _ k => XS.aloadN X16.here hx rfl (hb hby d4_141) rfl rfl k) ?_
        show Fini p e below s _ _ _ T16 (mkF m 142 #[.val (.ref o0), .val (.ref o1), .val (.int p2), .val (.int p3), .val (.int nu), .val (.int st), .val (.int en), .val (.int (1 : Int32)), .val (.int (f10 p2 nv u)), .val (.int (own_E u p2 (f10 p2 nv u))), .unset] [(.ref o0)])
        obtain ⟨T17, X17, e17, st17⟩ := pureV X16 hx hZ hown (hw _ (List.mem_of_getElem? (i := 44) rfl)) (hw _ (List.mem_of_getElem? (i := 45) rfl)) (hw _ (List.mem_of_getElem? (i := 47) rfl)) (hw _ (List.mem_of_getElem? (i := 46) rfl)) (hw _ (List.mem_of_getElem? (i := 4) rfl)) (hw _ (List.mem_of_getElem? (i := 48) rfl)) (notFace_of_selects (args := #[]) (mvT hZ (hw _ (List.mem_of_getElem? (i := 47) rfl)))) Ex_15 (by decide) (rm7 l Z a0 hw [] o0 (own_E u p2 (f10 p2 nv u)) T4.heap Fend4) e16 (W := 0) (by decide) (by decide) (by decide) (by decide) (g := (mkF m 142 #[.val (.ref o0), .val (.ref o1), .val (.int p2), .val (.int p3), .val (.int nu), .val (.int st), .val (.int en), .val (.int (1 : Int32)), .val (.int (f10 p2 nv u)), .val (.int (own_E u p2 (f10 p2 nv u))), .unset] [(.ref o0)])) rfl (by rw [hml]; rfl) (argsL := []) (rest := []) rfl (lenOf pd_1 rfl) rfl (by show 2 * 0 + _ ≤ _; exact Nat.le_of_eq rfl) (hb hby d4_142)
        refine Fini.st st17 ?_
        show Fini p e below s _ _ _ T17 (mkF m 145 #[.val (.ref o0), .val (.ref o1), .val (.int p2), .val (.int p3), .val (.int nu), .val (.int st), .val (.int en), .val (.int (1 : Int32)), .val (.int (f10 p2 nv u)), .val (.int (own_E u p2 (f10 p2 nv u))), .unset] [(.int (own_E u p2 (f10 p2 nv u)))])
        refine Fini.st (fun _ k => XS.iload X17.here hx rfl (hb hby d4_145) rfl k) ?_
        show Fini p e below s _ _ _ T17 (mkF m 147 #[.val (.ref o0), .val (.ref o1), .val (.int p2), .val (.int p3), .val (.int nu), .val (.int st), .val (.int en), .val (.int (1 : Int32)), .val (.int (f10 p2 nv u)), .val (.int (own_E u p2 (f10 p2 nv u))), .unset] [(.int (own_E u p2 (f10 p2 nv u))), (.int (own_E u p2 (f10 p2 nv u)))])
        refine Fini.st (fun _ k => XS.icmpNo X17.here hx rfl (hb hby d4_147) rfl (XT.ii_ne_f (rfl : (own_E u p2 (f10 p2 nv u)) = (own_E u p2 (f10 p2 nv u)))) k) ?_
        show Fini p e below s _ _ _ T17 (mkF m 150 #[.val (.ref o0), .val (.ref o1), .val (.int p2), .val (.int p3), .val (.int nu), .val (.int st), .val (.int en), .val (.int (1 : Int32)), .val (.int (f10 p2 nv u)), .val (.int (own_E u p2 (f10 p2 nv u))), .unset] [])
        refine Fini.st (fun _ k => XS.iconst X17.here hx rfl (hb hby d4_150) k) ?_
        show Fini p e below s _ _ _ T17 (mkF m 151 #[.val (.ref o0), .val (.ref o1), .val (.int p2), .val (.int p3), .val (.int nu), .val (.int st), .val (.int en), .val (.int (1 : Int32)), .val (.int (f10 p2 nv u)), .val (.int (own_E u p2 (f10 p2 nv u))), .unset] [(.int (1 : Int32))])
        refine Fini.st (fun _ k => XS.goto X17.here hx rfl (pc0 := 151) (pc' := 155) rfl (hb hby d4_151) (by decide) (by decide) k) ?_
        show Fini p e below s _ _ _ T17 (mkF m 155 #[.val (.ref o0), .val (.ref o1), .val (.int p2), .val (.int p3), .val (.int nu), .val (.int st), .val (.int en), .val (.int (1 : Int32)), .val (.int (f10 p2 nv u)), .val (.int (own_E u p2 (f10 p2 nv u))), .unset] [(.int (1 : Int32))])
        refine Fini.st (fun _ k => XS.istore X17.here hx rfl (hb hby d4_155) rfl (l' := #[.val (.ref o0), .val (.ref o1), .val (.int p2), .val (.int p3), .val (.int nu), .val (.int st), .val (.int en), .val (.int (1 : Int32)), .val (.int (f10 p2 nv u)), .val (.int (own_E u p2 (f10 p2 nv u))), .val (.int (1 : Int32))]) rfl k) ?_
        show Fini p e below s _ _ _ T17 (mkF m 157 #[.val (.ref o0), .val (.ref o1), .val (.int p2), .val (.int p3), .val (.int nu), .val (.int st), .val (.int en), .val (.int (1 : Int32)), .val (.int (f10 p2 nv u)), .val (.int (own_E u p2 (f10 p2 nv u))), .val (.int (1 : Int32))] [])
        refine Fini.st (fun _ k => XS.iload X17.here hx rfl (hb hby d4_157) rfl k) ?_
        show Fini p e below s _ _ _ T17 (mkF m 159 #[.val (.ref o0), .val (.ref o1), .val (.int p2), .val (.int p3), .val (.int nu), .val (.int st), .val (.int en), .val (.int (1 : Int32)), .val (.int (f10 p2 nv u)), .val (.int (own_E u p2 (f10 p2 nv u))), .val (.int (1 : Int32))] [(.int (1 : Int32))])
        refine Fini.st (fun _ k => XS.ifNo X17.here hx rfl (hb hby d4_159) rfl (XT.i0_eq_f (by decide : ¬ (1 : Int32) = (0 : Int32))) k) ?_
        show Fini p e below s _ _ _ T17 (mkF m 162 #[.val (.ref o0), .val (.ref o1), .val (.int p2), .val (.int p3), .val (.int nu), .val (.int st), .val (.int en), .val (.int (1 : Int32)), .val (.int (f10 p2 nv u)), .val (.int (own_E u p2 (f10 p2 nv u))), .val (.int (1 : Int32))] [])
        refine Fini.st (fun _ k => XS.iload X17.here hx rfl (hb hby d4_162) rfl k) ?_
        show Fini p e below s _ _ _ T17 (mkF m 164 #[.val (.ref o0), .val (.ref o1), .val (.int p2), .val (.int p3), .val (.int nu), .val (.int st), .val (.int en), .val (.int (1 : Int32)), .val (.int (f10 p2 nv u)), .val (.int (own_E u p2 (f10 p2 nv u))), .val (.int (1 : Int32))] [(.int (f10 p2 nv u))])
        refine Fini.st (fun _ k => XS.iconst X17.here hx rfl (hb hby d4_164) k) ?_
        show Fini p e below s _ _ _ T17 (mkF m 165 #[.val (.ref o0), .val (.ref o1), .val (.int p2), .val (.int p3), .val (.int nu), .val (.int st), .val (.int en), .val (.int (1 : Int32)), .val (.int (f10 p2 nv u)), .val (.int (own_E u p2 (f10 p2 nv u))), .val (.int (1 : Int32))] [(.int (1 : Int32)), (.int (f10 p2 nv u))])
        refine Fini.st (fun _ k => XS.iadd X17.here hx rfl (hb hby d4_165) rfl k) ?_
        show Fini p e below s _ _ _ T17 (mkF m 166 #[.val (.ref o0), .val (.ref o1), .val (.int p2), .val (.int p3), .val (.int nu), .val (.int st), .val (.int en), .val (.int (1 : Int32)), .val (.int (f10 p2 nv u)), .val (.int (own_E u p2 (f10 p2 nv u))), .val (.int (1 : Int32))] [(.int ((f10 p2 nv u) + (1 : Int32)))])
        refine Fini.st (fun _ k => XS.goto X17.here hx rfl (pc0 := 166) (pc' := 170) rfl (hb hby d4_166) (by decide) (by decide) k) ?_
        show Fini p e below s _ _ _ T17 (mkF m 170 #[.val (.ref o0), .val (.ref o1), .val (.int p2), .val (.int p3), .val (.int nu), .val (.int st), .val (.int en), .val (.int (1 : Int32)), .val (.int (f10 p2 nv u)), .val (.int (own_E u p2 (f10 p2 nv u))), .val (.int (1 : Int32))] [(.int ((f10 p2 nv u) + (1 : Int32)))])
        have Kp_18 : Keep h0 T4.heap [o0] := (Keep.trans (Keep.refl h0 [o0]) K4 (allS (P := fun x => x ∈ _ ∨ _ ≤ x) (Or.inl (List.mem_of_getElem? (i := 0) rfl)) all0))
        exact Fini.retI X17 hx hlk Bd.returns (hb hby d4_170) (by decide) (by decide) ⟨N4, (by rw [e17]; exact Kp_18), _, _, _, _, rfl, (own_q (own_lf u h0' hpn h4) h0' h4), (fun _ => hnu hpn), (by rw [e17]; exact Fc4), (by rw [e17]; exact Fnumber4), (by rw [e17]; exact Fstart4), (by rw [e17]; exact Fend4), (by rw [e17]; exact Fnext4)⟩
    · skip
      refine Fini.st (fun _ k => XS.icmpYes X6.here hx rfl (pc0 := 100) (pc' := 120) rfl (hb hby d4_100) rfl (XT.ii_le_t c7) (by decide) (by decide) k) ?_
      show Fini p e below s _ _ _ T6 (mkF m 120 #[.val (.ref o0), .val (.ref o1), .val (.int p2), .val (.int p3), .val (.int nu), .val (.int st), .val (.int en), .val (.int (1 : Int32)), .val (.int (f10 p2 nv u)), .val (.int (f10 p2 nv u)), .unset] [])
      refine Fini.cast (g' := (mkF m 120 #[.val (.ref o0), .val (.ref o1), .val (.int p2), .val (.int p3), .val (.int nu), .val (.int st), .val (.int en), .val (.int (1 : Int32)), .val (.int (f10 p2 nv u)), .val (.int (own_E u p2 (f10 p2 nv u))), .unset] [])) (by rw [show own_E u p2 (f10 p2 nv u) = (f10 p2 nv u) from (if_neg c7)]) ?_
      show Fini p e below s _ _ _ T6 (mkF m 120 #[.val (.ref o0), .val (.ref o1), .val (.int p2), .val (.int p3), .val (.int nu), .val (.int st), .val (.int en), .val (.int (1 : Int32)), .val (.int (f10 p2 nv u)), .val (.int (own_E u p2 (f10 p2 nv u))), .unset] [])
      refine Fini.st (fun _ k => XS.iload X6.here hx rfl (hb hby d4_120) rfl k) ?_
      show Fini p e below s _ _ _ T6 (mkF m 122 #[.val (.ref o0), .val (.ref o1), .val (.int p2), .val (.int p3), .val (.int nu), .val (.int st), .val (.int en), .val (.int (1 : Int32)), .val (.int (f10 p2 nv u)), .val (.int (own_E u p2 (f10 p2 nv u))), .unset] [(.int (1 : Int32))])
      refine Fini.st (fun _ k => XS.ifNo X6.here hx rfl (hb hby d4_122) rfl (XT.i0_eq_f (by decide : ¬ (1 : Int32) = (0 : Int32))) k) ?_
      show Fini p e below s _ _ _ T6 (mkF m 125 #[.val (.ref o0), .val (.ref o1), .val (.int p2), .val (.int p3), .val (.int nu), .val (.int st), .val (.int en), .val (.int (1 : Int32)), .val (.int (f10 p2 nv u)), .val (.int (own_E u p2 (f10 p2 nv u))), .unset] [])
      refine Fini.st (fun _ k => XS.aloadN X6.here hx rfl (hb hby d4_125) rfl rfl k) ?_
      show Fini p e below s _ _ _ T6 (mkF m 126 #[.val (.ref o0), .val (.ref o1), .val (.int p2), .val (.int p3), .val (.int nu), .val (.int st), .val (.int en), .val (.int (1 : Int32)), .val (.int (f10 p2 nv u)), .val (.int (own_E u p2 (f10 p2 nv u))), .unset] [(.ref o0)])
      have Ex_20 : Exa Z T4.heap o0 "com/example/rights_after_actions/rightsafteractions/io/TextFile$Lines" := (E_o0.keep K4)
      obtain ⟨T19, X19, e19, st19⟩ := pureV X6 hx hZ hown (hw _ (List.mem_of_getElem? (i := 30) rfl)) (hw _ (List.mem_of_getElem? (i := 31) rfl)) (hw _ (List.mem_of_getElem? (i := 33) rfl)) (hw _ (List.mem_of_getElem? (i := 32) rfl)) (hw _ (List.mem_of_getElem? (i := 4) rfl)) (hw _ (List.mem_of_getElem? (i := 34) rfl)) (notFace_of_selects (args := #[]) (mvT hZ (hw _ (List.mem_of_getElem? (i := 33) rfl)))) Ex_20 (by decide) (rm5 l Z a0 hw [] o0 (nu + (1 : Int32)) T4.heap Fnumber4) e6 (W := 0) (by decide) (by decide) (by decide) (by decide) (g := (mkF m 126 #[.val (.ref o0), .val (.ref o1), .val (.int p2), .val (.int p3), .val (.int nu), .val (.int st), .val (.int en), .val (.int (1 : Int32)), .val (.int (f10 p2 nv u)), .val (.int (own_E u p2 (f10 p2 nv u))), .unset] [(.ref o0)])) rfl (by rw [hml]; rfl) (argsL := []) (rest := []) rfl (lenOf pd_1 rfl) rfl (by show 2 * 0 + _ ≤ _; exact Nat.le_of_eq rfl) (hb hby d4_126)
      refine Fini.st st19 ?_
      show Fini p e below s _ _ _ T19 (mkF m 129 #[.val (.ref o0), .val (.ref o1), .val (.int p2), .val (.int p3), .val (.int nu), .val (.int st), .val (.int en), .val (.int (1 : Int32)), .val (.int (f10 p2 nv u)), .val (.int (own_E u p2 (f10 p2 nv u))), .unset] [(.int (nu + (1 : Int32)))])
      refine Fini.st (fun _ k => XS.iloadN X19.here hx rfl (hb hby d4_129) rfl k) ?_
      show Fini p e below s _ _ _ T19 (mkF m 130 #[.val (.ref o0), .val (.ref o1), .val (.int p2), .val (.int p3), .val (.int nu), .val (.int st), .val (.int en), .val (.int (1 : Int32)), .val (.int (f10 p2 nv u)), .val (.int (own_E u p2 (f10 p2 nv u))), .unset] [(.int p3), (.int (nu + (1 : Int32)))])
      refine Fini.st (fun _ k => XS.icmpNo X19.here hx rfl (hb hby d4_130) rfl (XT.ii_ne_f (hnu hpn)) k) ?_
      show Fini p e below s _ _ _ T19 (mkF m 133 #[.val (.ref o0), .val (.ref o1), .val (.int p2), .val (.int p3), .val (.int nu), .val (.int st), .val (.int en), .val (.int (1 : Int32)), .val (.int (f10 p2 nv u)), .val (.int (own_E u p2 (f10 p2 nv u))), .unset] [])
      refine Fini.st (fun _ k => XS.aloadN X19.here hx rfl (hb hby d4_133) rfl rfl k) ?_
      show Fini p e below s _ _ _ T19 (mkF m 134 #[.val (.ref o0), .val (.ref o1), .val (.int p2), .val (.int p3), .val (.int nu), .val (.int st), .val (.int en), .val (.int (1 : Int32)), .val (.int (f10 p2 nv u)), .val (.int (own_E u p2 (f10 p2 nv u))), .unset] [(.ref o0)])
      obtain ⟨T21, X21, e21, st21⟩ := pureV X19 hx hZ hown (hw _ (List.mem_of_getElem? (i := 37) rfl)) (hw _ (List.mem_of_getElem? (i := 38) rfl)) (hw _ (List.mem_of_getElem? (i := 40) rfl)) (hw _ (List.mem_of_getElem? (i := 39) rfl)) (hw _ (List.mem_of_getElem? (i := 4) rfl)) (hw _ (List.mem_of_getElem? (i := 41) rfl)) (notFace_of_selects (args := #[]) (mvT hZ (hw _ (List.mem_of_getElem? (i := 40) rfl)))) Ex_20 (by decide) (rm6 l Z a0 hw [] o0 p2 T4.heap Fstart4) e19 (W := 0) (by decide) (by decide) (by decide) (by decide) (g := (mkF m 134 #[.val (.ref o0), .val (.ref o1), .val (.int p2), .val (.int p3), .val (.int nu), .val (.int st), .val (.int en), .val (.int (1 : Int32)), .val (.int (f10 p2 nv u)), .val (.int (own_E u p2 (f10 p2 nv u))), .unset] [(.ref o0)])) rfl (by rw [hml]; rfl) (argsL := []) (rest := []) rfl (lenOf pd_1 rfl) rfl (by show 2 * 0 + _ ≤ _; exact Nat.le_of_eq rfl) (hb hby d4_134)
      refine Fini.st st21 ?_
      show Fini p e below s _ _ _ T21 (mkF m 137 #[.val (.ref o0), .val (.ref o1), .val (.int p2), .val (.int p3), .val (.int nu), .val (.int st), .val (.int en), .val (.int (1 : Int32)), .val (.int (f10 p2 nv u)), .val (.int (own_E u p2 (f10 p2 nv u))), .unset] [(.int p2)])
      refine Fini.st (fun _ k => XS.iloadN X21.here hx rfl (hb hby d4_137) rfl k) ?_
      show Fini p e below s _ _ _ T21 (mkF m 138 #[.val (.ref o0), .val (.ref o1), .val (.int p2), .val (.int p3), .val (.int nu), .val (.int st), .val (.int en), .val (.int (1 : Int32)), .val (.int (f10 p2 nv u)), .val (.int (own_E u p2 (f10 p2 nv u))), .unset] [(.int p2), (.int p2)])
      refine Fini.st (fun _ k => XS.icmpNo X21.here hx rfl (hb hby d4_138) rfl (XT.ii_ne_f (rfl : p2 = p2)) k) ?_
      show Fini p e below s _ _ _ T21 (mkF m 141 #[.val (.ref o0), .val (.ref o1), .val (.int p2), .val (.int p3), .val (.int nu), .val (.int st), .val (.int en), .val (.int (1 : Int32)), .val (.int (f10 p2 nv u)), .val (.int (own_E u p2 (f10 p2 nv u))), .unset] [])
      refine Fini.st (fun _ k => XS.aloadN X21.here hx rfl (hb hby d4_141) rfl rfl k) ?_
      show Fini p e below s _ _ _ T21 (mkF m 142 #[.val (.ref o0), .val (.ref o1), .val (.int p2), .val (.int p3), .val (.int nu), .val (.int st), .val (.int en), .val (.int (1 : Int32)), .val (.int (f10 p2 nv u)), .val (.int (own_E u p2 (f10 p2 nv u))), .unset] [(.ref o0)])
      obtain ⟨T22, X22, e22, st22⟩ := pureV X21 hx hZ hown (hw _ (List.mem_of_getElem? (i := 44) rfl)) (hw _ (List.mem_of_getElem? (i := 45) rfl)) (hw _ (List.mem_of_getElem? (i := 47) rfl)) (hw _ (List.mem_of_getElem? (i := 46) rfl)) (hw _ (List.mem_of_getElem? (i := 4) rfl)) (hw _ (List.mem_of_getElem? (i := 48) rfl)) (notFace_of_selects (args := #[]) (mvT hZ (hw _ (List.mem_of_getElem? (i := 47) rfl)))) Ex_20 (by decide) (rm7 l Z a0 hw [] o0 (own_E u p2 (f10 p2 nv u)) T4.heap Fend4) e21 (W := 0) (by decide) (by decide) (by decide) (by decide) (g := (mkF m 142 #[.val (.ref o0), .val (.ref o1), .val (.int p2), .val (.int p3), .val (.int nu), .val (.int st), .val (.int en), .val (.int (1 : Int32)), .val (.int (f10 p2 nv u)), .val (.int (own_E u p2 (f10 p2 nv u))), .unset] [(.ref o0)])) rfl (by rw [hml]; rfl) (argsL := []) (rest := []) rfl (lenOf pd_1 rfl) rfl (by show 2 * 0 + _ ≤ _; exact Nat.le_of_eq rfl) (hb hby d4_142)
      refine Fini.st st22 ?_
      show Fini p e below s _ _ _ T22 (mkF m 145 #[.val (.ref o0), .val (.ref o1), .val (.int p2), .val (.int p3), .val (.int nu), .val (.int st), .val (.int en), .val (.int (1 : Int32)), .val (.int (f10 p2 nv u)), .val (.int (own_E u p2 (f10 p2 nv u))), .unset] [(.int (own_E u p2 (f10 p2 nv u)))])
      refine Fini.st (fun _ k => XS.iload X22.here hx rfl (hb hby d4_145) rfl k) ?_
      show Fini p e below s _ _ _ T22 (mkF m 147 #[.val (.ref o0), .val (.ref o1), .val (.int p2), .val (.int p3), .val (.int nu), .val (.int st), .val (.int en), .val (.int (1 : Int32)), .val (.int (f10 p2 nv u)), .val (.int (own_E u p2 (f10 p2 nv u))), .unset] [(.int (own_E u p2 (f10 p2 nv u))), (.int (own_E u p2 (f10 p2 nv u)))])
      refine Fini.st (fun _ k => XS.icmpNo X22.here hx rfl (hb hby d4_147) rfl (XT.ii_ne_f (rfl : (own_E u p2 (f10 p2 nv u)) = (own_E u p2 (f10 p2 nv u)))) k) ?_
      show Fini p e below s _ _ _ T22 (mkF m 150 #[.val (.ref o0), .val (.ref o1), .val (.int p2), .val (.int p3), .val (.int nu), .val (.int st), .val (.int en), .val (.int (1 : Int32)), .val (.int (f10 p2 nv u)), .val (.int (own_E u p2 (f10 p2 nv u))), .unset] [])
      refine Fini.st (fun _ k => XS.iconst X22.here hx rfl (hb hby d4_150) k) ?_
      show Fini p e below s _ _ _ T22 (mkF m 151 #[.val (.ref o0), .val (.ref o1), .val (.int p2), .val (.int p3), .val (.int nu), .val (.int st), .val (.int en), .val (.int (1 : Int32)), .val (.int (f10 p2 nv u)), .val (.int (own_E u p2 (f10 p2 nv u))), .unset] [(.int (1 : Int32))])
      refine Fini.st (fun _ k => XS.goto X22.here hx rfl (pc0 := 151) (pc' := 155) rfl (hb hby d4_151) (by decide) (by decide) k) ?_
      show Fini p e below s _ _ _ T22 (mkF m 155 #[.val (.ref o0), .val (.ref o1), .val (.int p2), .val (.int p3), .val (.int nu), .val (.int st), .val (.int en), .val (.int (1 : Int32)), .val (.int (f10 p2 nv u)), .val (.int (own_E u p2 (f10 p2 nv u))), .unset] [(.int (1 : Int32))])
      refine Fini.st (fun _ k => XS.istore X22.here hx rfl (hb hby d4_155) rfl (l' := #[.val (.ref o0), .val (.ref o1), .val (.int p2), .val (.int p3), .val (.int nu), .val (.int st), .val (.int en), .val (.int (1 : Int32)), .val (.int (f10 p2 nv u)), .val (.int (own_E u p2 (f10 p2 nv u))), .val (.int (1 : Int32))]) rfl k) ?_
      show Fini p e below s _ _ _ T22 (mkF m 157 #[.val (.ref o0), .val (.ref o1), .val (.int p2), .val (.int p3), .val (.int nu), .val (.int st), .val (.int en), .val (.int (1 : Int32)), .val (.int (f10 p2 nv u)), .val (.int (own_E u p2 (f10 p2 nv u))), .val (.int (1 : Int32))] [])
      refine Fini.st (fun _ k => XS.iload X22.here hx rfl (hb hby d4_157) rfl k) ?_
      show Fini p e below s _ _ _ T22 (mkF m 159 #[.val (.ref o0), .val (.ref o1), .val (.int p2), .val (.int p3), .val (.int nu), .val (.int st), .val (.int en), .val (.int (1 : Int32)), .val (.int (f10 p2 nv u)), .val (.int (own_E u p2 (f10 p2 nv u))), .val (.int (1 : Int32))] [(.int (1 : Int32))])
      refine Fini.st (fun _ k => XS.ifNo X22.here hx rfl (hb hby d4_159) rfl (XT.i0_eq_f (by decide : ¬ (1 : Int32) = (0 : Int32))) k) ?_
      show Fini p e below s _ _ _ T22 (mkF m 162 #[.val (.ref o0), .val (.ref o1), .val (.int p2), .val (.int p3), .val (.int nu), .val (.int st), .val (.int en), .val (.int (1 : Int32)), .val (.int (f10 p2 nv u)), .val (.int (own_E u p2 (f10 p2 nv u))), .val (.int (1 : Int32))] [])
      refine Fini.st (fun _ k => XS.iload X22.here hx rfl (hb hby d4_162) rfl k) ?_
      show Fini p e below s _ _ _ T22 (mkF m 164 #[.val (.ref o0), .val (.ref o1), .val (.int p2), .val (.int p3), .val (.int nu), .val (.int st), .val (.int en), .val (.int (1 : Int32)), .val (.int (f10 p2 nv u)), .val (.int (own_E u p2 (f10 p2 nv u))), .val (.int (1 : Int32))] [(.int (f10 p2 nv u))])
      refine Fini.st (fun _ k => XS.iconst X22.here hx rfl (hb hby d4_164) k) ?_
      show Fini p e below s _ _ _ T22 (mkF m 165 #[.val (.ref o0), .val (.ref o1), .val (.int p2), .val (.int p3), .val (.int nu), .val (.int st), .val (.int en), .val (.int (1 : Int32)), .val (.int (f10 p2 nv u)), .val (.int (own_E u p2 (f10 p2 nv u))), .val (.int (1 : Int32))] [(.int (1 : Int32)), (.int (f10 p2 nv u))])
      refine Fini.st (fun _ k => XS.iadd X22.here hx rfl (hb hby d4_165) rfl k) ?_
      show Fini p e below s _ _ _ T22 (mkF m 166 #[.val (.ref o0), .val (.ref o1), .val (.int p2), .val (.int p3), .val (.int nu), .val (.int st), .val (.int en), .val (.int (1 : Int32)), .val (.int (f10 p2 nv u)), .val (.int (own_E u p2 (f10 p2 nv u))), .val (.int (1 : Int32))] [(.int ((f10 p2 nv u) + (1 : Int32)))])
      refine Fini.st (fun _ k => XS.goto X22.here hx rfl (pc0 := 166) (pc' := 170) rfl (hb hby d4_166) (by decide) (by decide) k) ?_
      show Fini p e below s _ _ _ T22 (mkF m 170 #[.val (.ref o0), .val (.ref o1), .val (.int p2), .val (.int p3), .val (.int nu), .val (.int st), .val (.int en), .val (.int (1 : Int32)), .val (.int (f10 p2 nv u)), .val (.int (own_E u p2 (f10 p2 nv u))), .val (.int (1 : Int32))] [(.int ((f10 p2 nv u) + (1 : Int32)))])
      have Kp_23 : Keep h0 T4.heap [o0] := (Keep.trans (Keep.refl h0 [o0]) K4 (allS (P := fun x => x ∈ _ ∨ _ ≤ x) (Or.inl (List.mem_of_getElem? (i := 0) rfl)) all0))
      exact Fini.retI X22 hx hlk Bd.returns (hb hby d4_170) (by decide) (by decide) ⟨N4, (by rw [e22]; exact Kp_23), _, _, _, _, rfl, (own_q (own_lf u h0' hpn h4) h0' h4), (fun _ => hnu hpn), (by rw [e22]; exact Fc4), (by rw [e22]; exact Fnumber4), (by rw [e22]; exact Fstart4), (by rw [e22]; exact Fend4), (by rw [e22]; exact Fnext4)⟩
  · skip
    skip
    refine Fini.st (fun _ k => XS.aloadN X3.here hx rfl (hb hby d4_24) rfl rfl k) ?_
    show Fini p e below s _ _ _ T3 (mkF m 25 #[.val (.ref o0), .val (.ref o1), .val (.int p2), .val (.int p3), .val (.int nu), .val (.int st), .val (.int en), .unset, .unset, .unset, .unset] [(.ref o0)])
    obtain ⟨T24, X24, e24, st24⟩ := pureV X3 hx hZ hown (hw _ (List.mem_of_getElem? (i := 51) rfl)) (hw _ (List.mem_of_getElem? (i := 52) rfl)) (hw _ (List.mem_of_getElem? (i := 54) rfl)) (hw _ (List.mem_of_getElem? (i := 53) rfl)) (hw _ (List.mem_of_getElem? (i := 4) rfl)) (hw _ (List.mem_of_getElem? (i := 55) rfl)) (notFace_of_selects (args := #[]) (mvT hZ (hw _ (List.mem_of_getElem? (i := 54) rfl)))) E_o0 (by decide) (rm8_B l Z a0 hw [] o0 o1 nv u p2 h0 F_content F_next A_c hpn) e3 (W := 0) (by decide) (by decide) (by decide) (by decide) (g := (mkF m 25 #[.val (.ref o0), .val (.ref o1), .val (.int p2), .val (.int p3), .val (.int nu), .val (.int st), .val (.int en), .unset, .unset, .unset, .unset] [(.ref o0)])) rfl (by rw [hml]; rfl) (argsL := []) (rest := []) rfl (lenOf pd_2 rfl) rfl (by show 2 * 0 + _ ≤ _; exact Nat.le_of_eq rfl) (hb hby d4_25)
    refine Fini.st st24 ?_
    show Fini p e below s _ _ _ T24 (mkF m 28 #[.val (.ref o0), .val (.ref o1), .val (.int p2), .val (.int p3), .val (.int nu), .val (.int st), .val (.int en), .unset, .unset, .unset, .unset] [(.int (0 : Int32))])
    refine Fini.st (fun _ k => XS.istore X24.here hx rfl (hb hby d4_28) rfl (l' := #[.val (.ref o0), .val (.ref o1), .val (.int p2), .val (.int p3), .val (.int nu), .val (.int st), .val (.int en), .val (.int (0 : Int32)), .unset, .unset, .unset]) rfl k) ?_
    show Fini p e below s _ _ _ T24 (mkF m 30 #[.val (.ref o0), .val (.ref o1), .val (.int p2), .val (.int p3), .val (.int nu), .val (.int st), .val (.int en), .val (.int (0 : Int32)), .unset, .unset, .unset] [])
    refine Fini.st (fun _ k => XS.iloadN X24.here hx rfl (hb hby d4_30) rfl k) ?_
    show Fini p e below s _ _ _ T24 (mkF m 31 #[.val (.ref o0), .val (.ref o1), .val (.int p2), .val (.int p3), .val (.int nu), .val (.int st), .val (.int en), .val (.int (0 : Int32)), .unset, .unset, .unset] [(.int p2)])
    refine Fini.st (fun _ k => XS.aloadN X24.here hx rfl (hb hby d4_31) rfl rfl k) ?_
    show Fini p e below s _ _ _ T24 (mkF m 32 #[.val (.ref o0), .val (.ref o1), .val (.int p2), .val (.int p3), .val (.int nu), .val (.int st), .val (.int en), .val (.int (0 : Int32)), .unset, .unset, .unset] [(.ref o1), (.int p2)])
    refine Fini.st (fun _ k => A_c.len X24 hx hZ e24 rfl rfl (hb hby d4_32) k) ?_
    show Fini p e below s _ _ _ T24 (mkF m 33 #[.val (.ref o0), .val (.ref o1), .val (.int p2), .val (.int p3), .val (.int nu), .val (.int st), .val (.int en), .val (.int (0 : Int32)), .unset, .unset, .unset] [(.int nv), (.int p2)])
    refine Fini.st (fun _ k => XS.icmpNo X24.here hx rfl (hb hby d4_33) rfl (XT.ii_lt_f hpn) k) ?_
    show Fini p e below s _ _ _ T24 (mkF m 36 #[.val (.ref o0), .val (.ref o1), .val (.int p2), .val (.int p3), .val (.int nu), .val (.int st), .val (.int en), .val (.int (0 : Int32)), .unset, .unset, .unset] [])
    refine Fini.st (fun _ k => XS.iload X24.here hx rfl (hb hby d4_36) rfl k) ?_
    show Fini p e below s _ _ _ T24 (mkF m 38 #[.val (.ref o0), .val (.ref o1), .val (.int p2), .val (.int p3), .val (.int nu), .val (.int st), .val (.int en), .val (.int (0 : Int32)), .unset, .unset, .unset] [(.int (0 : Int32))])
    refine Fini.st (fun _ k => XS.ifNo X24.here hx rfl (hb hby d4_38) rfl (XT.i0_ne_f (by decide : (0 : Int32) = (0 : Int32))) k) ?_
    show Fini p e below s _ _ _ T24 (mkF m 41 #[.val (.ref o0), .val (.ref o1), .val (.int p2), .val (.int p3), .val (.int nu), .val (.int st), .val (.int en), .val (.int (0 : Int32)), .unset, .unset, .unset] [])
    refine Fini.st (fun _ k => XS.aloadN X24.here hx rfl (hb hby d4_41) rfl rfl k) ?_
    show Fini p e below s _ _ _ T24 (mkF m 42 #[.val (.ref o0), .val (.ref o1), .val (.int p2), .val (.int p3), .val (.int nu), .val (.int st), .val (.int en), .val (.int (0 : Int32)), .unset, .unset, .unset] [(.ref o0)])
    obtain ⟨T25, X25, e25, st25⟩ := pureV X24 hx hZ hown (hw _ (List.mem_of_getElem? (i := 30) rfl)) (hw _ (List.mem_of_getElem? (i := 31) rfl)) (hw _ (List.mem_of_getElem? (i := 33) rfl)) (hw _ (List.mem_of_getElem? (i := 32) rfl)) (hw _ (List.mem_of_getElem? (i := 4) rfl)) (hw _ (List.mem_of_getElem? (i := 34) rfl)) (notFace_of_selects (args := #[]) (mvT hZ (hw _ (List.mem_of_getElem? (i := 33) rfl)))) E_o0 (by decide) (rm5 l Z a0 hw [] o0 nu h0 F_number) e24 (W := 0) (by decide) (by decide) (by decide) (by decide) (g := (mkF m 42 #[.val (.ref o0), .val (.ref o1), .val (.int p2), .val (.int p3), .val (.int nu), .val (.int st), .val (.int en), .val (.int (0 : Int32)), .unset, .unset, .unset] [(.ref o0)])) rfl (by rw [hml]; rfl) (argsL := []) (rest := []) rfl (lenOf pd_1 rfl) rfl (by show 2 * 0 + _ ≤ _; exact Nat.le_of_eq rfl) (hb hby d4_42)
    refine Fini.st st25 ?_
    show Fini p e below s _ _ _ T25 (mkF m 45 #[.val (.ref o0), .val (.ref o1), .val (.int p2), .val (.int p3), .val (.int nu), .val (.int st), .val (.int en), .val (.int (0 : Int32)), .unset, .unset, .unset] [(.int nu)])
    refine Fini.st (fun _ k => XS.iload X25.here hx rfl (hb hby d4_45) rfl k) ?_
    show Fini p e below s _ _ _ T25 (mkF m 47 #[.val (.ref o0), .val (.ref o1), .val (.int p2), .val (.int p3), .val (.int nu), .val (.int st), .val (.int en), .val (.int (0 : Int32)), .unset, .unset, .unset] [(.int nu), (.int nu)])
    refine Fini.st (fun _ k => XS.icmpNo X25.here hx rfl (hb hby d4_47) rfl (XT.ii_ne_f (rfl : nu = nu)) k) ?_
    show Fini p e below s _ _ _ T25 (mkF m 50 #[.val (.ref o0), .val (.ref o1), .val (.int p2), .val (.int p3), .val (.int nu), .val (.int st), .val (.int en), .val (.int (0 : Int32)), .unset, .unset, .unset] [])
    refine Fini.st (fun _ k => XS.aloadN X25.here hx rfl (hb hby d4_50) rfl rfl k) ?_
    show Fini p e below s _ _ _ T25 (mkF m 51 #[.val (.ref o0), .val (.ref o1), .val (.int p2), .val (.int p3), .val (.int nu), .val (.int st), .val (.int en), .val (.int (0 : Int32)), .unset, .unset, .unset] [(.ref o0)])
    obtain ⟨T26, X26, e26, st26⟩ := pureV X25 hx hZ hown (hw _ (List.mem_of_getElem? (i := 37) rfl)) (hw _ (List.mem_of_getElem? (i := 38) rfl)) (hw _ (List.mem_of_getElem? (i := 40) rfl)) (hw _ (List.mem_of_getElem? (i := 39) rfl)) (hw _ (List.mem_of_getElem? (i := 4) rfl)) (hw _ (List.mem_of_getElem? (i := 41) rfl)) (notFace_of_selects (args := #[]) (mvT hZ (hw _ (List.mem_of_getElem? (i := 40) rfl)))) E_o0 (by decide) (rm6 l Z a0 hw [] o0 st h0 F_start) e25 (W := 0) (by decide) (by decide) (by decide) (by decide) (g := (mkF m 51 #[.val (.ref o0), .val (.ref o1), .val (.int p2), .val (.int p3), .val (.int nu), .val (.int st), .val (.int en), .val (.int (0 : Int32)), .unset, .unset, .unset] [(.ref o0)])) rfl (by rw [hml]; rfl) (argsL := []) (rest := []) rfl (lenOf pd_1 rfl) rfl (by show 2 * 0 + _ ≤ _; exact Nat.le_of_eq rfl) (hb hby d4_51)
    refine Fini.st st26 ?_
    show Fini p e below s _ _ _ T26 (mkF m 54 #[.val (.ref o0), .val (.ref o1), .val (.int p2), .val (.int p3), .val (.int nu), .val (.int st), .val (.int en), .val (.int (0 : Int32)), .unset, .unset, .unset] [(.int st)])
    refine Fini.st (fun _ k => XS.iload X26.here hx rfl (hb hby d4_54) rfl k) ?_
    show Fini p e below s _ _ _ T26 (mkF m 56 #[.val (.ref o0), .val (.ref o1), .val (.int p2), .val (.int p3), .val (.int nu), .val (.int st), .val (.int en), .val (.int (0 : Int32)), .unset, .unset, .unset] [(.int st), (.int st)])
    refine Fini.st (fun _ k => XS.icmpNo X26.here hx rfl (hb hby d4_56) rfl (XT.ii_ne_f (rfl : st = st)) k) ?_
    show Fini p e below s _ _ _ T26 (mkF m 59 #[.val (.ref o0), .val (.ref o1), .val (.int p2), .val (.int p3), .val (.int nu), .val (.int st), .val (.int en), .val (.int (0 : Int32)), .unset, .unset, .unset] [])
    refine Fini.st (fun _ k => XS.aloadN X26.here hx rfl (hb hby d4_59) rfl rfl k) ?_
    show Fini p e below s _ _ _ T26 (mkF m 60 #[.val (.ref o0), .val (.ref o1), .val (.int p2), .val (.int p3), .val (.int nu), .val (.int st), .val (.int en), .val (.int (0 : Int32)), .unset, .unset, .unset] [(.ref o0)])
    obtain ⟨T27, X27, e27, st27⟩ := pureV X26 hx hZ hown (hw _ (List.mem_of_getElem? (i := 44) rfl)) (hw _ (List.mem_of_getElem? (i := 45) rfl)) (hw _ (List.mem_of_getElem? (i := 47) rfl)) (hw _ (List.mem_of_getElem? (i := 46) rfl)) (hw _ (List.mem_of_getElem? (i := 4) rfl)) (hw _ (List.mem_of_getElem? (i := 48) rfl)) (notFace_of_selects (args := #[]) (mvT hZ (hw _ (List.mem_of_getElem? (i := 47) rfl)))) E_o0 (by decide) (rm7 l Z a0 hw [] o0 en h0 F_end) e26 (W := 0) (by decide) (by decide) (by decide) (by decide) (g := (mkF m 60 #[.val (.ref o0), .val (.ref o1), .val (.int p2), .val (.int p3), .val (.int nu), .val (.int st), .val (.int en), .val (.int (0 : Int32)), .unset, .unset, .unset] [(.ref o0)])) rfl (by rw [hml]; rfl) (argsL := []) (rest := []) rfl (lenOf pd_1 rfl) rfl (by show 2 * 0 + _ ≤ _; exact Nat.le_of_eq rfl) (hb hby d4_60)
    refine Fini.st st27 ?_
    show Fini p e below s _ _ _ T27 (mkF m 63 #[.val (.ref o0), .val (.ref o1), .val (.int p2), .val (.int p3), .val (.int nu), .val (.int st), .val (.int en), .val (.int (0 : Int32)), .unset, .unset, .unset] [(.int en)])
    refine Fini.st (fun _ k => XS.iload X27.here hx rfl (hb hby d4_63) rfl k) ?_
    show Fini p e below s _ _ _ T27 (mkF m 65 #[.val (.ref o0), .val (.ref o1), .val (.int p2), .val (.int p3), .val (.int nu), .val (.int st), .val (.int en), .val (.int (0 : Int32)), .unset, .unset, .unset] [(.int en), (.int en)])
    refine Fini.st (fun _ k => XS.icmpNo X27.here hx rfl (hb hby d4_65) rfl (XT.ii_ne_f (rfl : en = en)) k) ?_
    show Fini p e below s _ _ _ T27 (mkF m 68 #[.val (.ref o0), .val (.ref o1), .val (.int p2), .val (.int p3), .val (.int nu), .val (.int st), .val (.int en), .val (.int (0 : Int32)), .unset, .unset, .unset] [])
    refine Fini.st (fun _ k => XS.iconst X27.here hx rfl (hb hby d4_68) k) ?_
    show Fini p e below s _ _ _ T27 (mkF m 69 #[.val (.ref o0), .val (.ref o1), .val (.int p2), .val (.int p3), .val (.int nu), .val (.int st), .val (.int en), .val (.int (0 : Int32)), .unset, .unset, .unset] [(.int (1 : Int32))])
    refine Fini.st (fun _ k => XS.goto X27.here hx rfl (pc0 := 69) (pc' := 73) rfl (hb hby d4_69) (by decide) (by decide) k) ?_
    show Fini p e below s _ _ _ T27 (mkF m 73 #[.val (.ref o0), .val (.ref o1), .val (.int p2), .val (.int p3), .val (.int nu), .val (.int st), .val (.int en), .val (.int (0 : Int32)), .unset, .unset, .unset] [(.int (1 : Int32))])
    refine Fini.st (fun _ k => XS.istore X27.here hx rfl (hb hby d4_73) rfl (l' := #[.val (.ref o0), .val (.ref o1), .val (.int p2), .val (.int p3), .val (.int nu), .val (.int st), .val (.int en), .val (.int (0 : Int32)), .val (.int (1 : Int32)), .unset, .unset]) rfl k) ?_
    show Fini p e below s _ _ _ T27 (mkF m 75 #[.val (.ref o0), .val (.ref o1), .val (.int p2), .val (.int p3), .val (.int nu), .val (.int st), .val (.int en), .val (.int (0 : Int32)), .val (.int (1 : Int32)), .unset, .unset] [])
    refine Fini.st (fun _ k => XS.iload X27.here hx rfl (hb hby d4_75) rfl k) ?_
    show Fini p e below s _ _ _ T27 (mkF m 77 #[.val (.ref o0), .val (.ref o1), .val (.int p2), .val (.int p3), .val (.int nu), .val (.int st), .val (.int en), .val (.int (0 : Int32)), .val (.int (1 : Int32)), .unset, .unset] [(.int (1 : Int32))])
    refine Fini.st (fun _ k => XS.ifNo X27.here hx rfl (hb hby d4_77) rfl (XT.i0_eq_f (by decide : ¬ (1 : Int32) = (0 : Int32))) k) ?_
    show Fini p e below s _ _ _ T27 (mkF m 80 #[.val (.ref o0), .val (.ref o1), .val (.int p2), .val (.int p3), .val (.int nu), .val (.int st), .val (.int en), .val (.int (0 : Int32)), .val (.int (1 : Int32)), .unset, .unset] [])
    refine Fini.st (fun _ k => XS.iloadN X27.here hx rfl (hb hby d4_80) rfl k) ?_
    show Fini p e below s _ _ _ T27 (mkF m 81 #[.val (.ref o0), .val (.ref o1), .val (.int p2), .val (.int p3), .val (.int nu), .val (.int st), .val (.int en), .val (.int (0 : Int32)), .val (.int (1 : Int32)), .unset, .unset] [(.int p2)])
    refine Fini.st (fun _ k => XS.goto X27.here hx rfl (pc0 := 81) (pc' := 85) rfl (hb hby d4_81) (by decide) (by decide) k) ?_
    show Fini p e below s _ _ _ T27 (mkF m 85 #[.val (.ref o0), .val (.ref o1), .val (.int p2), .val (.int p3), .val (.int nu), .val (.int st), .val (.int en), .val (.int (0 : Int32)), .val (.int (1 : Int32)), .unset, .unset] [(.int p2)])
    exact Fini.retI X27 hx hlk Bd.returns (hb hby d4_85) (by decide) (by decide) ⟨N0, (by rw [e27]; exact (Keep.refl h0 [o0])), _, _, _, _, rfl, h0', (fun q => absurd q hpn), (by rw [e27]; exact F_content), (by rw [e27]; exact F_number), (by rw [e27]; exact F_start), (by rw [e27]; exact F_end), (by rw [e27]; exact F_next)⟩
theorem pd_4 : parseMethodDescriptor "(I)B" = some ⟨[.int], some .byte⟩ := by decide +kernel
theorem pd_5 : parseMethodDescriptor "([B)V" = some ⟨[(.array .byte)], none⟩ := by decide +kernel
theorem pd_6 : parseMethodDescriptor "(Lcom/example/rights_after_actions/rightsafteractions/io/TextFile$Lines;[BII)I" = some ⟨[(.object "com/example/rights_after_actions/rightsafteractions/io/TextFile$Lines"), (.array .byte), .int, .int], some .int⟩ := by decide +kernel
theorem ef0 (m : MethodId) (x0 : Int32) (x1 : Int32) (x2 : Int32) (x3 : Int32) (x4 : Int32) : entryFrame m #[(.int x0), (.int x1), (.int x2), (.int x3), (.int x4)] maxLocals = mkF m 0 #[.val (.int x0), .val (.int x1), .val (.int x2), .val (.int x3), .val (.int x4), .unset, .unset, .unset, .unset] [] := by first | (simp [entryFrame, mkF, argsToLocals, Value.category, maxLocals]; done) | rfl
set_option maxRecDepth 65536 in
set_option maxHeartbeats 40000000 in
theorem rm0 (l : Launch) (Z : State) (a0 : Array Value) (hw : ∀ d ∈ tables_1, d.before a0 Z = true) (ws : List Jvm.Cond) (p0 : Int32) (p1 : Int32) (p2 : Int32) (p3 : Int32) (p4 : Int32) (h0 : Heap) (n0 : Nat) (Z0 : n0 ≤ h0.size) :
    CmetW l Z x code maxLocals ret ws room_1 #[(.int p0), (.int p1), (.int p2), (.int p3), (.int p4)] h0 (fun v h' L => v = some (.int 1) ∧ Fr n0 L) := by
  refine MetFree.of_bodySF (plainFor_of_name pn_2) hisR ?_
  intro p e s m args below meth c s₁ Bd hml0 hP hK
  obtain ⟨rfl, hZ, hh⟩ := hP
  have hx := Bd.exec
  have hlk : meth.locks = false := BodyLoose.notSynchronized Bd
  have hby := Bd.bytes
  have hml : c.maxLocals = 9 := hml0
  have hown : s.vm.findClass "com/example/rights_after_actions/rightsafteractions/io/LinesNextPinLaw" = some m.cls := findClass_of_methodNamed Bd.named
  have hnm := (name_of_methodNamed Bd.named Bd.method).1
  have X0 : Stand p l e room_1 (s.setVm s.vm) m #[(.int p0), (.int p1), (.int p2), (.int p3), (.int p4)] below meth c s₁ [] 0 0 := Stand.of_body Bd
  have e0 : s₁.heap = h0 := by rw [← hh, Bd.state]; rfl
  have N0 := Fr.nil n0
  have hS0 : s.Since s.vm 0 := (State.WarmedH.refl s).since 0
  have B70 : ∀ (T_70 : State) (h_70 : Heap) (locs : List Loc) (X_70 : Stand p l e room_1 (s.setVm s.vm) m #[(.int p0), (.int p1), (.int p2), (.int p3), (.int p4)] below meth c T_70 locs 1 4) (e_70 : T_70.heap = h_70) (b1 : Addr) (z70_f_A_b1 : Nat → Int32) (N_70 : Fr n0 locs) (H70_Z : n0 ≤ h_70.size) (H70_G : 0 ≤ h_70.size) (H70_E_b1 : Exa Z h_70 b1 "[B") (H70_A_b1 : AryI Z h_70 b1 .byte ((p0 &&& (2147483647 : Int32)) % (5 : Int32)) z70_f_A_b1) (ge70_b1 : n0 ≤ b1), FiniW p e below s (fun v h' L => v = some (.int 1) ∧ Fr n0 L) (Room.cells room_1) (Room.slots room_1) T_70 (mkF m 70 #[.val (.int p0), .val (.int p1), .val (.int p2), .val (.int p3), .val (.int p4), .val (.int ((p0 &&& (2147483647 : Int32)) % (5 : Int32))), .val (.ref b1), .unset, .unset] []) := by
    intro T_70 h_70 locs X_70 e_70 b1 z70_f_A_b1 N_70 H70_Z H70_G H70_E_b1 H70_A_b1 ge70_b1
    obtain ⟨T14, h14, X14, e14, E14, A14, D14, -, st14⟩ := newO X_70 hx hZ hown (hw _ (List.mem_of_getElem? (i := 2) rfl)) (hw _ (List.mem_of_getElem? (i := 3) rfl)) (hw _ (List.mem_of_getElem? (i := 4) rfl)) e_70 (g := (mkF m 70 #[.val (.int p0), .val (.int p1), .val (.int p2), .val (.int p3), .val (.int p4), .val (.int ((p0 &&& (2147483647 : Int32)) % (5 : Int32))), .val (.ref b1), .unset, .unset] [])) rfl (hb hby at_70) (by decide) (by decide)
    obtain ⟨b14, g14⟩ : ∃ z, z = h_70.size := ⟨_, rfl⟩
    rw [← g14] at A14 D14 st14
    have ne_b1_b14 : b1 ≠ b14 := Nat.ne_of_lt (Nat.lt_of_lt_of_le H70_E_b1.lt (Nat.le_of_eq g14.symm))
    have ge_b14 : n0 ≤ b14 := Nat.le_trans H70_Z (Nat.le_of_eq g14.symm)
    have Fn14_content : Fld Z h14 b14 "com/example/rights_after_actions/rightsafteractions/io/TextFile$Lines" "content" "[B" .null := D14 (Or.inr (hw _ (List.mem_of_getElem? (i := 25) rfl))) (ty := (.array .byte)) (by decide)
    have Fn14_number : Fld Z h14 b14 "com/example/rights_after_actions/rightsafteractions/io/TextFile$Lines" "number" "I" (.int (0 : Int32)) := D14 (Or.inl (hw _ (List.mem_of_getElem? (i := 36) rfl))) (ty := .int) (by decide)
    have Fn14_start : Fld Z h14 b14 "com/example/rights_after_actions/rightsafteractions/io/TextFile$Lines" "start" "I" (.int (0 : Int32)) := D14 (Or.inl (hw _ (List.mem_of_getElem? (i := 43) rfl))) (ty := .int) (by decide)
    have Fn14_end : Fld Z h14 b14 "com/example/rights_after_actions/rightsafteractions/io/TextFile$Lines" "end" "I" (.int (0 : Int32)) := D14 (Or.inl (hw _ (List.mem_of_getElem? (i := 50) rfl))) (ty := .int) (by decide)
    have Fn14_next : Fld Z h14 b14 "com/example/rights_after_actions/rightsafteractions/io/TextFile$Lines" "next" "I" (.int (0 : Int32)) := D14 (Or.inl (hw _ (List.mem_of_getElem? (i := 57) rfl))) (ty := .int) (by decide)
    refine FiniW.st st14 ?_
    show FiniW p e below s _ _ _ T14 (mkF m 73 #[.val (.int p0), .val (.int p1), .val (.int p2), .val (.int p3), .val (.int p4), .val (.int ((p0 &&& (2147483647 : Int32)) % (5 : Int32))), .val (.ref b1), .unset, .unset] [(.ref b14)])
    refine FiniW.st (fun _ k => XS.dup X14.here hx rfl (hb hby at_73) rfl rfl k) ?_
    show FiniW p e below s _ _ _ T14 (mkF m 74 #[.val (.int p0), .val (.int p1), .val (.int p2), .val (.int p3), .val (.int p4), .val (.int ((p0 &&& (2147483647 : Int32)) % (5 : Int32))), .val (.ref b1), .unset, .unset] [(.ref b14), (.ref b14)])
    refine FiniW.st (fun _ k => XS.aload X14.here hx rfl (hb hby at_74) rfl rfl k) ?_
    show FiniW p e below s _ _ _ T14 (mkF m 76 #[.val (.int p0), .val (.int p1), .val (.int p2), .val (.int p3), .val (.int p4), .val (.int ((p0 &&& (2147483647 : Int32)) % (5 : Int32))), .val (.ref b1), .unset, .unset] [(.ref b1), (.ref b14), (.ref b14)])
    have Zs_16 : n0 ≤ h14.size := (Nat.le_trans H70_Z E14.1)
    have Ex_17 : Exa Z h14 b1 "[B" := (H70_E_b1.ext E14)
    have Zs_18 : 0 ≤ h14.size := (Nat.le_trans H70_G E14.1)
    obtain ⟨v15, T15, L15, X15, hS15, hZ15, hown15, hQ15, st15⟩ := callNewW X14 hx hZ hown hS0 Zs_18 rfl (hw _ (List.mem_of_getElem? (i := 5) rfl)) (hw _ (List.mem_of_getElem? (i := 6) rfl)) (hw _ (List.mem_of_getElem? (i := 4) rfl)) (hw _ (List.mem_of_getElem? (i := 7) rfl)) (by decide) (rm1 l Z a0 hw [] b14 b1 (0 : Int32) (0 : Int32) (0 : Int32) (0 : Int32) h14 n0 Zs_16 A14 Fn14_content Fn14_number Fn14_start Fn14_end Fn14_next Ex_17 ge_b14) e14 (W := 1) (by decide) (by decide) (by decide) (by decide) (g := (mkF m 76 #[.val (.int p0), .val (.int p1), .val (.int p2), .val (.int p3), .val (.int p4), .val (.int ((p0 &&& (2147483647 : Int32)) % (5 : Int32))), .val (.ref b1), .unset, .unset] [(.ref b1), (.ref b14), (.ref b14)])) rfl (by rw [hml]; rfl) (argsL := [(.ref b1)]) (rest := [(.ref b14)]) rfl (lenOf pd_5 rfl) rfl (by show 2 * 0 + _ ≤ _; exact Nat.le_of_eq rfl) (hb hby at_76)
    obtain ⟨rfl, Nq15, K15, Fc15, Fnumber15, Fstart15, Fend15, Fnext15⟩ := hQ15
    have N15 := Fr.app N_70 Nq15
    have hZ := hZ15
    have hown := hown15
    refine FiniW.st st15 ?_
    show FiniW p e below s _ _ _ T15 (mkF m 79 #[.val (.int p0), .val (.int p1), .val (.int p2), .val (.int p3), .val (.int p4), .val (.int ((p0 &&& (2147483647 : Int32)) % (5 : Int32))), .val (.ref b1), .unset, .unset] [(.ref b14)])
    refine FiniW.st (fun _ k => XS.astore X15.here hx rfl (hb hby at_79) rfl rfl (l' := #[.val (.int p0), .val (.int p1), .val (.int p2), .val (.int p3), .val (.int p4), .val (.int ((p0 &&& (2147483647 : Int32)) % (5 : Int32))), .val (.ref b1), .val (.ref b14), .unset]) rfl k) ?_
    show FiniW p e below s _ _ _ T15 (mkF m 81 #[.val (.int p0), .val (.int p1), .val (.int p2), .val (.int p3), .val (.int p4), .val (.int ((p0 &&& (2147483647 : Int32)) % (5 : Int32))), .val (.ref b1), .val (.ref b14), .unset] [])
    refine FiniW.st (fun _ k => XS.iconst X15.here hx rfl (hb hby at_81) k) ?_
    show FiniW p e below s _ _ _ T15 (mkF m 82 #[.val (.int p0), .val (.int p1), .val (.int p2), .val (.int p3), .val (.int p4), .val (.int ((p0 &&& (2147483647 : Int32)) % (5 : Int32))), .val (.ref b1), .val (.ref b14), .unset] [(.int (0 : Int32))])
    refine FiniW.st (fun _ k => XS.istore X15.here hx rfl (hb hby at_82) rfl (l' := #[.val (.int p0), .val (.int p1), .val (.int p2), .val (.int p3), .val (.int p4), .val (.int ((p0 &&& (2147483647 : Int32)) % (5 : Int32))), .val (.ref b1), .val (.ref b14), .val (.int (0 : Int32))]) rfl k) ?_
    show FiniW p e below s _ _ _ T15 (mkF m 84 #[.val (.int p0), .val (.int p1), .val (.int p2), .val (.int p3), .val (.int p4), .val (.int ((p0 &&& (2147483647 : Int32)) % (5 : Int32))), .val (.ref b1), .val (.ref b14), .val (.int (0 : Int32))] [])
    refine FiniW.st (fun _ k => XS.aload X15.here hx rfl (hb hby at_84) rfl rfl k) ?_
    show FiniW p e below s _ _ _ T15 (mkF m 86 #[.val (.int p0), .val (.int p1), .val (.int p2), .val (.int p3), .val (.int p4), .val (.int ((p0 &&& (2147483647 : Int32)) % (5 : Int32))), .val (.ref b1), .val (.ref b14), .val (.int (0 : Int32))] [(.ref b14)])
    refine FiniW.st (fun _ k => XS.aload X15.here hx rfl (hb hby at_86) rfl rfl k) ?_
    show FiniW p e below s _ _ _ T15 (mkF m 88 #[.val (.int p0), .val (.int p1), .val (.int p2), .val (.int p3), .val (.int p4), .val (.int ((p0 &&& (2147483647 : Int32)) % (5 : Int32))), .val (.ref b1), .val (.ref b14), .val (.int (0 : Int32))] [(.ref b1), (.ref b14)])
    refine FiniW.st (fun _ k => XS.iload X15.here hx rfl (hb hby at_88) rfl k) ?_
    show FiniW p e below s _ _ _ T15 (mkF m 90 #[.val (.int p0), .val (.int p1), .val (.int p2), .val (.int p3), .val (.int p4), .val (.int ((p0 &&& (2147483647 : Int32)) % (5 : Int32))), .val (.ref b1), .val (.ref b14), .val (.int (0 : Int32))] [(.int (0 : Int32)), (.ref b1), (.ref b14)])
    refine FiniW.st (fun _ k => XS.iconst X15.here hx rfl (hb hby at_90) k) ?_
    show FiniW p e below s _ _ _ T15 (mkF m 91 #[.val (.int p0), .val (.int p1), .val (.int p2), .val (.int p3), .val (.int p4), .val (.int ((p0 &&& (2147483647 : Int32)) % (5 : Int32))), .val (.ref b1), .val (.ref b14), .val (.int (0 : Int32))] [(.int (1 : Int32)), (.int (0 : Int32)), (.ref b1), (.ref b14)])
    have Zs_20 : n0 ≤ T15.heap.size := (Nat.le_trans Zs_16 K15.1)
    have Ex_21 : Exa Z T15.heap b14 "com/example/rights_after_actions/rightsafteractions/io/TextFile$Lines" := (A14.keep K15)
    have Ar_22 : AryI Z T15.heap b1 .byte ((p0 &&& (2147483647 : Int32)) % (5 : Int32)) z70_f_A_b1 := ((H70_A_b1.ext E14).keep K15 (ninS ne_b1_b14 nin0))
    obtain ⟨v19, T19, L19, X19, hQ19, st19⟩ := callQ X15 hx hZ hown (hw _ (List.mem_of_getElem? (i := 26) rfl)) (hw _ (List.mem_of_getElem? (i := 27) rfl)) (hw _ (List.mem_of_getElem? (i := 28) rfl)) (hw _ (List.mem_of_getElem? (i := 29) rfl)) (by decide) (rm4 l Z a0 hw [] b14 b1 (0 : Int32) (1 : Int32) ((p0 &&& (2147483647 : Int32)) % (5 : Int32)) z70_f_A_b1 (0 : Int32) (0 : Int32) (0 : Int32) T15.heap n0 Zs_20 Ex_21 Fc15 Fnumber15 Fstart15 Fend15 Fnext15 Ar_22 ge_b14 ne_b1_b14 (by decide) (own_le4 p0) (fun _ => by decide)) rfl (W := 0) (by decide) (by decide) (by decide) (by decide) (g := (mkF m 91 #[.val (.int p0), .val (.int p1), .val (.int p2), .val (.int p3), .val (.int p4), .val (.int ((p0 &&& (2147483647 : Int32)) % (5 : Int32))), .val (.ref b1), .val (.ref b14), .val (.int (0 : Int32))] [(.int (1 : Int32)), (.int (0 : Int32)), (.ref b1), (.ref b14)])) rfl (by rw [hml]; rfl) (argsL := [(.ref b14), (.ref b1), (.int (0 : Int32)), (.int (1 : Int32))]) (rest := []) rfl (lenOf pd_6 rfl) rfl (by show 2 * 0 + _ ≤ _; exact Nat.le_of_eq rfl) (hb hby at_91)
    obtain ⟨Nq19, K19, q19, nu19, sa19, en19, rfl, hq19, hn19, Fc19, Fnumber19, Fstart19, Fend19, Fnext19⟩ := hQ19
    have N19 := Fr.app N15 Nq19
    refine FiniW.st st19 ?_
    show FiniW p e below s _ _ _ T19 (mkF m 94 #[.val (.int p0), .val (.int p1), .val (.int p2), .val (.int p3), .val (.int p4), .val (.int ((p0 &&& (2147483647 : Int32)) % (5 : Int32))), .val (.ref b1), .val (.ref b14), .val (.int (0 : Int32))] [(.int q19)])
    refine FiniW.st (fun _ k => XS.istore X19.here hx rfl (hb hby at_94) rfl (l' := #[.val (.int p0), .val (.int p1), .val (.int p2), .val (.int p3), .val (.int p4), .val (.int ((p0 &&& (2147483647 : Int32)) % (5 : Int32))), .val (.ref b1), .val (.ref b14), .val (.int q19)]) rfl k) ?_
    show FiniW p e below s _ _ _ T19 (mkF m 96 #[.val (.int p0), .val (.int p1), .val (.int p2), .val (.int p3), .val (.int p4), .val (.int ((p0 &&& (2147483647 : Int32)) % (5 : Int32))), .val (.ref b1), .val (.ref b14), .val (.int q19)] [])
    refine FiniW.st (fun _ k => XS.aload X19.here hx rfl (hb hby at_96) rfl rfl k) ?_
    show FiniW p e below s _ _ _ T19 (mkF m 98 #[.val (.int p0), .val (.int p1), .val (.int p2), .val (.int p3), .val (.int p4), .val (.int ((p0 &&& (2147483647 : Int32)) % (5 : Int32))), .val (.ref b1), .val (.ref b14), .val (.int q19)] [(.ref b14)])
    refine FiniW.st (fun _ k => XS.aload X19.here hx rfl (hb hby at_98) rfl rfl k) ?_
    show FiniW p e below s _ _ _ T19 (mkF m 100 #[.val (.int p0), .val (.int p1), .val (.int p2), .val (.int p3), .val (.int p4), .val (.int ((p0 &&& (2147483647 : Int32)) % (5 : Int32))), .val (.ref b1), .val (.ref b14), .val (.int q19)] [(.ref b1), (.ref b14)])
    refine FiniW.st (fun _ k => XS.iload X19.here hx rfl (hb hby at_100) rfl k) ?_
    show FiniW p e below s _ _ _ T19 (mkF m 102 #[.val (.int p0), .val (.int p1), .val (.int p2), .val (.int p3), .val (.int p4), .val (.int ((p0 &&& (2147483647 : Int32)) % (5 : Int32))), .val (.ref b1), .val (.ref b14), .val (.int q19)] [(.int q19), (.ref b1), (.ref b14)])
    refine FiniW.st (fun _ k => XS.iconst X19.here hx rfl (hb hby at_102) k) ?_
    show FiniW p e below s _ _ _ T19 (mkF m 103 #[.val (.int p0), .val (.int p1), .val (.int p2), .val (.int p3), .val (.int p4), .val (.int ((p0 &&& (2147483647 : Int32)) % (5 : Int32))), .val (.ref b1), .val (.ref b14), .val (.int q19)] [(.int (2 : Int32)), (.int q19), (.ref b1), (.ref b14)])
    have Zs_24 : n0 ≤ T19.heap.size := (Nat.le_trans Zs_20 K19.1)
    have Ex_25 : Exa Z T19.heap b14 "com/example/rights_after_actions/rightsafteractions/io/TextFile$Lines" := (Ex_21.keep K19)
    have Ar_26 : AryI Z T19.heap b1 .byte ((p0 &&& (2147483647 : Int32)) % (5 : Int32)) z70_f_A_b1 := (Ar_22.keep K19 (ninS ne_b1_b14 nin0))
    obtain ⟨v23, T23, L23, X23, hQ23, st23⟩ := callQ X19 hx hZ hown (hw _ (List.mem_of_getElem? (i := 26) rfl)) (hw _ (List.mem_of_getElem? (i := 27) rfl)) (hw _ (List.mem_of_getElem? (i := 28) rfl)) (hw _ (List.mem_of_getElem? (i := 29) rfl)) (by decide) (rm4 l Z a0 hw [] b14 b1 q19 (2 : Int32) ((p0 &&& (2147483647 : Int32)) % (5 : Int32)) z70_f_A_b1 nu19 sa19 en19 T19.heap n0 Zs_24 Ex_25 Fc19 Fnumber19 Fstart19 Fend19 Fnext19 Ar_26 ge_b14 ne_b1_b14 hq19 (own_le4 p0) (fun q => by rw [hn19 q]; decide)) rfl (W := 0) (by decide) (by decide) (by decide) (by decide) (g := (mkF m 103 #[.val (.int p0), .val (.int p1), .val (.int p2), .val (.int p3), .val (.int p4), .val (.int ((p0 &&& (2147483647 : Int32)) % (5 : Int32))), .val (.ref b1), .val (.ref b14), .val (.int q19)] [(.int (2 : Int32)), (.int q19), (.ref b1), (.ref b14)])) rfl (by rw [hml]; rfl) (argsL := [(.ref b14), (.ref b1), (.int q19), (.int (2 : Int32))]) (rest := []) rfl (lenOf pd_6 rfl) rfl (by show 2 * 0 + _ ≤ _; exact Nat.le_of_eq rfl) (hb hby at_103)
    obtain ⟨Nq23, K23, q23, nu23, sa23, en23, rfl, hq23, hn23, Fc23, Fnumber23, Fstart23, Fend23, Fnext23⟩ := hQ23
    have N23 := Fr.app N19 Nq23
    refine FiniW.st st23 ?_
    show FiniW p e below s _ _ _ T23 (mkF m 106 #[.val (.int p0), .val (.int p1), .val (.int p2), .val (.int p3), .val (.int p4), .val (.int ((p0 &&& (2147483647 : Int32)) % (5 : Int32))), .val (.ref b1), .val (.ref b14), .val (.int q19)] [(.int q23)])
    refine FiniW.st (fun _ k => XS.istore X23.here hx rfl (hb hby at_106) rfl (l' := #[.val (.int p0), .val (.int p1), .val (.int p2), .val (.int p3), .val (.int p4), .val (.int ((p0 &&& (2147483647 : Int32)) % (5 : Int32))), .val (.ref b1), .val (.ref b14), .val (.int q23)]) rfl k) ?_
    show FiniW p e below s _ _ _ T23 (mkF m 108 #[.val (.int p0), .val (.int p1), .val (.int p2), .val (.int p3), .val (.int p4), .val (.int ((p0 &&& (2147483647 : Int32)) % (5 : Int32))), .val (.ref b1), .val (.ref b14), .val (.int q23)] [])
    refine FiniW.st (fun _ k => XS.aload X23.here hx rfl (hb hby at_108) rfl rfl k) ?_
    show FiniW p e below s _ _ _ T23 (mkF m 110 #[.val (.int p0), .val (.int p1), .val (.int p2), .val (.int p3), .val (.int p4), .val (.int ((p0 &&& (2147483647 : Int32)) % (5 : Int32))), .val (.ref b1), .val (.ref b14), .val (.int q23)] [(.ref b14)])
    refine FiniW.st (fun _ k => XS.aload X23.here hx rfl (hb hby at_110) rfl rfl k) ?_
    show FiniW p e below s _ _ _ T23 (mkF m 112 #[.val (.int p0), .val (.int p1), .val (.int p2), .val (.int p3), .val (.int p4), .val (.int ((p0 &&& (2147483647 : Int32)) % (5 : Int32))), .val (.ref b1), .val (.ref b14), .val (.int q23)] [(.ref b1), (.ref b14)])
    refine FiniW.st (fun _ k => XS.iload X23.here hx rfl (hb hby at_112) rfl k) ?_
    show FiniW p e below s _ _ _ T23 (mkF m 114 #[.val (.int p0), .val (.int p1), .val (.int p2), .val (.int p3), .val (.int p4), .val (.int ((p0 &&& (2147483647 : Int32)) % (5 : Int32))), .val (.ref b1), .val (.ref b14), .val (.int q23)] [(.int q23), (.ref b1), (.ref b14)])
    refine FiniW.st (fun _ k => XS.iconst X23.here hx rfl (hb hby at_114) k) ?_
    show FiniW p e below s _ _ _ T23 (mkF m 115 #[.val (.int p0), .val (.int p1), .val (.int p2), .val (.int p3), .val (.int p4), .val (.int ((p0 &&& (2147483647 : Int32)) % (5 : Int32))), .val (.ref b1), .val (.ref b14), .val (.int q23)] [(.int (3 : Int32)), (.int q23), (.ref b1), (.ref b14)])
    have Zs_28 : n0 ≤ T23.heap.size := (Nat.le_trans Zs_24 K23.1)
    have Ex_29 : Exa Z T23.heap b14 "com/example/rights_after_actions/rightsafteractions/io/TextFile$Lines" := (Ex_25.keep K23)
    have Ar_30 : AryI Z T23.heap b1 .byte ((p0 &&& (2147483647 : Int32)) % (5 : Int32)) z70_f_A_b1 := (Ar_26.keep K23 (ninS ne_b1_b14 nin0))
    obtain ⟨v27, T27, L27, X27, hQ27, st27⟩ := callQ X23 hx hZ hown (hw _ (List.mem_of_getElem? (i := 26) rfl)) (hw _ (List.mem_of_getElem? (i := 27) rfl)) (hw _ (List.mem_of_getElem? (i := 28) rfl)) (hw _ (List.mem_of_getElem? (i := 29) rfl)) (by decide) (rm4 l Z a0 hw [] b14 b1 q23 (3 : Int32) ((p0 &&& (2147483647 : Int32)) % (5 : Int32)) z70_f_A_b1 nu23 sa23 en23 T23.heap n0 Zs_28 Ex_29 Fc23 Fnumber23 Fstart23 Fend23 Fnext23 Ar_30 ge_b14 ne_b1_b14 hq23 (own_le4 p0) (fun q => by rw [hn23 q]; decide)) rfl (W := 0) (by decide) (by decide) (by decide) (by decide) (g := (mkF m 115 #[.val (.int p0), .val (.int p1), .val (.int p2), .val (.int p3), .val (.int p4), .val (.int ((p0 &&& (2147483647 : Int32)) % (5 : Int32))), .val (.ref b1), .val (.ref b14), .val (.int q23)] [(.int (3 : Int32)), (.int q23), (.ref b1), (.ref b14)])) rfl (by rw [hml]; rfl) (argsL := [(.ref b14), (.ref b1), (.int q23), (.int (3 : Int32))]) (rest := []) rfl (lenOf pd_6 rfl) rfl (by show 2 * 0 + _ ≤ _; exact Nat.le_of_eq rfl) (hb hby at_115)
    obtain ⟨Nq27, K27, q27, nu27, sa27, en27, rfl, hq27, hn27, Fc27, Fnumber27, Fstart27, Fend27, Fnext27⟩ := hQ27
    have N27 := Fr.app N23 Nq27
    refine FiniW.st st27 ?_
    show FiniW p e below s _ _ _ T27 (mkF m 118 #[.val (.int p0), .val (.int p1), .val (.int p2), .val (.int p3), .val (.int p4), .val (.int ((p0 &&& (2147483647 : Int32)) % (5 : Int32))), .val (.ref b1), .val (.ref b14), .val (.int q23)] [(.int q27)])
    refine FiniW.st (fun _ k => XS.istore X27.here hx rfl (hb hby at_118) rfl (l' := #[.val (.int p0), .val (.int p1), .val (.int p2), .val (.int p3), .val (.int p4), .val (.int ((p0 &&& (2147483647 : Int32)) % (5 : Int32))), .val (.ref b1), .val (.ref b14), .val (.int q27)]) rfl k) ?_
    show FiniW p e below s _ _ _ T27 (mkF m 120 #[.val (.int p0), .val (.int p1), .val (.int p2), .val (.int p3), .val (.int p4), .val (.int ((p0 &&& (2147483647 : Int32)) % (5 : Int32))), .val (.ref b1), .val (.ref b14), .val (.int q27)] [])
    refine FiniW.st (fun _ k => XS.aload X27.here hx rfl (hb hby at_120) rfl rfl k) ?_
    show FiniW p e below s _ _ _ T27 (mkF m 122 #[.val (.int p0), .val (.int p1), .val (.int p2), .val (.int p3), .val (.int p4), .val (.int ((p0 &&& (2147483647 : Int32)) % (5 : Int32))), .val (.ref b1), .val (.ref b14), .val (.int q27)] [(.ref b14)])
    refine FiniW.st (fun _ k => XS.aload X27.here hx rfl (hb hby at_122) rfl rfl k) ?_
    show FiniW p e below s _ _ _ T27 (mkF m 124 #[.val (.int p0), .val (.int p1), .val (.int p2), .val (.int p3), .val (.int p4), .val (.int ((p0 &&& (2147483647 : Int32)) % (5 : Int32))), .val (.ref b1), .val (.ref b14), .val (.int q27)] [(.ref b1), (.ref b14)])
    refine FiniW.st (fun _ k => XS.iload X27.here hx rfl (hb hby at_124) rfl k) ?_
    show FiniW p e below s _ _ _ T27 (mkF m 126 #[.val (.int p0), .val (.int p1), .val (.int p2), .val (.int p3), .val (.int p4), .val (.int ((p0 &&& (2147483647 : Int32)) % (5 : Int32))), .val (.ref b1), .val (.ref b14), .val (.int q27)] [(.int q27), (.ref b1), (.ref b14)])
    refine FiniW.st (fun _ k => XS.iconst X27.here hx rfl (hb hby at_126) k) ?_
    show FiniW p e below s _ _ _ T27 (mkF m 127 #[.val (.int p0), .val (.int p1), .val (.int p2), .val (.int p3), .val (.int p4), .val (.int ((p0 &&& (2147483647 : Int32)) % (5 : Int32))), .val (.ref b1), .val (.ref b14), .val (.int q27)] [(.int (4 : Int32)), (.int q27), (.ref b1), (.ref b14)])
    have Zs_32 : n0 ≤ T27.heap.size := (Nat.le_trans Zs_28 K27.1)
    have Ex_33 : Exa Z T27.heap b14 "com/example/rights_after_actions/rightsafteractions/io/TextFile$Lines" := (Ex_29.keep K27)
    have Ar_34 : AryI Z T27.heap b1 .byte ((p0 &&& (2147483647 : Int32)) % (5 : Int32)) z70_f_A_b1 := (Ar_30.keep K27 (ninS ne_b1_b14 nin0))
    obtain ⟨v31, T31, L31, X31, hQ31, st31⟩ := callQ X27 hx hZ hown (hw _ (List.mem_of_getElem? (i := 26) rfl)) (hw _ (List.mem_of_getElem? (i := 27) rfl)) (hw _ (List.mem_of_getElem? (i := 28) rfl)) (hw _ (List.mem_of_getElem? (i := 29) rfl)) (by decide) (rm4 l Z a0 hw [] b14 b1 q27 (4 : Int32) ((p0 &&& (2147483647 : Int32)) % (5 : Int32)) z70_f_A_b1 nu27 sa27 en27 T27.heap n0 Zs_32 Ex_33 Fc27 Fnumber27 Fstart27 Fend27 Fnext27 Ar_34 ge_b14 ne_b1_b14 hq27 (own_le4 p0) (fun q => by rw [hn27 q]; decide)) rfl (W := 0) (by decide) (by decide) (by decide) (by decide) (g := (mkF m 127 #[.val (.int p0), .val (.int p1), .val (.int p2), .val (.int p3), .val (.int p4), .val (.int ((p0 &&& (2147483647 : Int32)) % (5 : Int32))), .val (.ref b1), .val (.ref b14), .val (.int q27)] [(.int (4 : Int32)), (.int q27), (.ref b1), (.ref b14)])) rfl (by rw [hml]; rfl) (argsL := [(.ref b14), (.ref b1), (.int q27), (.int (4 : Int32))]) (rest := []) rfl (lenOf pd_6 rfl) rfl (by show 2 * 0 + _ ≤ _; exact Nat.le_of_eq rfl) (hb hby at_127)
    obtain ⟨Nq31, K31, q31, nu31, sa31, en31, rfl, hq31, hn31, Fc31, Fnumber31, Fstart31, Fend31, Fnext31⟩ := hQ31
    have N31 := Fr.app N27 Nq31
    refine FiniW.st st31 ?_
    show FiniW p e below s _ _ _ T31 (mkF m 130 #[.val (.int p0), .val (.int p1), .val (.int p2), .val (.int p3), .val (.int p4), .val (.int ((p0 &&& (2147483647 : Int32)) % (5 : Int32))), .val (.ref b1), .val (.ref b14), .val (.int q27)] [(.int q31)])
    refine FiniW.st (fun _ k => XS.istore X31.here hx rfl (hb hby at_130) rfl (l' := #[.val (.int p0), .val (.int p1), .val (.int p2), .val (.int p3), .val (.int p4), .val (.int ((p0 &&& (2147483647 : Int32)) % (5 : Int32))), .val (.ref b1), .val (.ref b14), .val (.int q31)]) rfl k) ?_
    show FiniW p e below s _ _ _ T31 (mkF m 132 #[.val (.int p0), .val (.int p1), .val (.int p2), .val (.int p3), .val (.int p4), .val (.int ((p0 &&& (2147483647 : Int32)) % (5 : Int32))), .val (.ref b1), .val (.ref b14), .val (.int q31)] [])
    refine FiniW.st (fun _ k => XS.aload X31.here hx rfl (hb hby at_132) rfl rfl k) ?_
    show FiniW p e below s _ _ _ T31 (mkF m 134 #[.val (.int p0), .val (.int p1), .val (.int p2), .val (.int p3), .val (.int p4), .val (.int ((p0 &&& (2147483647 : Int32)) % (5 : Int32))), .val (.ref b1), .val (.ref b14), .val (.int q31)] [(.ref b14)])
    refine FiniW.st (fun _ k => XS.aload X31.here hx rfl (hb hby at_134) rfl rfl k) ?_
    show FiniW p e below s _ _ _ T31 (mkF m 136 #[.val (.int p0), .val (.int p1), .val (.int p2), .val (.int p3), .val (.int p4), .val (.int ((p0 &&& (2147483647 : Int32)) % (5 : Int32))), .val (.ref b1), .val (.ref b14), .val (.int q31)] [(.ref b1), (.ref b14)])
    refine FiniW.st (fun _ k => XS.iload X31.here hx rfl (hb hby at_136) rfl k) ?_
    show FiniW p e below s _ _ _ T31 (mkF m 138 #[.val (.int p0), .val (.int p1), .val (.int p2), .val (.int p3), .val (.int p4), .val (.int ((p0 &&& (2147483647 : Int32)) % (5 : Int32))), .val (.ref b1), .val (.ref b14), .val (.int q31)] [(.int q31), (.ref b1), (.ref b14)])
    refine FiniW.st (fun _ k => XS.iconst X31.here hx rfl (hb hby at_138) k) ?_
    show FiniW p e below s _ _ _ T31 (mkF m 139 #[.val (.int p0), .val (.int p1), .val (.int p2), .val (.int p3), .val (.int p4), .val (.int ((p0 &&& (2147483647 : Int32)) % (5 : Int32))), .val (.ref b1), .val (.ref b14), .val (.int q31)] [(.int (5 : Int32)), (.int q31), (.ref b1), (.ref b14)])
    have Zs_36 : n0 ≤ T31.heap.size := (Nat.le_trans Zs_32 K31.1)
    have Ex_37 : Exa Z T31.heap b14 "com/example/rights_after_actions/rightsafteractions/io/TextFile$Lines" := (Ex_33.keep K31)
    have Ar_38 : AryI Z T31.heap b1 .byte ((p0 &&& (2147483647 : Int32)) % (5 : Int32)) z70_f_A_b1 := (Ar_34.keep K31 (ninS ne_b1_b14 nin0))
    obtain ⟨v35, T35, L35, X35, hQ35, st35⟩ := callQ X31 hx hZ hown (hw _ (List.mem_of_getElem? (i := 26) rfl)) (hw _ (List.mem_of_getElem? (i := 27) rfl)) (hw _ (List.mem_of_getElem? (i := 28) rfl)) (hw _ (List.mem_of_getElem? (i := 29) rfl)) (by decide) (rm4 l Z a0 hw [] b14 b1 q31 (5 : Int32) ((p0 &&& (2147483647 : Int32)) % (5 : Int32)) z70_f_A_b1 nu31 sa31 en31 T31.heap n0 Zs_36 Ex_37 Fc31 Fnumber31 Fstart31 Fend31 Fnext31 Ar_38 ge_b14 ne_b1_b14 hq31 (own_le4 p0) (fun q => by rw [hn31 q]; decide)) rfl (W := 0) (by decide) (by decide) (by decide) (by decide) (g := (mkF m 139 #[.val (.int p0), .val (.int p1), .val (.int p2), .val (.int p3), .val (.int p4), .val (.int ((p0 &&& (2147483647 : Int32)) % (5 : Int32))), .val (.ref b1), .val (.ref b14), .val (.int q31)] [(.int (5 : Int32)), (.int q31), (.ref b1), (.ref b14)])) rfl (by rw [hml]; rfl) (argsL := [(.ref b14), (.ref b1), (.int q31), (.int (5 : Int32))]) (rest := []) rfl (lenOf pd_6 rfl) rfl (by show 2 * 0 + _ ≤ _; exact Nat.le_of_eq rfl) (hb hby at_139)
    obtain ⟨Nq35, K35, q35, nu35, sa35, en35, rfl, hq35, hn35, Fc35, Fnumber35, Fstart35, Fend35, Fnext35⟩ := hQ35
    have N35 := Fr.app N31 Nq35
    refine FiniW.st st35 ?_
    show FiniW p e below s _ _ _ T35 (mkF m 142 #[.val (.int p0), .val (.int p1), .val (.int p2), .val (.int p3), .val (.int p4), .val (.int ((p0 &&& (2147483647 : Int32)) % (5 : Int32))), .val (.ref b1), .val (.ref b14), .val (.int q31)] [(.int q35)])
    refine FiniW.st (fun _ k => XS.istore X35.here hx rfl (hb hby at_142) rfl (l' := #[.val (.int p0), .val (.int p1), .val (.int p2), .val (.int p3), .val (.int p4), .val (.int ((p0 &&& (2147483647 : Int32)) % (5 : Int32))), .val (.ref b1), .val (.ref b14), .val (.int q35)]) rfl k) ?_
    show FiniW p e below s _ _ _ T35 (mkF m 144 #[.val (.int p0), .val (.int p1), .val (.int p2), .val (.int p3), .val (.int p4), .val (.int ((p0 &&& (2147483647 : Int32)) % (5 : Int32))), .val (.ref b1), .val (.ref b14), .val (.int q35)] [])
    refine FiniW.st (fun _ k => XS.iload X35.here hx rfl (hb hby at_144) rfl k) ?_
    show FiniW p e below s _ _ _ T35 (mkF m 146 #[.val (.int p0), .val (.int p1), .val (.int p2), .val (.int p3), .val (.int p4), .val (.int ((p0 &&& (2147483647 : Int32)) % (5 : Int32))), .val (.ref b1), .val (.ref b14), .val (.int q35)] [(.int q35)])
    refine FiniW.st (fun _ k => XS.ifNo X35.here hx rfl (hb hby at_146) rfl (XT.i0_lt_f hq35) k) ?_
    show FiniW p e below s _ _ _ T35 (mkF m 149 #[.val (.int p0), .val (.int p1), .val (.int p2), .val (.int p3), .val (.int p4), .val (.int ((p0 &&& (2147483647 : Int32)) % (5 : Int32))), .val (.ref b1), .val (.ref b14), .val (.int q35)] [])
    refine FiniW.st (fun _ k => XS.iconst X35.here hx rfl (hb hby at_149) k) ?_
    show FiniW p e below s _ _ _ T35 (mkF m 150 #[.val (.int p0), .val (.int p1), .val (.int p2), .val (.int p3), .val (.int p4), .val (.int ((p0 &&& (2147483647 : Int32)) % (5 : Int32))), .val (.ref b1), .val (.ref b14), .val (.int q35)] [(.int (1 : Int32))])
    refine FiniW.st (fun _ k => XS.goto X35.here hx rfl (pc0 := 150) (pc' := 154) rfl (hb hby at_150) (by decide) (by decide) k) ?_
    show FiniW p e below s _ _ _ T35 (mkF m 154 #[.val (.int p0), .val (.int p1), .val (.int p2), .val (.int p3), .val (.int p4), .val (.int ((p0 &&& (2147483647 : Int32)) % (5 : Int32))), .val (.ref b1), .val (.ref b14), .val (.int q35)] [(.int (1 : Int32))])
    have Zs_39 : T15.heap.size ≤ T35.heap.size := (Nat.le_trans (Nat.le_trans (Nat.le_trans (Nat.le_trans (Nat.le_trans (Nat.le_refl T15.heap.size) K19.1) K23.1) K27.1) K31.1) K35.1)
    exact FiniW.retN X35 hx hlk (t := .boolean) Bd.returns (by simp) (hb hby at_154) nb1 hS15 Zs_39 (by decide) (by decide) ⟨rfl, N35⟩
  have B55 : ∀ (T_55 : State) (h_55 : Heap) (locs : List Loc) (X_55 : Stand p l e room_1 (s.setVm s.vm) m #[(.int p0), (.int p1), (.int p2), (.int p3), (.int p4)] below meth c T_55 locs 1 4) (e_55 : T_55.heap = h_55) (b1 : Addr) (z55_f_A_b1 : Nat → Int32) (N_55 : Fr n0 locs) (H55_Z : n0 ≤ h_55.size) (H55_G : 0 ≤ h_55.size) (H55_E_b1 : Exa Z h_55 b1 "[B") (H55_A_b1 : AryI Z h_55 b1 .byte ((p0 &&& (2147483647 : Int32)) % (5 : Int32)) z55_f_A_b1) (ge55_b1 : n0 ≤ b1), FiniW p e below s (fun v h' L => v = some (.int 1) ∧ Fr n0 L) (Room.cells room_1) (Room.slots room_1) T_55 (mkF m 55 #[.val (.int p0), .val (.int p1), .val (.int p2), .val (.int p3), .val (.int p4), .val (.int ((p0 &&& (2147483647 : Int32)) % (5 : Int32))), .val (.ref b1), .unset, .unset] []) := by
    intro T_55 h_55 locs X_55 e_55 b1 z55_f_A_b1 N_55 H55_Z H55_G H55_E_b1 H55_A_b1 ge55_b1
    refine FiniW.st (fun _ k => XS.iload X_55.here hx rfl (hb hby at_55) rfl k) ?_
    show FiniW p e below s _ _ _ T_55 (mkF m 57 #[.val (.int p0), .val (.int p1), .val (.int p2), .val (.int p3), .val (.int p4), .val (.int ((p0 &&& (2147483647 : Int32)) % (5 : Int32))), .val (.ref b1), .unset, .unset] [(.int ((p0 &&& (2147483647 : Int32)) % (5 : Int32)))])
    refine FiniW.st (fun _ k => XS.iconst X_55.here hx rfl (hb hby at_57) k) ?_
    show FiniW p e below s _ _ _ T_55 (mkF m 58 #[.val (.int p0), .val (.int p1), .val (.int p2), .val (.int p3), .val (.int p4), .val (.int ((p0 &&& (2147483647 : Int32)) % (5 : Int32))), .val (.ref b1), .unset, .unset] [(.int (3 : Int32)), (.int ((p0 &&& (2147483647 : Int32)) % (5 : Int32)))])
    by_cases c11 : (3 : Int32) < ((p0 &&& (2147483647 : Int32)) % (5 : Int32))
    · skip
      refine FiniW.st (fun _ k => XS.icmpNo X_55.here hx rfl (hb hby at_58) rfl (XT.ii_le_f c11) k) ?_
      show FiniW p e below s _ _ _ T_55 (mkF m 61 #[.val (.int p0), .val (.int p1), .val (.int p2), .val (.int p3), .val (.int p4), .val (.int ((p0 &&& (2147483647 : Int32)) % (5 : Int32))), .val (.ref b1), .unset, .unset] [])
      refine FiniW.st (fun _ k => XS.aload X_55.here hx rfl (hb hby at_61) rfl rfl k) ?_
      show FiniW p e below s _ _ _ T_55 (mkF m 63 #[.val (.int p0), .val (.int p1), .val (.int p2), .val (.int p3), .val (.int p4), .val (.int ((p0 &&& (2147483647 : Int32)) % (5 : Int32))), .val (.ref b1), .unset, .unset] [(.ref b1)])
      refine FiniW.st (fun _ k => XS.iconst X_55.here hx rfl (hb hby at_63) k) ?_
      show FiniW p e below s _ _ _ T_55 (mkF m 64 #[.val (.int p0), .val (.int p1), .val (.int p2), .val (.int p3), .val (.int p4), .val (.int ((p0 &&& (2147483647 : Int32)) % (5 : Int32))), .val (.ref b1), .unset, .unset] [(.int (3 : Int32)), (.ref b1)])
      refine FiniW.st (fun _ k => XS.iload X_55.here hx rfl (hb hby at_64) rfl k) ?_
      show FiniW p e below s _ _ _ T_55 (mkF m 66 #[.val (.int p0), .val (.int p1), .val (.int p2), .val (.int p3), .val (.int p4), .val (.int ((p0 &&& (2147483647 : Int32)) % (5 : Int32))), .val (.ref b1), .unset, .unset] [(.int p4), (.int (3 : Int32)), (.ref b1)])
      obtain ⟨T12, X12, e12, st12⟩ := pureS X_55 hx hZ hown (hw _ (List.mem_of_getElem? (i := 58) rfl)) (hw _ (List.mem_of_getElem? (i := 59) rfl)) (hw _ (List.mem_of_getElem? (i := 28) rfl)) (hw _ (List.mem_of_getElem? (i := 60) rfl)) (by decide) (rm9 l Z a0 hw [] p4 h_55) e_55 (W := 2) (by decide) (by decide) (by decide) (by decide) (g := (mkF m 66 #[.val (.int p0), .val (.int p1), .val (.int p2), .val (.int p3), .val (.int p4), .val (.int ((p0 &&& (2147483647 : Int32)) % (5 : Int32))), .val (.ref b1), .unset, .unset] [(.int p4), (.int (3 : Int32)), (.ref b1)])) rfl (by rw [hml]; rfl) (argsL := [(.int p4)]) (rest := [(.int (3 : Int32)), (.ref b1)]) rfl (lenOf pd_4 rfl) rfl (by show 2 * 0 + _ ≤ _; exact Nat.le_of_eq rfl) (hb hby at_66)
      refine FiniW.st st12 ?_
      show FiniW p e below s _ _ _ T12 (mkF m 69 #[.val (.int p0), .val (.int p1), .val (.int p2), .val (.int p3), .val (.int p4), .val (.int ((p0 &&& (2147483647 : Int32)) % (5 : Int32))), .val (.ref b1), .unset, .unset] [(.int (f9 p4)), (.int (3 : Int32)), (.ref b1)])
      obtain ⟨T13, h13, X13, e13, W13, Ar13, st13⟩ := H55_A_b1.stB X12 hx hZ e12 ⟨by decide, c11⟩ (g := (mkF m 69 #[.val (.int p0), .val (.int p1), .val (.int p2), .val (.int p3), .val (.int p4), .val (.int ((p0 &&& (2147483647 : Int32)) % (5 : Int32))), .val (.ref b1), .unset, .unset] [(.int (f9 p4)), (.int (3 : Int32)), (.ref b1)])) rfl rfl (hb hby at_69)
      refine FiniW.st st13 ?_
      have N13 := Fr.snoc X13 N_55 ge55_b1
      show FiniW p e below s _ _ _ T13 (mkF m 70 #[.val (.int p0), .val (.int p1), .val (.int p2), .val (.int p3), .val (.int p4), .val (.int ((p0 &&& (2147483647 : Int32)) % (5 : Int32))), .val (.ref b1), .unset, .unset] [])
      have Zs_40 : n0 ≤ h13.size := (Nat.le_trans H55_Z (Nat.le_of_eq W13.size.symm))
      have Zs_41 : 0 ≤ h13.size := (Nat.le_trans H55_G (Nat.le_of_eq W13.size.symm))
      have Ex_42 : Exa Z h13 b1 "[B" := (H55_E_b1.wr W13)
      exact B70 T13 _ _ (X13.more (cells' := 1) (slots' := 4) (by decide) (by decide)) e13 b1 (upd z55_f_A_b1 3 (nar .byte (f9 p4))) N13 Zs_40 Zs_41 Ex_42 Ar13 ge55_b1
    · skip
      refine FiniW.st (fun _ k => XS.icmpYes X_55.here hx rfl (pc0 := 58) (pc' := 70) rfl (hb hby at_58) rfl (XT.ii_le_t c11) (by decide) (by decide) k) ?_
      show FiniW p e below s _ _ _ T_55 (mkF m 70 #[.val (.int p0), .val (.int p1), .val (.int p2), .val (.int p3), .val (.int p4), .val (.int ((p0 &&& (2147483647 : Int32)) % (5 : Int32))), .val (.ref b1), .unset, .unset] [])
      exact B70 T_55 _ _ (X_55.more (cells' := 1) (slots' := 4) (by decide) (by decide)) e_55 b1 z55_f_A_b1 N_55 H55_Z H55_G H55_E_b1 H55_A_b1 ge55_b1
  have B41 : ∀ (T_41 : State) (h_41 : Heap) (locs : List Loc) (X_41 : Stand p l e room_1 (s.setVm s.vm) m #[(.int p0), (.int p1), (.int p2), (.int p3), (.int p4)] below meth c T_41 locs 1 4) (e_41 : T_41.heap = h_41) (b1 : Addr) (z41_f_A_b1 : Nat → Int32) (N_41 : Fr n0 locs) (H41_Z : n0 ≤ h_41.size) (H41_G : 0 ≤ h_41.size) (H41_E_b1 : Exa Z h_41 b1 "[B") (H41_A_b1 : AryI Z h_41 b1 .byte ((p0 &&& (2147483647 : Int32)) % (5 : Int32)) z41_f_A_b1) (ge41_b1 : n0 ≤ b1), FiniW p e below s (fun v h' L => v = some (.int 1) ∧ Fr n0 L) (Room.cells room_1) (Room.slots room_1) T_41 (mkF m 41 #[.val (.int p0), .val (.int p1), .val (.int p2), .val (.int p3), .val (.int p4), .val (.int ((p0 &&& (2147483647 : Int32)) % (5 : Int32))), .val (.ref b1), .unset, .unset] []) := by
    intro T_41 h_41 locs X_41 e_41 b1 z41_f_A_b1 N_41 H41_Z H41_G H41_E_b1 H41_A_b1 ge41_b1
    refine FiniW.st (fun _ k => XS.iload X_41.here hx rfl (hb hby at_41) rfl k) ?_
    show FiniW p e below s _ _ _ T_41 (mkF m 43 #[.val (.int p0), .val (.int p1), .val (.int p2), .val (.int p3), .val (.int p4), .val (.int ((p0 &&& (2147483647 : Int32)) % (5 : Int32))), .val (.ref b1), .unset, .unset] [(.int ((p0 &&& (2147483647 : Int32)) % (5 : Int32)))])
    refine FiniW.st (fun _ k => XS.iconst X_41.here hx rfl (hb hby at_43) k) ?_
    show FiniW p e below s _ _ _ T_41 (mkF m 44 #[.val (.int p0), .val (.int p1), .val (.int p2), .val (.int p3), .val (.int p4), .val (.int ((p0 &&& (2147483647 : Int32)) % (5 : Int32))), .val (.ref b1), .unset, .unset] [(.int (2 : Int32)), (.int ((p0 &&& (2147483647 : Int32)) % (5 : Int32)))])
    by_cases c8 : (2 : Int32) < ((p0 &&& (2147483647 : Int32)) % (5 : Int32))
    · skip
      refine FiniW.st (fun _ k => XS.icmpNo X_41.here hx rfl (hb hby at_44) rfl (XT.ii_le_f c8) k) ?_
      show FiniW p e below s _ _ _ T_41 (mkF m 47 #[.val (.int p0), .val (.int p1), .val (.int p2), .val (.int p3), .val (.int p4), .val (.int ((p0 &&& (2147483647 : Int32)) % (5 : Int32))), .val (.ref b1), .unset, .unset] [])
      refine FiniW.st (fun _ k => XS.aload X_41.here hx rfl (hb hby at_47) rfl rfl k) ?_
      show FiniW p e below s _ _ _ T_41 (mkF m 49 #[.val (.int p0), .val (.int p1), .val (.int p2), .val (.int p3), .val (.int p4), .val (.int ((p0 &&& (2147483647 : Int32)) % (5 : Int32))), .val (.ref b1), .unset, .unset] [(.ref b1)])
      refine FiniW.st (fun _ k => XS.iconst X_41.here hx rfl (hb hby at_49) k) ?_
      show FiniW p e below s _ _ _ T_41 (mkF m 50 #[.val (.int p0), .val (.int p1), .val (.int p2), .val (.int p3), .val (.int p4), .val (.int ((p0 &&& (2147483647 : Int32)) % (5 : Int32))), .val (.ref b1), .unset, .unset] [(.int (2 : Int32)), (.ref b1)])
      refine FiniW.st (fun _ k => XS.iloadN X_41.here hx rfl (hb hby at_50) rfl k) ?_
      show FiniW p e below s _ _ _ T_41 (mkF m 51 #[.val (.int p0), .val (.int p1), .val (.int p2), .val (.int p3), .val (.int p4), .val (.int ((p0 &&& (2147483647 : Int32)) % (5 : Int32))), .val (.ref b1), .unset, .unset] [(.int p3), (.int (2 : Int32)), (.ref b1)])
      obtain ⟨T9, X9, e9, st9⟩ := pureS X_41 hx hZ hown (hw _ (List.mem_of_getElem? (i := 58) rfl)) (hw _ (List.mem_of_getElem? (i := 59) rfl)) (hw _ (List.mem_of_getElem? (i := 28) rfl)) (hw _ (List.mem_of_getElem? (i := 60) rfl)) (by decide) (rm9 l Z a0 hw [] p3 h_41) e_41 (W := 2) (by decide) (by decide) (by decide) (by decide) (g := (mkF m 51 #[.val (.int p0), .val (.int p1), .val (.int p2), .val (.int p3), .val (.int p4), .val (.int ((p0 &&& (2147483647 : Int32)) % (5 : Int32))), .val (.ref b1), .unset, .unset] [(.int p3), (.int (2 : Int32)), (.ref b1)])) rfl (by rw [hml]; rfl) (argsL := [(.int p3)]) (rest := [(.int (2 : Int32)), (.ref b1)]) rfl (lenOf pd_4 rfl) rfl (by show 2 * 0 + _ ≤ _; exact Nat.le_of_eq rfl) (hb hby at_51)
      refine FiniW.st st9 ?_
      show FiniW p e below s _ _ _ T9 (mkF m 54 #[.val (.int p0), .val (.int p1), .val (.int p2), .val (.int p3), .val (.int p4), .val (.int ((p0 &&& (2147483647 : Int32)) % (5 : Int32))), .val (.ref b1), .unset, .unset] [(.int (f9 p3)), (.int (2 : Int32)), (.ref b1)])
      obtain ⟨T10, h10, X10, e10, W10, Ar10, st10⟩ := H41_A_b1.stB X9 hx hZ e9 ⟨by decide, c8⟩ (g := (mkF m 54 #[.val (.int p0), .val (.int p1), .val (.int p2), .val (.int p3), .val (.int p4), .val (.int ((p0 &&& (2147483647 : Int32)) % (5 : Int32))), .val (.ref b1), .unset, .unset] [(.int (f9 p3)), (.int (2 : Int32)), (.ref b1)])) rfl rfl (hb hby at_54)
      refine FiniW.st st10 ?_
      have N10 := Fr.snoc X10 N_41 ge41_b1
      show FiniW p e below s _ _ _ T10 (mkF m 55 #[.val (.int p0), .val (.int p1), .val (.int p2), .val (.int p3), .val (.int p4), .val (.int ((p0 &&& (2147483647 : Int32)) % (5 : Int32))), .val (.ref b1), .unset, .unset] [])
      have Zs_43 : n0 ≤ h10.size := (Nat.le_trans H41_Z (Nat.le_of_eq W10.size.symm))
      have Zs_44 : 0 ≤ h10.size := (Nat.le_trans H41_G (Nat.le_of_eq W10.size.symm))
      have Ex_45 : Exa Z h10 b1 "[B" := (H41_E_b1.wr W10)
      exact B55 T10 _ _ (X10.more (cells' := 1) (slots' := 4) (by decide) (by decide)) e10 b1 (upd z41_f_A_b1 2 (nar .byte (f9 p3))) N10 Zs_43 Zs_44 Ex_45 Ar10 ge41_b1
    · skip
      refine FiniW.st (fun _ k => XS.icmpYes X_41.here hx rfl (pc0 := 44) (pc' := 55) rfl (hb hby at_44) rfl (XT.ii_le_t c8) (by decide) (by decide) k) ?_
      show FiniW p e below s _ _ _ T_41 (mkF m 55 #[.val (.int p0), .val (.int p1), .val (.int p2), .val (.int p3), .val (.int p4), .val (.int ((p0 &&& (2147483647 : Int32)) % (5 : Int32))), .val (.ref b1), .unset, .unset] [])
      exact B55 T_41 _ _ (X_41.more (cells' := 1) (slots' := 4) (by decide) (by decide)) e_41 b1 z41_f_A_b1 N_41 H41_Z H41_G H41_E_b1 H41_A_b1 ge41_b1
  have B27 : ∀ (T_27 : State) (h_27 : Heap) (locs : List Loc) (X_27 : Stand p l e room_1 (s.setVm s.vm) m #[(.int p0), (.int p1), (.int p2), (.int p3), (.int p4)] below meth c T_27 locs 1 4) (e_27 : T_27.heap = h_27) (b1 : Addr) (z27_f_A_b1 : Nat → Int32) (N_27 : Fr n0 locs) (H27_Z : n0 ≤ h_27.size) (H27_G : 0 ≤ h_27.size) (H27_E_b1 : Exa Z h_27 b1 "[B") (H27_A_b1 : AryI Z h_27 b1 .byte ((p0 &&& (2147483647 : Int32)) % (5 : Int32)) z27_f_A_b1) (ge27_b1 : n0 ≤ b1), FiniW p e below s (fun v h' L => v = some (.int 1) ∧ Fr n0 L) (Room.cells room_1) (Room.slots room_1) T_27 (mkF m 27 #[.val (.int p0), .val (.int p1), .val (.int p2), .val (.int p3), .val (.int p4), .val (.int ((p0 &&& (2147483647 : Int32)) % (5 : Int32))), .val (.ref b1), .unset, .unset] []) := by
    intro T_27 h_27 locs X_27 e_27 b1 z27_f_A_b1 N_27 H27_Z H27_G H27_E_b1 H27_A_b1 ge27_b1
    refine FiniW.st (fun _ k => XS.iload X_27.here hx rfl (hb hby at_27) rfl k) ?_
    show FiniW p e below s _ _ _ T_27 (mkF m 29 #[.val (.int p0), .val (.int p1), .val (.int p2), .val (.int p3), .val (.int p4), .val (.int ((p0 &&& (2147483647 : Int32)) % (5 : Int32))), .val (.ref b1), .unset, .unset] [(.int ((p0 &&& (2147483647 : Int32)) % (5 : Int32)))])
    refine FiniW.st (fun _ k => XS.iconst X_27.here hx rfl (hb hby at_29) k) ?_
    show FiniW p e below s _ _ _ T_27 (mkF m 30 #[.val (.int p0), .val (.int p1), .val (.int p2), .val (.int p3), .val (.int p4), .val (.int ((p0 &&& (2147483647 : Int32)) % (5 : Int32))), .val (.ref b1), .unset, .unset] [(.int (1 : Int32)), (.int ((p0 &&& (2147483647 : Int32)) % (5 : Int32)))])
    by_cases c5 : (1 : Int32) < ((p0 &&& (2147483647 : Int32)) % (5 : Int32))
    · skip
      refine FiniW.st (fun _ k => XS.icmpNo X_27.here hx rfl (hb hby at_30) rfl (XT.ii_le_f c5) k) ?_
      show FiniW p e below s _ _ _ T_27 (mkF m 33 #[.val (.int p0), .val (.int p1), .val (.int p2), .val (.int p3), .val (.int p4), .val (.int ((p0 &&& (2147483647 : Int32)) % (5 : Int32))), .val (.ref b1), .unset, .unset] [])
      refine FiniW.st (fun _ k => XS.aload X_27.here hx rfl (hb hby at_33) rfl rfl k) ?_
      show FiniW p e below s _ _ _ T_27 (mkF m 35 #[.val (.int p0), .val (.int p1), .val (.int p2), .val (.int p3), .val (.int p4), .val (.int ((p0 &&& (2147483647 : Int32)) % (5 : Int32))), .val (.ref b1), .unset, .unset] [(.ref b1)])
      refine FiniW.st (fun _ k => XS.iconst X_27.here hx rfl (hb hby at_35) k) ?_
      show FiniW p e below s _ _ _ T_27 (mkF m 36 #[.val (.int p0), .val (.int p1), .val (.int p2), .val (.int p3), .val (.int p4), .val (.int ((p0 &&& (2147483647 : Int32)) % (5 : Int32))), .val (.ref b1), .unset, .unset] [(.int (1 : Int32)), (.ref b1)])
      refine FiniW.st (fun _ k => XS.iloadN X_27.here hx rfl (hb hby at_36) rfl k) ?_
      show FiniW p e below s _ _ _ T_27 (mkF m 37 #[.val (.int p0), .val (.int p1), .val (.int p2), .val (.int p3), .val (.int p4), .val (.int ((p0 &&& (2147483647 : Int32)) % (5 : Int32))), .val (.ref b1), .unset, .unset] [(.int p2), (.int (1 : Int32)), (.ref b1)])
      obtain ⟨T6, X6, e6, st6⟩ := pureS X_27 hx hZ hown (hw _ (List.mem_of_getElem? (i := 58) rfl)) (hw _ (List.mem_of_getElem? (i := 59) rfl)) (hw _ (List.mem_of_getElem? (i := 28) rfl)) (hw _ (List.mem_of_getElem? (i := 60) rfl)) (by decide) (rm9 l Z a0 hw [] p2 h_27) e_27 (W := 2) (by decide) (by decide) (by decide) (by decide) (g := (mkF m 37 #[.val (.int p0), .val (.int p1), .val (.int p2), .val (.int p3), .val (.int p4), .val (.int ((p0 &&& (2147483647 : Int32)) % (5 : Int32))), .val (.ref b1), .unset, .unset] [(.int p2), (.int (1 : Int32)), (.ref b1)])) rfl (by rw [hml]; rfl) (argsL := [(.int p2)]) (rest := [(.int (1 : Int32)), (.ref b1)]) rfl (lenOf pd_4 rfl) rfl (by show 2 * 0 + _ ≤ _; exact Nat.le_of_eq rfl) (hb hby at_37)
      refine FiniW.st st6 ?_
      show FiniW p e below s _ _ _ T6 (mkF m 40 #[.val (.int p0), .val (.int p1), .val (.int p2), .val (.int p3), .val (.int p4), .val (.int ((p0 &&& (2147483647 : Int32)) % (5 : Int32))), .val (.ref b1), .unset, .unset] [(.int (f9 p2)), (.int (1 : Int32)), (.ref b1)])
      obtain ⟨T7, h7, X7, e7, W7, Ar7, st7⟩ := H27_A_b1.stB X6 hx hZ e6 ⟨by decide, c5⟩ (g := (mkF m 40 #[.val (.int p0), .val (.int p1), .val (.int p2), .val (.int p3), .val (.int p4), .val (.int ((p0 &&& (2147483647 : Int32)) % (5 : Int32))), .val (.ref b1), .unset, .unset] [(.int (f9 p2)), (.int (1 : Int32)), (.ref b1)])) rfl rfl (hb hby at_40)
      refine FiniW.st st7 ?_
      have N7 := Fr.snoc X7 N_27 ge27_b1
      show FiniW p e below s _ _ _ T7 (mkF m 41 #[.val (.int p0), .val (.int p1), .val (.int p2), .val (.int p3), .val (.int p4), .val (.int ((p0 &&& (2147483647 : Int32)) % (5 : Int32))), .val (.ref b1), .unset, .unset] [])
      have Zs_46 : n0 ≤ h7.size := (Nat.le_trans H27_Z (Nat.le_of_eq W7.size.symm))
      have Zs_47 : 0 ≤ h7.size := (Nat.le_trans H27_G (Nat.le_of_eq W7.size.symm))
      have Ex_48 : Exa Z h7 b1 "[B" := (H27_E_b1.wr W7)
      exact B41 T7 _ _ (X7.more (cells' := 1) (slots' := 4) (by decide) (by decide)) e7 b1 (upd z27_f_A_b1 1 (nar .byte (f9 p2))) N7 Zs_46 Zs_47 Ex_48 Ar7 ge27_b1
    · skip
      refine FiniW.st (fun _ k => XS.icmpYes X_27.here hx rfl (pc0 := 30) (pc' := 41) rfl (hb hby at_30) rfl (XT.ii_le_t c5) (by decide) (by decide) k) ?_
      show FiniW p e below s _ _ _ T_27 (mkF m 41 #[.val (.int p0), .val (.int p1), .val (.int p2), .val (.int p3), .val (.int p4), .val (.int ((p0 &&& (2147483647 : Int32)) % (5 : Int32))), .val (.ref b1), .unset, .unset] [])
      exact B41 T_27 _ _ (X_27.more (cells' := 1) (slots' := 4) (by decide) (by decide)) e_27 b1 z27_f_A_b1 N_27 H27_Z H27_G H27_E_b1 H27_A_b1 ge27_b1
  show FiniW p e below s (fun v h' L => v = some (.int 1) ∧ Fr n0 L) _ _ s₁ (entryFrame m #[(.int p0), (.int p1), (.int p2), (.int p3), (.int p4)] maxLocals)
  refine FiniW.cast (ef0 m p0 p1 p2 p3 p4) ?_
  show FiniW p e below s _ _ _ s₁ (mkF m 0 #[.val (.int p0), .val (.int p1), .val (.int p2), .val (.int p3), .val (.int p4), .unset, .unset, .unset, .unset] [])
  refine FiniW.st (fun _ k => XS.iloadN X0.here hx rfl (hb hby at_0) rfl k) ?_
  show FiniW p e below s _ _ _ s₁ (mkF m 1 #[.val (.int p0), .val (.int p1), .val (.int p2), .val (.int p3), .val (.int p4), .unset, .unset, .unset, .unset] [(.int p0)])
  refine FiniW.st (fun _ k => X0.ldcI hx hown (mvT hZ (hw _ (List.mem_of_getElem? (i := 0) rfl))) rfl (hb hby at_1) k) ?_
  show FiniW p e below s _ _ _ s₁ (mkF m 3 #[.val (.int p0), .val (.int p1), .val (.int p2), .val (.int p3), .val (.int p4), .unset, .unset, .unset, .unset] [(.int (2147483647 : Int32)), (.int p0)])
  refine FiniW.st (fun _ k => XS.iand X0.here hx rfl (hb hby at_3) rfl k) ?_
  show FiniW p e below s _ _ _ s₁ (mkF m 4 #[.val (.int p0), .val (.int p1), .val (.int p2), .val (.int p3), .val (.int p4), .unset, .unset, .unset, .unset] [(.int (p0 &&& (2147483647 : Int32)))])
  refine FiniW.st (fun _ k => XS.iconst X0.here hx rfl (hb hby at_4) k) ?_
  show FiniW p e below s _ _ _ s₁ (mkF m 5 #[.val (.int p0), .val (.int p1), .val (.int p2), .val (.int p3), .val (.int p4), .unset, .unset, .unset, .unset] [(.int (5 : Int32)), (.int (p0 &&& (2147483647 : Int32)))])
  refine FiniW.st (fun _ k => iremM X0 hx rfl (hb hby at_5) rfl (by decide) k) ?_
  show FiniW p e below s _ _ _ s₁ (mkF m 6 #[.val (.int p0), .val (.int p1), .val (.int p2), .val (.int p3), .val (.int p4), .unset, .unset, .unset, .unset] [(.int ((p0 &&& (2147483647 : Int32)) % (5 : Int32)))])
  refine FiniW.st (fun _ k => XS.istore X0.here hx rfl (hb hby at_6) rfl (l' := #[.val (.int p0), .val (.int p1), .val (.int p2), .val (.int p3), .val (.int p4), .val (.int ((p0 &&& (2147483647 : Int32)) % (5 : Int32))), .unset, .unset, .unset]) rfl k) ?_
  show FiniW p e below s _ _ _ s₁ (mkF m 8 #[.val (.int p0), .val (.int p1), .val (.int p2), .val (.int p3), .val (.int p4), .val (.int ((p0 &&& (2147483647 : Int32)) % (5 : Int32))), .unset, .unset, .unset] [])
  refine FiniW.st (fun _ k => XS.iload X0.here hx rfl (hb hby at_8) rfl k) ?_
  show FiniW p e below s _ _ _ s₁ (mkF m 10 #[.val (.int p0), .val (.int p1), .val (.int p2), .val (.int p3), .val (.int p4), .val (.int ((p0 &&& (2147483647 : Int32)) % (5 : Int32))), .unset, .unset, .unset] [(.int ((p0 &&& (2147483647 : Int32)) % (5 : Int32)))])
  obtain ⟨T1, h1, k1, X1, e1, E1, A1, Ea1, st1⟩ := newPE X0 hx hZ (hw _ (List.mem_of_getElem? (i := 1) rfl)) e0 (g := (mkF m 10 #[.val (.int p0), .val (.int p1), .val (.int p2), .val (.int p3), .val (.int p4), .val (.int ((p0 &&& (2147483647 : Int32)) % (5 : Int32))), .unset, .unset, .unset] [(.int ((p0 &&& (2147483647 : Int32)) % (5 : Int32)))])) rfl (hb hby at_10) rfl (own_ge0 p0) (cap := 4) (own_cap4 p0) (by decide) (by decide) (by decide) (ad := "[B") (by decide)
  obtain ⟨b1, g1⟩ : ∃ z, z = h0.size := ⟨_, rfl⟩
  rw [← g1] at A1 st1 Ea1
  have ge_b1 : n0 ≤ b1 := Nat.le_trans Z0 (Nat.le_of_eq g1.symm)
  have Ar1 : AryI Z h1 b1 .byte ((p0 &&& (2147483647 : Int32)) % (5 : Int32)) (fun _ => 0) := AryI.new A1 (own_ge0 p0) rfl
  refine FiniW.st st1 ?_
  show FiniW p e below s _ _ _ T1 (mkF m 12 #[.val (.int p0), .val (.int p1), .val (.int p2), .val (.int p3), .val (.int p4), .val (.int ((p0 &&& (2147483647 : Int32)) % (5 : Int32))), .unset, .unset, .unset] [(.ref b1)])
  refine FiniW.st (fun _ k => XS.astore X1.here hx rfl (hb hby at_12) rfl rfl (l' := #[.val (.int p0), .val (.int p1), .val (.int p2), .val (.int p3), .val (.int p4), .val (.int ((p0 &&& (2147483647 : Int32)) % (5 : Int32))), .val (.ref b1), .unset, .unset]) rfl k) ?_
  show FiniW p e below s _ _ _ T1 (mkF m 14 #[.val (.int p0), .val (.int p1), .val (.int p2), .val (.int p3), .val (.int p4), .val (.int ((p0 &&& (2147483647 : Int32)) % (5 : Int32))), .val (.ref b1), .unset, .unset] [])
  refine FiniW.st (fun _ k => XS.iload X1.here hx rfl (hb hby at_14) rfl k) ?_
  show FiniW p e below s _ _ _ T1 (mkF m 16 #[.val (.int p0), .val (.int p1), .val (.int p2), .val (.int p3), .val (.int p4), .val (.int ((p0 &&& (2147483647 : Int32)) % (5 : Int32))), .val (.ref b1), .unset, .unset] [(.int ((p0 &&& (2147483647 : Int32)) % (5 : Int32)))])
  by_cases c2 : (0 : Int32) < ((p0 &&& (2147483647 : Int32)) % (5 : Int32))
  · skip
    refine FiniW.st (fun _ k => XS.ifNo X1.here hx rfl (hb hby at_16) rfl (XT.i0_le_f c2) k) ?_
    show FiniW p e below s _ _ _ T1 (mkF m 19 #[.val (.int p0), .val (.int p1), .val (.int p2), .val (.int p3), .val (.int p4), .val (.int ((p0 &&& (2147483647 : Int32)) % (5 : Int32))), .val (.ref b1), .unset, .unset] [])
    refine FiniW.st (fun _ k => XS.aload X1.here hx rfl (hb hby at_19) rfl rfl k) ?_
    show FiniW p e below s _ _ _ T1 (mkF m 21 #[.val (.int p0), .val (.int p1), .val (.int p2), .val (.int p3), .val (.int p4), .val (.int ((p0 &&& (2147483647 : Int32)) % (5 : Int32))), .val (.ref b1), .unset, .unset] [(.ref b1)])
    refine FiniW.st (fun _ k => XS.iconst X1.here hx rfl (hb hby at_21) k) ?_
    show FiniW p e below s _ _ _ T1 (mkF m 22 #[.val (.int p0), .val (.int p1), .val (.int p2), .val (.int p3), .val (.int p4), .val (.int ((p0 &&& (2147483647 : Int32)) % (5 : Int32))), .val (.ref b1), .unset, .unset] [(.int (0 : Int32)), (.ref b1)])
    refine FiniW.st (fun _ k => XS.iloadN X1.here hx rfl (hb hby at_22) rfl k) ?_
    show FiniW p e below s _ _ _ T1 (mkF m 23 #[.val (.int p0), .val (.int p1), .val (.int p2), .val (.int p3), .val (.int p4), .val (.int ((p0 &&& (2147483647 : Int32)) % (5 : Int32))), .val (.ref b1), .unset, .unset] [(.int p1), (.int (0 : Int32)), (.ref b1)])
    obtain ⟨T3, X3, e3, st3⟩ := pureS X1 hx hZ hown (hw _ (List.mem_of_getElem? (i := 58) rfl)) (hw _ (List.mem_of_getElem? (i := 59) rfl)) (hw _ (List.mem_of_getElem? (i := 28) rfl)) (hw _ (List.mem_of_getElem? (i := 60) rfl)) (by decide) (rm9 l Z a0 hw [] p1 h1) e1 (W := 2) (by decide) (by decide) (by decide) (by decide) (g := (mkF m 23 #[.val (.int p0), .val (.int p1), .val (.int p2), .val (.int p3), .val (.int p4), .val (.int ((p0 &&& (2147483647 : Int32)) % (5 : Int32))), .val (.ref b1), .unset, .unset] [(.int p1), (.int (0 : Int32)), (.ref b1)])) rfl (by rw [hml]; rfl) (argsL := [(.int p1)]) (rest := [(.int (0 : Int32)), (.ref b1)]) rfl (lenOf pd_4 rfl) rfl (by show 2 * 0 + _ ≤ _; exact Nat.le_of_eq rfl) (hb hby at_23)
    refine FiniW.st st3 ?_
    show FiniW p e below s _ _ _ T3 (mkF m 26 #[.val (.int p0), .val (.int p1), .val (.int p2), .val (.int p3), .val (.int p4), .val (.int ((p0 &&& (2147483647 : Int32)) % (5 : Int32))), .val (.ref b1), .unset, .unset] [(.int (f9 p1)), (.int (0 : Int32)), (.ref b1)])
    obtain ⟨T4, h4, X4, e4, W4, Ar4, st4⟩ := Ar1.stB X3 hx hZ e3 ⟨by decide, c2⟩ (g := (mkF m 26 #[.val (.int p0), .val (.int p1), .val (.int p2), .val (.int p3), .val (.int p4), .val (.int ((p0 &&& (2147483647 : Int32)) % (5 : Int32))), .val (.ref b1), .unset, .unset] [(.int (f9 p1)), (.int (0 : Int32)), (.ref b1)])) rfl rfl (hb hby at_26)
    refine FiniW.st st4 ?_
    have N4 := Fr.snoc X4 N0 ge_b1
    show FiniW p e below s _ _ _ T4 (mkF m 27 #[.val (.int p0), .val (.int p1), .val (.int p2), .val (.int p3), .val (.int p4), .val (.int ((p0 &&& (2147483647 : Int32)) % (5 : Int32))), .val (.ref b1), .unset, .unset] [])
    have Zs_49 : n0 ≤ h4.size := (Nat.le_trans (Nat.le_trans Z0 E1.1) (Nat.le_of_eq W4.size.symm))
    have Zs_50 : 0 ≤ h4.size := (Nat.le_trans (Nat.le_trans (Nat.zero_le _) E1.1) (Nat.le_of_eq W4.size.symm))
    have Ex_51 : Exa Z h4 b1 "[B" := (Ea1.wr W4)
    exact B27 T4 _ _ (X4.more (cells' := 1) (slots' := 4) (by decide) (by decide)) e4 b1 (upd (fun _ => 0) 0 (nar .byte (f9 p1))) N4 Zs_49 Zs_50 Ex_51 Ar4 ge_b1
  · skip
    refine FiniW.st (fun _ k => XS.ifYes X1.here hx rfl (pc0 := 16) (pc' := 27) rfl (hb hby at_16) rfl (XT.i0_le_t c2) (by decide) (by decide) k) ?_
    show FiniW p e below s _ _ _ T1 (mkF m 27 #[.val (.int p0), .val (.int p1), .val (.int p2), .val (.int p3), .val (.int p4), .val (.int ((p0 &&& (2147483647 : Int32)) % (5 : Int32))), .val (.ref b1), .unset, .unset] [])
    have Zs_52 : n0 ≤ h1.size := (Nat.le_trans Z0 E1.1)
    have Zs_53 : 0 ≤ h1.size := (Nat.le_trans (Nat.zero_le _) E1.1)
    exact B27 T1 _ _ (X1.more (cells' := 1) (slots' := 4) (by decide) (by decide)) e1 b1 (fun _ => 0) N0 Zs_52 Zs_53 Ea1 Ar1 ge_b1
theorem own_law (i0 i1 i2 i3 i4 : Int32) : (1 : Int32) = 1 := rfl

set_option maxRecDepth 65536 in
set_option maxHeartbeats 40000000 in
theorem comes_1 {Post : Tables → Env → Array Value → State → Outcome → State → Prop} (hpost : ∀ tb e args s v u, (limb_1_1.after args s (.returned v) u = true ∧ limb_1_2.after args s (.returned v) u = true ∧ True) → FramedW s (.returned v) u (Jvm.fieldLocs frame_1_writes args s ++ Jvm.arrayLocs frame_1_arrays args s ++ Jvm.staticLocs frame_1_statics s) 16 1152 → Post tb e args s (.returned v) u) :
    ArmFor flags0 classFile x code maxLocals ret World_1 tables_1 room_1 Calls_1 rest_1 Pre_1 Post := by
  intro l hfl _ _ p e ha hc hk s m args below hf hA hF happ hP
  obtain ⟨hcalls, hrest, hpre⟩ := hP
  obtain ⟨-, -, -, hnamed, -, -, -, hat⟩ := (Spec.applies_iff hf).mp happ
  obtain ⟨hg, hn⟩ := and_e (Cond.before_iff.mp (show (Jvm.Cond.and given_1 narrow_1).before args s = true from hpre))
  obtain ⟨g1, g2⟩ := and_e hg
  obtain ⟨g3, g4⟩ := and_e g2
  obtain ⟨g5, g6⟩ := and_e g4
  obtain ⟨g7, g8⟩ := and_e g6
  obtain ⟨g9, g10⟩ := and_e g8
  obtain ⟨w0, w1, w2, w3, w4, rfl⟩ : ∃ w0 w1 w2 w3 w4 : Value, args = #[w0, w1, w2, w3, w4] := by
    have hs : args.size = 5 := by simpa [Cond.value, given_1] using g1
    obtain ⟨L⟩ := args
    match L, hs with
    | [w0, w1, w2, w3, w4], _ => exact ⟨w0, w1, w2, w3, w4, rfl⟩
  have hw := fun d (hd : d ∈ tables_1) => atoms_spec (ws := Jvm.Cond.code x code maxLocals ret :: tables_1) hat d (List.mem_cons_of_mem _ hd)
  have hfit : Fit s := fun {y c} hc i hi => by
    obtain ⟨ha, rfl⟩ := Array.getElem?_eq_some_iff.mp hc
    have q := List.all_eq_true.mp ((Array.all_eq_true_iff_forall_mem.mp hF) _ (Array.getElem_mem ha)) i (List.mem_range.mpr hi)
    simpa [Array.getElem?_eq_getElem hi] using q
  obtain ⟨i0, ei0⟩ := is_v g3
  obtain rfl : w0 = (.int i0) := Option.some.inj ei0
  obtain ⟨i1, ei1⟩ := is_v g5
  obtain rfl : w1 = (.int i1) := Option.some.inj ei1
  obtain ⟨i2, ei2⟩ := is_v g7
  obtain rfl : w2 = (.int i2) := Option.some.inj ei2
  obtain ⟨i3, ei3⟩ := is_v g9
  obtain rfl : w3 = (.int i3) := Option.some.inj ei3
  obtain ⟨i4, ei4⟩ := is_v g10
  obtain rfl : w4 = (.int i4) := Option.some.inj ei4
  obtain ⟨n, o, h1, h2, h3, v, L, rfl, ⟨rfl, N⟩, hq⟩ := rm0 l s _ hw tables_1 i0 i1 i2 i3 i4 s.heap s.heap.size (Nat.le_refl _) p e ha hc hk s m _ below hf ((Spec.applies_iff_loose hf).mp happ).1 ⟨rfl, State.Warmed39.refl s, rfl⟩ trivial
  refine ⟨n, _, h1, h2, h3, hpost _ _ _ _ _ _ ⟨Cond.after_iff.mpr rfl, Cond.after_iff.mpr (eq_i res_at (Term.int_eval (1)) (congrArg Value.int (own_law i0 i1 i2 i3 i4))), trivial⟩ ⟨hq.1, hq.2.1, hq.2.2.1, (hq.2.2.2.sift fun y hy => Or.inr (N y hy)).mono (by decide) (by decide)⟩⟩
theorem main_1_1 : Claimed_1_1 := comes_1 fun _ _ _ _ _ _ h hF => ⟨h.1, hF⟩
theorem main_1_2 : Claimed_1_2 := comes_1 fun _ _ _ _ _ _ h hF => ⟨h.2.1, hF⟩
end Jvm.Pilot.@@N@@
namespace Jvm.Pilot.@@N@@
open Jvm Jvm.ClassFile Sem Op Lib Jvm.Free Jvm.Stand Jvm.Pilot.@@N@@.Jvm.D
/-! MADE BY PROGRAM (witnessworld.py) out of the Statement's table words and the real class files: 15 classes; the members and pool entries that the words name. The judged class is class 1, her method 1. -/
namespace start1
open Jvm.ClassFile
def u (s : String) : CpInfo := .utf8 (stringToUtf16 s)
/-- a pool by its gaps: so many unusable entries, then the entry; so many at the end -/
def gap : Nat → List CpInfo → List CpInfo
  | 0, r => r
  | n + 1, r => .unusable :: gap n r
def poolList (es : List (Nat × CpInfo)) (last : Nat) : List CpInfo := es.foldr (fun e r => gap e.1 (e.2 :: r)) (gap last [])
def pool (es : List (Nat × CpInfo)) (last : Nat) : Array CpInfo := ⟨poolList es last⟩
def fileOf (pool : Array CpInfo) (this : Nat) (attrs : Array Attribute := #[]) (ms : Array MethodInfo := #[]) (fl : Nat := 33) (sup : Nat := 0) (ifs : Array Nat := #[]) (fds : Array FieldInfo := #[]) : ClassFile where
  minorVersion := 0
  majorVersion := 65
  constantPool := pool
  accessFlags := fl
  thisClass := this
  superClass := sup
  interfaces := ifs
  fields := fds
  methods := ms
  attributes := attrs
def plain (name : String) (sup : Option ClassId) : Class where
  name := name
  kind := .ordinary
  loader := none
  accessFlags := 33
  super := sup
  interfaces := #[]
  cf := none
  fields := #[]
  methods := #[]
  instanceTypes := #[]
  staticTypes := #[]
  resolved := #[]
  callSites := []
  init := .initialized
  statics := none
  mirror := none

def pool0 : Array CpInfo := pool [(5, u "<init>"), (0, u "()V"), (1, .class_ 10), (1, u "java/lang/Object")] 113

def k0c0 : Code := { maxStack := 0, maxLocals := 1, code := object_method_1_code, exceptionTable := #[], attributes := #[] }
def k0m0 : Method := { name := "<init>", desc := "()V", sig := { parameters := [], returnType := none }, accessFlags := 1, code := some k0c0 }
/-- java/lang/Object -/
def k0 : Class := { plain "java/lang/Object" none with
  accessFlags := 33
  interfaces := #[]
  cf := some (fileOf pool0 8 #[] #[{ accessFlags := 1, nameIndex := 5, descriptorIndex := 6, attributes := #[] }] 33 0 #[] #[])
  fields := #[]
  methods := #[k0m0]
  instanceTypes := #[]
  staticTypes := #[]
  resolved := Array.replicate 124 none
  statics := none }

def pool1 : Array CpInfo := pool [(2, .class_ 4), (1, u "java/lang/Object"), (0, u "<init>"), (0, u "()V"), (0, .integer 2147483647), (0, .methodref 9 10), (0, .class_ 11), (0, .nameAndType 12 13), (0, u "com/example/rights_after_actions/rightsafteractions/io/LinesNextPinLaw"), (0, u "draw"), (0, u "(I)B"), (0, .class_ 15), (0, u "com/example/rights_after_actions/rightsafteractions/io/TextFile$Lines"), (0, .methodref 14 17), (0, .nameAndType 5 18), (0, u "([B)V"), (0, .methodref 9 20), (0, .nameAndType 21 22), (0, u "step"), (0, u "(Lcom/example/rights_after_actions/rightsafteractions/io/TextFile$Lines;[BII)I"), (0, .methodref 14 24), (0, .nameAndType 25 26), (0, u "number"), (0, u "()I"), (0, .methodref 14 28), (0, .nameAndType 29 26), (0, u "start"), (0, .methodref 14 31), (0, .nameAndType 32 26), (0, u "end"), (0, .methodref 14 34), (0, .nameAndType 35 36), (0, u "next"), (0, u "()Z"), (0, .methodref 9 38), (0, .nameAndType 39 40), (0, u "firstLf"), (0, u "([BI)I"), (2, u "law"), (0, u "(IIIII)Z")] 9

def k1m0 : Method := { name := "<init>", desc := "()V", sig := { parameters := [], returnType := none }, accessFlags := 2, code := none }
def k1c1 : Code := { maxStack := 4, maxLocals := 9, code := code, exceptionTable := #[], attributes := #[] }
def k1m1 : Method := { name := "law", desc := "(IIIII)Z", sig := { parameters := [.int, .int, .int, .int, .int], returnType := some .boolean }, accessFlags := 9, code := some k1c1 }
def k1c2 : Code := { maxStack := 2, maxLocals := 2, code := method_3_code, exceptionTable := #[], attributes := #[] }
def k1m2 : Method := { name := "draw", desc := "(I)B", sig := { parameters := [.int], returnType := some .byte }, accessFlags := 10, code := some k1c2 }
def k1c3 : Code := { maxStack := 2, maxLocals := 2, code := method_4_code, exceptionTable := #[], attributes := #[] }
def k1m3 : Method := { name := "firstLf", desc := "([BI)I", sig := { parameters := [(.array .byte), .int], returnType := some .int }, accessFlags := 10, code := some k1c3 }
def k1c4 : Code := { maxStack := 3, maxLocals := 11, code := method_5_code, exceptionTable := #[], attributes := #[] }
def k1m4 : Method := { name := "step", desc := "(Lcom/example/rights_after_actions/rightsafteractions/io/TextFile$Lines;[BII)I", sig := { parameters := [(.object "com/example/rights_after_actions/rightsafteractions/io/TextFile$Lines"), (.array .byte), .int, .int], returnType := some .int }, accessFlags := 10, code := some k1c4 }
/-- com/example/rights_after_actions/rightsafteractions/io/LinesNextPinLaw -/
def k1 : Class := { plain "com/example/rights_after_actions/rightsafteractions/io/LinesNextPinLaw" (some 0) with
  accessFlags := 49
  interfaces := #[]
  cf := some (fileOf pool1 9 #[] #[{ accessFlags := 2, nameIndex := 5, descriptorIndex := 6, attributes := #[] }, { accessFlags := 9, nameIndex := 43, descriptorIndex := 44, attributes := #[] }, { accessFlags := 10, nameIndex := 12, descriptorIndex := 13, attributes := #[] }, { accessFlags := 10, nameIndex := 39, descriptorIndex := 40, attributes := #[] }, { accessFlags := 10, nameIndex := 21, descriptorIndex := 22, attributes := #[] }] 49 2 #[] #[])
  fields := #[]
  methods := #[k1m0, k1m1, k1m2, k1m3, k1m4]
  instanceTypes := #[]
  staticTypes := #[]
  resolved := Array.replicate 54 none
  statics := none }

def pool2 : Array CpInfo := pool [(1, .class_ 2), (0, u "com/example/rights_after_actions/rightsafteractions/io/TextFile"), (0, .methodref 4 5), (0, .class_ 6), (0, .nameAndType 7 8), (0, u "java/lang/Object"), (0, u "<init>"), (0, u "()V"), (0, .string 10), (0, u "content"), (0, .methodref 12 13), (0, .class_ 14), (0, .nameAndType 15 16), (0, u "java/util/Objects"), (0, u "requireNonNull"), (0, u "(Ljava/lang/Object;Ljava/lang/String;)Ljava/lang/Object;"), (0, .class_ 18), (0, u "[B"), (0, .fieldref 20 21), (0, .class_ 22), (0, .nameAndType 10 18), (0, u "com/example/rights_after_actions/rightsafteractions/io/TextFile$Lines"), (0, .fieldref 20 24), (0, .nameAndType 25 26), (0, u "next"), (0, u "I"), (0, .fieldref 20 28), (0, .nameAndType 29 26), (0, u "start"), (0, .fieldref 20 31), (0, .nameAndType 32 26), (0, u "end"), (0, .fieldref 20 34), (0, .nameAndType 35 26), (0, u "number"), (39, u "([B)V"), (2, u "()Z"), (1, u "()I")] 6

def k2c0 : Code := { maxStack := 3, maxLocals := 2, code := prog_68_method_1_code, exceptionTable := #[], attributes := #[] }
def k2m0 : Method := { name := "<init>", desc := "([B)V", sig := { parameters := [(.array .byte)], returnType := none }, accessFlags := 0, code := some k2c0 }
def k2c1 : Code := { maxStack := 3, maxLocals := 3, code := prog_68_method_2_code, exceptionTable := #[], attributes := #[] }
def k2m1 : Method := { name := "next", desc := "()Z", sig := { parameters := [], returnType := some .boolean }, accessFlags := 0, code := some k2c1 }
def k2c2 : Code := { maxStack := 1, maxLocals := 1, code := prog_68_method_3_code, exceptionTable := #[], attributes := #[] }
def k2m2 : Method := { name := "number", desc := "()I", sig := { parameters := [], returnType := some .int }, accessFlags := 0, code := some k2c2 }
def k2c3 : Code := { maxStack := 1, maxLocals := 1, code := prog_68_method_4_code, exceptionTable := #[], attributes := #[] }
def k2m3 : Method := { name := "start", desc := "()I", sig := { parameters := [], returnType := some .int }, accessFlags := 0, code := some k2c3 }
def k2c4 : Code := { maxStack := 1, maxLocals := 1, code := prog_68_method_5_code, exceptionTable := #[], attributes := #[] }
def k2m4 : Method := { name := "end", desc := "()I", sig := { parameters := [], returnType := some .int }, accessFlags := 0, code := some k2c4 }
/-- com/example/rights_after_actions/rightsafteractions/io/TextFile$Lines -/
def k2 : Class := { plain "com/example/rights_after_actions/rightsafteractions/io/TextFile$Lines" (some 0) with
  accessFlags := 48
  interfaces := #[]
  cf := some (fileOf pool2 20 #[.nestHost 1] #[{ accessFlags := 0, nameIndex := 7, descriptorIndex := 75, attributes := #[] }, { accessFlags := 0, nameIndex := 25, descriptorIndex := 78, attributes := #[] }, { accessFlags := 0, nameIndex := 35, descriptorIndex := 80, attributes := #[] }, { accessFlags := 0, nameIndex := 29, descriptorIndex := 80, attributes := #[] }, { accessFlags := 0, nameIndex := 32, descriptorIndex := 80, attributes := #[] }] 48 4 #[] #[{ accessFlags := 18, nameIndex := 10, descriptorIndex := 18, attributes := #[] }, { accessFlags := 2, nameIndex := 35, descriptorIndex := 26, attributes := #[] }, { accessFlags := 2, nameIndex := 29, descriptorIndex := 26, attributes := #[] }, { accessFlags := 2, nameIndex := 32, descriptorIndex := 26, attributes := #[] }, { accessFlags := 2, nameIndex := 25, descriptorIndex := 26, attributes := #[] }])
  fields := #[{ name := "content", type := (.array .byte), accessFlags := 18, slot := 0, constantValue := 0 }, { name := "number", type := .int, accessFlags := 2, slot := 1, constantValue := 0 }, { name := "start", type := .int, accessFlags := 2, slot := 2, constantValue := 0 }, { name := "end", type := .int, accessFlags := 2, slot := 3, constantValue := 0 }, { name := "next", type := .int, accessFlags := 2, slot := 4, constantValue := 0 }]
  methods := #[k2m0, k2m1, k2m2, k2m3, k2m4]
  instanceTypes := #[(.array .byte), .int, .int, .int, .int]
  staticTypes := #[]
  resolved := Array.replicate 87 none
  statics := none }

def pool3 : Array CpInfo := pool [(1, .class_ 2), (0, u "java/io/Serializable"), (0, .class_ 4), (0, u "java/lang/Object")] 2

/-- java/io/Serializable -/
def k3 : Class := { plain "java/io/Serializable" (some 0) with
  accessFlags := 1537
  interfaces := #[]
  cf := some (fileOf pool3 1 #[] #[] 1537 3 #[] #[])
  fields := #[]
  methods := #[]
  instanceTypes := #[]
  staticTypes := #[]
  resolved := Array.replicate 7 none
  statics := none }

def pool4 : Array CpInfo := pool [(1, .class_ 2), (0, u "java/lang/Comparable"), (0, .class_ 4), (0, u "java/lang/Object")] 7

/-- java/lang/Comparable -/
def k4 : Class := { plain "java/lang/Comparable" (some 0) with
  accessFlags := 1537
  interfaces := #[]
  cf := some (fileOf pool4 1 #[] #[] 1537 3 #[] #[])
  fields := #[]
  methods := #[]
  instanceTypes := #[]
  staticTypes := #[]
  resolved := Array.replicate 12 none
  statics := none }

def pool5 : Array CpInfo := pool [(2, .class_ 4), (1, u "java/lang/CharSequence"), (42, .class_ 48), (0, u "java/lang/CharSequence$1CodePointIterator"), (10, .class_ 60), (0, u "java/lang/CharSequence$1CharIterator"), (5, .class_ 67), (0, u "java/lang/Object")] 63

/-- java/lang/CharSequence -/
def k5 : Class := { plain "java/lang/CharSequence" (some 0) with
  accessFlags := 1537
  interfaces := #[]
  cf := some (fileOf pool5 2 #[.nestMembers #[47, 59]] #[] 1537 66 #[] #[])
  fields := #[]
  methods := #[]
  instanceTypes := #[]
  staticTypes := #[]
  resolved := Array.replicate 131 none
  statics := none }

def pool6 : Array CpInfo := pool [(1, .class_ 2), (0, u "java/lang/constant/Constable"), (0, .class_ 4), (0, u "java/lang/Object")] 6

/-- java/lang/constant/Constable -/
def k6 : Class := { plain "java/lang/constant/Constable" (some 0) with
  accessFlags := 1537
  interfaces := #[]
  cf := some (fileOf pool6 1 #[] #[] 1537 3 #[] #[])
  fields := #[]
  methods := #[]
  instanceTypes := #[]
  staticTypes := #[]
  resolved := Array.replicate 11 none
  statics := none }

def pool7 : Array CpInfo := pool [(1, .class_ 2), (0, u "java/lang/constant/ConstantDesc"), (0, .class_ 4), (0, u "java/lang/Object")] 32

/-- java/lang/constant/ConstantDesc -/
def k7 : Class := { plain "java/lang/constant/ConstantDesc" (some 0) with
  accessFlags := 1537
  interfaces := #[]
  cf := some (fileOf pool7 1 #[] #[] 1537 3 #[] #[])
  fields := #[]
  methods := #[]
  instanceTypes := #[]
  staticTypes := #[]
  resolved := Array.replicate 37 none
  statics := none }

def pool8 : Array CpInfo := pool [(2, .class_ 4), (1, u "java/lang/Object"), (0, u "<init>"), (0, u "()V"), (3, .class_ 12), (1, u "java/lang/String"), (0, u "value"), (0, u "[B"), (2, u "coder"), (0, u "B"), (2, u "hash"), (0, u "I"), (2, u "hashIsZero"), (0, u "Z"), (13, u "COMPACT_STRINGS"), (534, .class_ 576), (0, u "java/lang/CharSequence"), (22, u "CASE_INSENSITIVE_ORDER"), (0, u "Ljava/util/Comparator;"), (500, u "serialPersistentFields"), (0, u "[Ljava/io/ObjectStreamField;"), (0, .class_ 1104), (0, u "java/lang/String$CaseInsensitiveComparator"), (1, .class_ 1107), (0, u "java/io/Serializable"), (0, .class_ 1109), (0, u "java/lang/Comparable"), (0, .class_ 1111), (0, u "java/lang/constant/Constable"), (0, .class_ 1113), (0, u "java/lang/constant/ConstantDesc"), (2, u "serialVersionUID"), (0, u "J"), (3, u "REPL"), (0, u "C"), (2, u "LATIN1"), (1, u "UTF16")] 323

def k8m0 : Method := { name := "<init>", desc := "()V", sig := { parameters := [], returnType := none }, accessFlags := 1, code := none }
/-- java/lang/String -/
def k8 : Class := { plain "java/lang/String" (some 0) with
  accessFlags := 49
  interfaces := #[3, 4, 5, 6, 7]
  cf := some (fileOf pool8 10 #[.nestMembers #[1103]] #[{ accessFlags := 1, nameIndex := 5, descriptorIndex := 6, attributes := #[] }] 49 2 #[1106, 1108, 575, 1110, 1112] #[{ accessFlags := 18, nameIndex := 13, descriptorIndex := 14, attributes := #[] }, { accessFlags := 18, nameIndex := 17, descriptorIndex := 18, attributes := #[] }, { accessFlags := 2, nameIndex := 21, descriptorIndex := 22, attributes := #[] }, { accessFlags := 2, nameIndex := 25, descriptorIndex := 26, attributes := #[] }, { accessFlags := 26, nameIndex := 1116, descriptorIndex := 1117, attributes := #[] }, { accessFlags := 24, nameIndex := 40, descriptorIndex := 26, attributes := #[] }, { accessFlags := 26, nameIndex := 1101, descriptorIndex := 1102, attributes := #[] }, { accessFlags := 26, nameIndex := 1121, descriptorIndex := 1122, attributes := #[] }, { accessFlags := 25, nameIndex := 599, descriptorIndex := 600, attributes := #[] }, { accessFlags := 24, nameIndex := 1125, descriptorIndex := 18, attributes := #[] }, { accessFlags := 24, nameIndex := 1127, descriptorIndex := 18, attributes := #[] }])
  fields := #[{ name := "value", type := (.array .byte), accessFlags := 18, slot := 0, constantValue := 0 }, { name := "coder", type := .byte, accessFlags := 18, slot := 1, constantValue := 0 }, { name := "hash", type := .int, accessFlags := 2, slot := 2, constantValue := 0 }, { name := "hashIsZero", type := .boolean, accessFlags := 2, slot := 3, constantValue := 0 }, { name := "serialVersionUID", type := .long, accessFlags := 26, slot := 0, constantValue := 0 }, { name := "COMPACT_STRINGS", type := .boolean, accessFlags := 24, slot := 1, constantValue := 0 }, { name := "serialPersistentFields", type := (.array (.object "java/io/ObjectStreamField")), accessFlags := 26, slot := 2, constantValue := 0 }, { name := "REPL", type := .char, accessFlags := 26, slot := 3, constantValue := 0 }, { name := "CASE_INSENSITIVE_ORDER", type := (.object "java/util/Comparator"), accessFlags := 25, slot := 4, constantValue := 0 }, { name := "LATIN1", type := .byte, accessFlags := 24, slot := 5, constantValue := 0 }, { name := "UTF16", type := .byte, accessFlags := 24, slot := 6, constantValue := 0 }]
  methods := #[k8m0]
  instanceTypes := #[(.array .byte), .byte, .int, .boolean]
  staticTypes := #[.long, .boolean, (.array (.object "java/io/ObjectStreamField")), .char, (.object "java/util/Comparator"), .byte, .byte]
  resolved := Array.replicate 1451 none
  statics := none }

def pool9 : Array CpInfo := pool [(2, .class_ 4), (1, u "java/lang/Object"), (0, u "<init>"), (0, u "()V"), (35, .class_ 44), (1, u "java/util/Objects"), (0, u "requireNonNull"), (48, u "(Ljava/lang/Object;Ljava/lang/String;)Ljava/lang/Object;")] 89

def k9m0 : Method := { name := "<init>", desc := "()V", sig := { parameters := [], returnType := none }, accessFlags := 2, code := none }
def k9c1 : Code := { maxStack := 3, maxLocals := 2, code := jdk_31_method_11_code, exceptionTable := #[], attributes := #[] }
def k9m1 : Method := { name := "requireNonNull", desc := "(Ljava/lang/Object;Ljava/lang/String;)Ljava/lang/Object;", sig := { parameters := [(.object "java/lang/Object"), (.object "java/lang/String")], returnType := some (.object "java/lang/Object") }, accessFlags := 9, code := some k9c1 }
/-- java/util/Objects -/
def k9 : Class := { plain "java/util/Objects" (some 0) with
  accessFlags := 49
  interfaces := #[]
  cf := some (fileOf pool9 42 #[] #[{ accessFlags := 2, nameIndex := 5, descriptorIndex := 6, attributes := #[] }, { accessFlags := 9, nameIndex := 45, descriptorIndex := 94, attributes := #[] }] 49 2 #[] #[])
  fields := #[]
  methods := #[k9m0, k9m1]
  instanceTypes := #[]
  staticTypes := #[]
  resolved := Array.replicate 184 none
  statics := none }

def pool10 : Array CpInfo := pool [(1, u "java/lang/Cloneable"), (0, .class_ 1), (0, u "java/lang/Object"), (0, .class_ 3)] 3

/-- java/lang/Cloneable -/
def k10 : Class := { plain "java/lang/Cloneable" (some 0) with
  accessFlags := 1537
  interfaces := #[]
  cf := some (fileOf pool10 2 #[] #[] 1537 4 #[] #[])
  fields := #[]
  methods := #[]
  instanceTypes := #[]
  staticTypes := #[]
  resolved := Array.replicate 8 none
  statics := none }

/-- the primitive byte -/
def k11 : Class := { plain "byte" none with kind := .primitive 'B', accessFlags := 0x411 }
/-- [B -/
def k12 : Class := { plain "[B" (some 0) with kind := .array 11 .byte, interfaces := #[10, 3], accessFlags := 1041 }

/-- the primitive int -/
def k13 : Class := { plain "int" none with kind := .primitive 'I', accessFlags := 0x411 }
/-- [I -/
def k14 : Class := { plain "[I" (some 0) with kind := .array 13 .int, interfaces := #[10, 3], accessFlags := 1041 }

def heap : Heap := #[]
def classes : Array Class := #[k0, k1, k2, k3, k4, k5, k6, k7, k8, k9, k10, k11, k12, k13, k14]
def interned : List (Array UInt16 × Addr) := []
def slotsUsed : Nat := 0
def theMethod : MethodId := ⟨1, 1⟩
def args0 : Array Value := #[.int 5, .int 7, .int 3, .int 2, .int 4]
def aboutOver (below : List Frame) : State where
  vm := { classes := classes, interned := interned.toArray }
  heap := heap
  slotsUsed := slotsUsed
  threads := #[{ frames := .invoking theMethod args0 :: below }]
def below0 : List Frame := [.native { method := ⟨0, 0⟩, args := #[] }]
def about1 : State := aboutOver below0
def p0 : Program := .bare "" "" ""
def e0 : Env := launch0.env 0 0 0
theorem w_frames : about1.frames = Frame.invoking theMethod args0 :: below0 := rfl
set_option maxRecDepth 65536 in
theorem w_args : argsFit about1.vm theMethod args0 = true := by decide +kernel
set_option maxRecDepth 65536 in
theorem w_heap : heapFits about1 = true := by decide +kernel
set_option maxRecDepth 65536 in
theorem w_runnable : about1.curStatus? = some .runnable := by decide +kernel
set_option maxRecDepth 65536 in
theorem w_alone : about1.alone = true := by decide +kernel
set_option maxRecDepth 65536 in
theorem w_named : about1.methodNamed? x = some theMethod := by decide +kernel
set_option maxRecDepth 65536 in
theorem w_hears : about1.hears theMethod below0 = true := by decide +kernel
set_option maxRecDepth 65536 in
theorem w_ripe : about1.ripe theMethod args0 below0 = true := by decide +kernel
theorem w_running : about1.status = .running := rfl
set_option maxRecDepth 65536 in
theorem w_room : about1.hasRoom e0.platform room_1 = true :=
  launch0.hasRoom_least _ room_1 (by decide +kernel) (by decide +kernel) (by decide +kernel) (by decide +kernel) (by decide +kernel) (by decide +kernel)
theorem allAtoms_all (ts : List Jvm.Cond) (a : Array Jvm.Value) (st : Jvm.State) : (allAtoms ts).before a st = ts.all (fun c => c.before a st) := by
  induction ts with
  | nil => rfl
  | cons c t ih =>
    show (Jvm.Cond.and c (allAtoms t)).before a st = _
    rw [Jvm.Cond.before_and, ih, List.all_cons]
def words1 : List Jvm.Cond := Jvm.Cond.code x code maxLocals ret :: tables_1
/-- a 'code' word, met by the world's own term for the bytes: nothing is compared byte by byte -/
theorem code_word {y : MethodName} {bytes : ByteArray} {mx : Nat} {rt : Option FieldType} {a : Array Value} {s : State} {m : MethodId} {meth : Method} {c : Code} (h1 : s.methodNamed? y = some m) (h2 : s.vm.method? m = some meth) (h3 : meth.code = some c) (h4 : c.code = bytes)
    (h5 : (c.maxLocals == mx && c.exceptionTable.isEmpty && decide (c.maxStack ≤ mostOperands) && decide (meth.sig.returnType = rt) && !meth.locks && decide (parseMethodDescriptor y.desc = some meth.sig)) = true) : (Jvm.Cond.code y bytes mx rt).before a s = true := by
  simp only [Bool.and_eq_true, beq_iff_eq, Bool.not_eq_true', decide_eq_true_eq] at h5
  obtain ⟨⟨⟨⟨⟨g1, g2⟩, g3⟩, g4⟩, g5⟩, g6⟩ := h5
  simp [Cond.before, Cond.holds, Cond.value, h1, h2, h3, h4, g1, g2, g3, g4, g5, g6]
def isCode : Jvm.Cond → Bool
  | .code _ _ _ _ => true
  | _ => false
theorem all_split {L : List Jvm.Cond} {P : Jvm.Cond → Bool} (h1 : L.all (fun c => isCode c || P c) = true) (h2 : ∀ c ∈ L.filter isCode, P c = true) : L.all P = true := by
  refine List.all_eq_true.mpr fun c hc => ?_
  have h := List.all_eq_true.mp h1 c hc
  rcases Bool.eq_false_or_eq_true (isCode c) with hi | hi
  · exact h2 c (List.mem_filter.mpr ⟨hc, hi⟩)
  · simpa [hi] using h
set_option maxRecDepth 65536 in
theorem w_c0 : (Jvm.Cond.code x code maxLocals ret).before args0 about1 = true := code_word (m := ⟨1, 1⟩) (meth := k1m1) (c := k1c1) (by decide +kernel) rfl rfl rfl (by decide +kernel)
set_option maxRecDepth 65536 in
theorem w_c1 : (Jvm.Cond.code ({ cls := "com/example/rights_after_actions/rightsafteractions/io/TextFile$Lines", name := "<init>", desc := "([B)V" } : Jvm.MethodName) prog_68_method_1_code (2 : Nat) (Option.none : Option Jvm.ClassFile.FieldType)).before args0 about1 = true := code_word (m := ⟨2, 0⟩) (meth := k2m0) (c := k2c0) (by decide +kernel) rfl rfl rfl (by decide +kernel)
set_option maxRecDepth 65536 in
theorem w_c2 : (Jvm.Cond.code ({ cls := "java/lang/Object", name := "<init>", desc := "()V" } : Jvm.MethodName) object_method_1_code (1 : Nat) (Option.none : Option Jvm.ClassFile.FieldType)).before args0 about1 = true := code_word (m := ⟨0, 0⟩) (meth := k0m0) (c := k0c0) (by decide +kernel) rfl rfl rfl (by decide +kernel)
set_option maxRecDepth 65536 in
theorem w_c3 : (Jvm.Cond.code ({ cls := "java/util/Objects", name := "requireNonNull", desc := "(Ljava/lang/Object;Ljava/lang/String;)Ljava/lang/Object;" } : Jvm.MethodName) jdk_31_method_11_code (2 : Nat) (Option.some (Jvm.ClassFile.FieldType.object "java/lang/Object"))).before args0 about1 = true := code_word (m := ⟨9, 1⟩) (meth := k9m1) (c := k9c1) (by decide +kernel) rfl rfl rfl (by decide +kernel)
set_option maxRecDepth 65536 in
theorem w_c4 : (Jvm.Cond.code ({ cls := "com/example/rights_after_actions/rightsafteractions/io/LinesNextPinLaw", name := "step", desc := "(Lcom/example/rights_after_actions/rightsafteractions/io/TextFile$Lines;[BII)I" } : Jvm.MethodName) method_5_code (11 : Nat) (Option.some Jvm.ClassFile.FieldType.int)).before args0 about1 = true := code_word (m := ⟨1, 4⟩) (meth := k1m4) (c := k1c4) (by decide +kernel) rfl rfl rfl (by decide +kernel)
set_option maxRecDepth 65536 in
theorem w_c5 : (Jvm.Cond.code ({ cls := "com/example/rights_after_actions/rightsafteractions/io/TextFile$Lines", name := "number", desc := "()I" } : Jvm.MethodName) prog_68_method_3_code (1 : Nat) (Option.some Jvm.ClassFile.FieldType.int)).before args0 about1 = true := code_word (m := ⟨2, 2⟩) (meth := k2m2) (c := k2c2) (by decide +kernel) rfl rfl rfl (by decide +kernel)
set_option maxRecDepth 65536 in
theorem w_c6 : (Jvm.Cond.code ({ cls := "com/example/rights_after_actions/rightsafteractions/io/TextFile$Lines", name := "start", desc := "()I" } : Jvm.MethodName) prog_68_method_4_code (1 : Nat) (Option.some Jvm.ClassFile.FieldType.int)).before args0 about1 = true := code_word (m := ⟨2, 3⟩) (meth := k2m3) (c := k2c3) (by decide +kernel) rfl rfl rfl (by decide +kernel)
set_option maxRecDepth 65536 in
theorem w_c7 : (Jvm.Cond.code ({ cls := "com/example/rights_after_actions/rightsafteractions/io/TextFile$Lines", name := "end", desc := "()I" } : Jvm.MethodName) prog_68_method_5_code (1 : Nat) (Option.some Jvm.ClassFile.FieldType.int)).before args0 about1 = true := code_word (m := ⟨2, 4⟩) (meth := k2m4) (c := k2c4) (by decide +kernel) rfl rfl rfl (by decide +kernel)
set_option maxRecDepth 65536 in
theorem w_c8 : (Jvm.Cond.code ({ cls := "com/example/rights_after_actions/rightsafteractions/io/TextFile$Lines", name := "next", desc := "()Z" } : Jvm.MethodName) prog_68_method_2_code (3 : Nat) (Option.some Jvm.ClassFile.FieldType.boolean)).before args0 about1 = true := code_word (m := ⟨2, 1⟩) (meth := k2m1) (c := k2c1) (by decide +kernel) rfl rfl rfl (by decide +kernel)
set_option maxRecDepth 65536 in
theorem w_c9 : (Jvm.Cond.code ({ cls := "com/example/rights_after_actions/rightsafteractions/io/LinesNextPinLaw", name := "draw", desc := "(I)B" } : Jvm.MethodName) method_3_code (2 : Nat) (Option.some Jvm.ClassFile.FieldType.byte)).before args0 about1 = true := code_word (m := ⟨1, 2⟩) (meth := k1m2) (c := k1c2) (by decide +kernel) rfl rfl rfl (by decide +kernel)
set_option maxRecDepth 65536 in
theorem w_c10 : (Jvm.Cond.code ({ cls := "com/example/rights_after_actions/rightsafteractions/io/LinesNextPinLaw", name := "firstLf", desc := "([BI)I" } : Jvm.MethodName) method_4_code (2 : Nat) (Option.some Jvm.ClassFile.FieldType.int)).before args0 about1 = true := code_word (m := ⟨1, 3⟩) (meth := k1m3) (c := k1c3) (by decide +kernel) rfl rfl rfl (by decide +kernel)
def codes1 : List Jvm.Cond := [Jvm.Cond.code x code maxLocals ret, Jvm.Cond.code ({ cls := "com/example/rights_after_actions/rightsafteractions/io/TextFile$Lines", name := "<init>", desc := "([B)V" } : Jvm.MethodName) prog_68_method_1_code (2 : Nat) (Option.none : Option Jvm.ClassFile.FieldType), Jvm.Cond.code ({ cls := "java/lang/Object", name := "<init>", desc := "()V" } : Jvm.MethodName) object_method_1_code (1 : Nat) (Option.none : Option Jvm.ClassFile.FieldType), Jvm.Cond.code ({ cls := "java/util/Objects", name := "requireNonNull", desc := "(Ljava/lang/Object;Ljava/lang/String;)Ljava/lang/Object;" } : Jvm.MethodName) jdk_31_method_11_code (2 : Nat) (Option.some (Jvm.ClassFile.FieldType.object "java/lang/Object")), Jvm.Cond.code ({ cls := "com/example/rights_after_actions/rightsafteractions/io/LinesNextPinLaw", name := "step", desc := "(Lcom/example/rights_after_actions/rightsafteractions/io/TextFile$Lines;[BII)I" } : Jvm.MethodName) method_5_code (11 : Nat) (Option.some Jvm.ClassFile.FieldType.int), Jvm.Cond.code ({ cls := "com/example/rights_after_actions/rightsafteractions/io/TextFile$Lines", name := "number", desc := "()I" } : Jvm.MethodName) prog_68_method_3_code (1 : Nat) (Option.some Jvm.ClassFile.FieldType.int), Jvm.Cond.code ({ cls := "com/example/rights_after_actions/rightsafteractions/io/TextFile$Lines", name := "start", desc := "()I" } : Jvm.MethodName) prog_68_method_4_code (1 : Nat) (Option.some Jvm.ClassFile.FieldType.int), Jvm.Cond.code ({ cls := "com/example/rights_after_actions/rightsafteractions/io/TextFile$Lines", name := "end", desc := "()I" } : Jvm.MethodName) prog_68_method_5_code (1 : Nat) (Option.some Jvm.ClassFile.FieldType.int), Jvm.Cond.code ({ cls := "com/example/rights_after_actions/rightsafteractions/io/TextFile$Lines", name := "next", desc := "()Z" } : Jvm.MethodName) prog_68_method_2_code (3 : Nat) (Option.some Jvm.ClassFile.FieldType.boolean), Jvm.Cond.code ({ cls := "com/example/rights_after_actions/rightsafteractions/io/LinesNextPinLaw", name := "draw", desc := "(I)B" } : Jvm.MethodName) method_3_code (2 : Nat) (Option.some Jvm.ClassFile.FieldType.byte), Jvm.Cond.code ({ cls := "com/example/rights_after_actions/rightsafteractions/io/LinesNextPinLaw", name := "firstLf", desc := "([BI)I" } : Jvm.MethodName) method_4_code (2 : Nat) (Option.some Jvm.ClassFile.FieldType.int)]
set_option maxRecDepth 65536 in
theorem codes_eq : words1.filter isCode = codes1 := rfl
theorem w_codes : ∀ c ∈ words1.filter isCode, c.before args0 about1 = true := by
  rw [codes_eq]
  intro c hc
  simp only [codes1, List.mem_cons, List.not_mem_nil, or_false] at hc
  rcases hc with rfl | rfl | rfl | rfl | rfl | rfl | rfl | rfl | rfl | rfl | rfl
  · exact w_c0
  · exact w_c1
  · exact w_c2
  · exact w_c3
  · exact w_c4
  · exact w_c5
  · exact w_c6
  · exact w_c7
  · exact w_c8
  · exact w_c9
  · exact w_c10
set_option maxRecDepth 65536 in
theorem w_t1 : (words1.take 24).all (fun c => isCode c || c.before args0 about1) = true := by decide +kernel
set_option maxRecDepth 65536 in
theorem w_t2 : ((words1.drop 24).take 24).all (fun c => isCode c || c.before args0 about1) = true := by decide +kernel
set_option maxRecDepth 65536 in
theorem w_t3 : ((words1.drop 24).drop 24).all (fun c => isCode c || c.before args0 about1) = true := by decide +kernel
theorem w_tables : (allAtoms (Jvm.Cond.code x code maxLocals ret :: tables_1)).before args0 about1 = true := by
  rw [allAtoms_all]
  show words1.all (fun c => c.before args0 about1) = true
  refine all_split ?_ w_codes
  rw [← List.take_append_drop 24 words1, List.all_append, w_t1, ← List.take_append_drop 24 (words1.drop 24), List.all_append, w_t2, w_t3]
  rfl
set_option maxRecDepth 65536 in
theorem w_case : (Jvm.Cond.and given_1 narrow_1).before args0 about1 = true := by decide +kernel
theorem w_applies : (headSpec (Jvm.Cond.code x code maxLocals ret :: tables_1) room_1).applies x e0.platform about1 = true :=
  (Spec.applies_iff w_frames).mpr ⟨w_running, w_runnable, w_alone, w_named, w_hears, w_ripe, w_room, w_tables⟩
theorem atStart : AtStart classFile x code maxLocals ret World_1 tables_1 room_1 Calls_1 rest_1 Pre_1 launch0 p0 e0 about1 theMethod args0 below0 :=
  ⟨lists_1, trivial, launch0.admits_env _ _ _, launch0.least_env, fairChoices_fair.cas, fairChoices_fair.clock, w_frames, w_args, w_heap, w_applies, trivial, trivial, w_case⟩
end start1
theorem witness_1 : WitnessClaimed_1 := ⟨start1.p0, start1.e0, start1.about1, start1.theMethod, start1.args0, start1.below0, start1.atStart⟩
end Jvm.Pilot.@@N@@
