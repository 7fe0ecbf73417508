import JvmDerived
import JvmDerived.Pilot.@@N@@Statement
import JvmDerived.Pilot.@@N@@Code
set_option linter.unusedVariables false
set_option linter.unusedSimpArgs false
namespace Jvm.RoadKit
open Sem ClassFile Op Lib Jvm.Stand Jvm.Free Jvm.LawKit
section New
variable {p : Program} {l : Launch} {e : Env} {R : Room} {s : State} {m : MethodId} {args : Array Value} {below : List Frame} {meth : Method} {c : Code} {T : State} {locs : List Loc} {cells slots : Nat}
theorem retI (X : Stand p l e R s m args below meth c T locs cells slots) (hx : p.tables.exec = Jvm.exec) {pc : Nat} {Ls : Array Slot} {z : Int32} {rest : List Value} (hret : meth.sig.returnType = some .int) (hd : decode c.code pc = .ok (.ireturn, 1)) {fs : List Frame}
    (hl : ∀ (f : JFrame) (acts : List Action), f.method = m → f.locked = none → f.entered = [] → (doReturn e (T.setTop f) acts (some (.int z))).1 = T.setFrames fs) : Steps p.tables e below (T.setTop (mkF m pc Ls (.int z :: rest))) (T.setFrames fs) := by
  have hm' : T.vm.method? m = some meth := X.method'
  have hn : narrow .int (.int z) = .int z := rfl
  show Steps p.tables e below (T.setTop { method := m, pc := pc, locals := Ls, stack := _ :: rest, locked := none }) _
  jvm_step X.here [X.here.top, hx, hd, hm', hret, hn]
  first | (intro acts; rw [hl _ acts rfl rfl rfl]) | rw [hl _ _ rfl rfl rfl]
  exact Steps.refl _
end New
end Jvm.RoadKit
namespace Jvm.Pilot.@@N@@
open Jvm Jvm.ClassFile Sem Op Lib Jvm.Free Jvm.Stand Jvm.LawKit Jvm.RoadKit Bundle Jvm.Pilot.@@N@@.Jvm.D

/-! the walk's goal: from this frame the run comes to its end, and Q holds of what it returns, of the heap and of the places written -/
def Fini (p : Program) (e : Env) (below : List Frame) (s : State) (Q : Option Value → Heap → List Loc → Prop) (C S : Nat) (T : State) (g : JFrame) : Prop :=
  ∃ s₂ o, Steps p.tables e below (T.setTop g) s₂ ∧ s₂.status = .running ∧ Ended s₂ below o ∧ ∃ v L, o = .returned v ∧ Q v s₂.heap L ∧ FrameEnd s o s₂ L C S
abbrev Cmet (l : Launch) (Z : State) (y : MethodName) (bytes : ByteArray) (ml : Nat) (ret : Option FieldType) (ws : List Jvm.Cond) (rm : Room) (as : Array Value) (h0 : Heap) (Q : Option Value → Heap → List Loc → Prop) : Prop :=
  MetFree l y (head1 (Jvm.Cond.code y bytes ml ret :: ws) rm) (fun a U => a = as ∧ Z.Warmed39 U.vm ∧ U.heap = h0) (fun _ _ _ _ _ => True) (fun _ U o U' => ∃ v L, o = .returned v ∧ Q v U'.heap L ∧ FrameEnd U o U' L rm.cells rm.slots)
section Own
variable {p : Program} {l : Launch} {e : Env} {R : Room} {s : State} {m : MethodId} {args : Array Value} {below : List Frame} {meth : Method} {c : Code} {T T' : State} {locs : List Loc} {cells slots : Nat} {Q : Option Value → Heap → List Loc → Prop} {C S : Nat} {g g' : JFrame} {Z : State} {a0 : Array Value} {h : Heap}
theorem Fini.st (k : ∀ t, Steps p.tables e below (T'.setTop g') t → Steps p.tables e below (T.setTop g) t) (f : Fini p e below s Q C S T' g') : Fini p e below s Q C S T g := by
  obtain ⟨s2, o, h1, r⟩ := f
  exact ⟨s2, o, k _ h1, r⟩
theorem Fini.cast (q : g = g') (f : Fini p e below s Q C S T g') : Fini p e below s Q C S T g := q ▸ f
theorem Fini.retI (X : Stand p l e R s m args below meth c T locs cells slots) (hx : p.tables.exec = Jvm.exec) (hl : meth.locks = false) (hret : meth.sig.returnType = some .int) {pc : Nat} {Ls : Array Slot} {z : Int32} {rest : List Value} (hd : decode c.code pc = .ok (.ireturn, 1))
    (hC : cells ≤ C) (hS : slots ≤ S) (hQ : Q (some (.int z)) T.heap locs) : Fini p e below s Q C S T (mkF m pc Ls (.int z :: rest)) := by
  obtain ⟨fs, hr, hrun, hended, hW, hsame⟩ := X.leave (v := some (.int z)) (fun h => by rw [hret] at h; cases h) hl
  exact ⟨_, _, Jvm.RoadKit.retI X hx hret hd hr, hrun, hended, _, _, rfl, hQ, ⟨_, rfl⟩, hW, hsame.mono hC hS⟩
theorem Fini.retN (X : Stand p l e R s m args below meth c T locs cells slots) (hx : p.tables.exec = Jvm.exec) (hl : meth.locks = false) {t : FieldType} (hret : meth.sig.returnType = some t) (ht : t = .boolean ∨ t = .byte ∨ t = .char ∨ t = .short) {pc : Nat} {Ls : Array Slot} {z z' : Int32} {rest : List Value} (hd : decode c.code pc = .ok (.ireturn, 1))
    (hz : nar t z = z') (hC : cells ≤ C) (hS : slots ≤ S) (hQ : Q (some (.int z')) T.heap locs) : Fini p e below s Q C S T (mkF m pc Ls (.int z :: rest)) := by
  subst hz
  obtain ⟨fs, hr, hrun, hended, hW, hsame⟩ := X.leave (v := some (.int (nar t z))) (fun h => by rw [hret] at h; cases h) hl
  exact ⟨_, _, Jvm.RoadKit.retN X hx hret ht hd hr, hrun, hended, _, _, rfl, hQ, ⟨_, rfl⟩, hW, hsame.mono hC hS⟩
theorem Fini.retJ (X : Stand p l e R s m args below meth c T locs cells slots) (hx : p.tables.exec = Jvm.exec) (hl : meth.locks = false) (hret : meth.sig.returnType = some .long) {pc : Nat} {Ls : Array Slot} {z : Int64} {rest : List Value} (hd : decode c.code pc = .ok (.lreturn, 1))
    (hC : cells ≤ C) (hS : slots ≤ S) (hQ : Q (some (.long z)) T.heap locs) : Fini p e below s Q C S T (mkF m pc Ls (.long z :: rest)) := by
  obtain ⟨fs, hr, hrun, hended, hW, hsame⟩ := X.leave (v := some (.long z)) (fun h => by rw [hret] at h; cases h) hl
  exact ⟨_, _, retOut X hx hret rfl (Or.inr (Or.inl ⟨rfl, rfl, z, rfl⟩)) hd hr, hrun, hended, _, _, rfl, hQ, ⟨_, rfl⟩, hW, hsame.mono hC hS⟩
theorem Fini.retA (X : Stand p l e R s m args below meth c T locs cells slots) (hx : p.tables.exec = Jvm.exec) (hl : meth.locks = false) {t : FieldType} (hret : meth.sig.returnType = some t) (ht : t.isReference = true) {pc : Nat} {Ls : Array Slot} {w : Value} {rest : List Value} (hd : decode c.code pc = .ok (.areturn, 1)) (hw : w.isRef = true) (hn : narrow t w = w)
    (hC : cells ≤ C) (hS : slots ≤ S) (hQ : Q (some w) T.heap locs) : Fini p e below s Q C S T (mkF m pc Ls (w :: rest)) := by
  obtain ⟨fs, hr, hrun, hended, hW, hsame⟩ := X.leave (v := some w) (fun h => by rw [hret] at h; cases h) hl
  exact ⟨_, _, retOut X hx hret hn (Or.inr (Or.inr (Or.inr (Or.inr ⟨rfl, ht, hw⟩)))) hd hr, hrun, hended, _, _, rfl, hQ, ⟨_, rfl⟩, hW, hsame.mono hC hS⟩
theorem Fini.ret0 (X : Stand p l e R s m args below meth c T locs cells slots) (hx : p.tables.exec = Jvm.exec) (hl : meth.locks = false) (hret : meth.sig.returnType = none) {pc : Nat} {Ls : Array Slot} (hd : decode c.code pc = .ok (.return_, 1))
    (hC : cells ≤ C) (hS : slots ≤ S) (hQ : Q none T.heap locs) : Fini p e below s Q C S T (mkF m pc Ls []) := by
  obtain ⟨fs, hr, hrun, hended, hW, hsame⟩ := X.leave (v := none) (fun _ => rfl) hl
  exact ⟨_, _, X.returnOut hx hret hd hr, hrun, hended, _, _, rfl, hQ, ⟨_, rfl⟩, hW, hsame.mono hC hS⟩
/-- a static call by its contract -/
theorem callQ (X : Stand p l e R s m args below meth c T locs cells slots) (hx : p.tables.exec = Jvm.exec) (hZ : Z.Warmed39 s.vm) {own : String} {index : Nat} {y : MethodName} {bytes : ByteArray} {maxL : Nat} {ret : Option FieldType} {rm : Room} {as : Array Value}
    (hown : s.vm.findClass own = some m.cls) (w1 : (Cond.methodLink own index y).before a0 Z = true) (w2 : (Cond.static y).before a0 Z = true) (w3 : (Cond.initialized y.cls).before a0 Z = true) (w4 : (Cond.code y bytes maxL ret).before a0 Z = true)
    (hy : y.cls ≠ "java/lang/invoke/MethodHandle" ∧ y.cls ≠ "java/lang/invoke/VarHandle") (M : Cmet l Z y bytes maxL ret [] rm as h Q) (eT : T.heap = h) {W : Nat} (hf : rm.frames + 1 ≤ R.frames) (hl : W + (maxL + 11) + rm.locals ≤ R.locals) (hc : cells + rm.cells ≤ R.cells) (hs : slots + rm.slots ≤ R.slots)
    (hg : g.method = m) (hsize : g.locals.size = c.maxLocals) {argsL rest : List Value} (has : argsL.toArray = as) (hlen : ∀ sig, parseMethodDescriptor y.desc = some sig → argsL.length = sig.parameters.length)
    (hstack : g.stack = argsL.reverse ++ rest) (hW : 2 * g.monitorRoom + (rest.map fun v => v.category).sum ≤ W) (hdg : decode c.code g.pc = .ok (.invokestatic index, 3)) :
    ∃ (v : Option Value) (T' : State) (L : List Loc), Stand p l e R s m args below meth c T' (locs ++ L) (cells + rm.cells) (slots + rm.slots) ∧ Q v T'.heap L ∧
      ∀ target, Steps p.tables e below (T'.setTop { g with pc := g.pc + 3, stack := v.toList ++ rest }) target → Steps p.tables e below (T.setTop g) target := by
  obtain ⟨v, vm1, ⟨T', L', c', n'⟩, -, X', ⟨L, hQ, q1, q2, q3⟩, st⟩ := Jvm.LawKit.callS X hx hown (mvT hZ w1) (mvT hZ w2) (mvT hZ w3) (mvT hZ w4) hy (backOf (W := W) M hZ w4 w3 hf hl) hg hsize hlen hstack hW hdg (fun _ _ => ⟨has, eT, hc, hs⟩)
  dsimp only [Pt.U, Pt.locs, Pt.cells, Pt.slots] at X' q1 q2 q3 st hQ
  subst q1 q2 q3
  exact ⟨v, T', L, X', hQ, st⟩
/-- a static call that leaves the heap as it was -/
theorem pureS (X : Stand p l e R s m args below meth c T locs cells slots) (hx : p.tables.exec = Jvm.exec) (hZ : Z.Warmed39 s.vm) {own : String} {index : Nat} {y : MethodName} {bytes : ByteArray} {maxL : Nat} {ret : Option FieldType} {fr lo : Nat} {as : Array Value} {w : Option Value}
    (hown : s.vm.findClass own = some m.cls) (w1 : (Cond.methodLink own index y).before a0 Z = true) (w2 : (Cond.static y).before a0 Z = true) (w3 : (Cond.initialized y.cls).before a0 Z = true) (w4 : (Cond.code y bytes maxL ret).before a0 Z = true)
    (hy : y.cls ≠ "java/lang/invoke/MethodHandle" ∧ y.cls ≠ "java/lang/invoke/VarHandle") (M : Cmet l Z y bytes maxL ret [] ({ frames := fr, cells := 0, slots := 0, locals := lo } : Room) as h (fun v h' L => v = w ∧ h' = h ∧ L = [])) (eT : T.heap = h) {W : Nat} (hf : fr + 1 ≤ R.frames) (hl : W + (maxL + 11) + lo ≤ R.locals) (hc : cells ≤ R.cells) (hs : slots ≤ R.slots)
    (hg : g.method = m) (hsize : g.locals.size = c.maxLocals) {argsL rest : List Value} (has : argsL.toArray = as) (hlen : ∀ sig, parseMethodDescriptor y.desc = some sig → argsL.length = sig.parameters.length)
    (hstack : g.stack = argsL.reverse ++ rest) (hW : 2 * g.monitorRoom + (rest.map fun v => v.category).sum ≤ W) (hdg : decode c.code g.pc = .ok (.invokestatic index, 3)) :
    ∃ (T' : State), Stand p l e R s m args below meth c T' locs cells slots ∧ T'.heap = h ∧
      ∀ target, Steps p.tables e below (T'.setTop { g with pc := g.pc + 3, stack := w.toList ++ rest }) target → Steps p.tables e below (T.setTop g) target := by
  obtain ⟨v, T', L, X', ⟨rfl, q, rfl⟩, st⟩ := callQ X hx hZ hown w1 w2 w3 w4 hy M eT (W := W) hf hl hc hs hg hsize has hlen hstack hW hdg
  rw [List.append_nil] at X'
  exact ⟨T', X', q, st⟩
/-- an instance method by the contract of the body that the receiver's class selects -/
theorem callV (X : Stand p l e R s m args below meth c T locs cells slots) (hx : p.tables.exec = Jvm.exec) (hZ : Z.Warmed39 s.vm) {own C' : String} {index : Nat} {y z : MethodName} {bytes : ByteArray} {maxL : Nat} {ret : Option FieldType} {rm : Room} {as : Array Value} {b : Addr}
    (hown : s.vm.findClass own = some m.cls) (w1 : (Cond.methodLink own index y).before a0 Z = true) (w2 : (Cond.declares y).before a0 Z = true) (w3 : (Cond.selects C' y z).before a0 Z = true) (w4 : (Cond.instanceMethod z).before a0 Z = true) (w5 : (Cond.initialized z.cls).before a0 Z = true) (w6 : (Cond.code z bytes maxL ret).before a0 Z = true)
    (nf : NotFace s y) (E : Exa Z h b C') (hy : y.cls ≠ "java/lang/invoke/MethodHandle" ∧ y.cls ≠ "java/lang/invoke/VarHandle") (M : Cmet l Z z bytes maxL ret [] rm as h Q) (eT : T.heap = h) {W : Nat} (hf : rm.frames + 1 ≤ R.frames) (hl : W + (maxL + 11) + rm.locals ≤ R.locals) (hc : cells + rm.cells ≤ R.cells) (hs : slots + rm.slots ≤ R.slots)
    (hg : g.method = m) (hsize : g.locals.size = c.maxLocals) {argsL rest : List Value} (has : (Value.ref b :: argsL).toArray = as) (hlen : ∀ sig, parseMethodDescriptor y.desc = some sig → argsL.length = sig.parameters.length)
    (hstack : g.stack = argsL.reverse ++ .ref b :: rest) (hW : 2 * g.monitorRoom + (rest.map fun v => v.category).sum ≤ W) (hdg : decode c.code g.pc = .ok (.invokevirtual index, 3)) :
    ∃ (v : Option Value) (T' : State) (L : List Loc), Stand p l e R s m args below meth c T' (locs ++ L) (cells + rm.cells) (slots + rm.slots) ∧ Q v T'.heap L ∧
      ∀ target, Steps p.tables e below (T'.setTop { g with pc := g.pc + 3, stack := v.toList ++ rest }) target → Steps p.tables e below (T.setTop g) target := by
  obtain ⟨cB, kB, q1, q2, q3⟩ := isOf hZ eT E
  obtain ⟨v, vm1, ⟨T', L', c', n'⟩, -, X', ⟨L, hQ, r1, r2, r3⟩, st⟩ := X.virtualBack hx hown (mvT hZ w1) (mvT hZ w2) nf (mvT hZ w3) (mvT hZ w4) hy (backOf (W := W) M hZ w6 w5 hf hl) q1 q3 hg hsize (Steps.refl _) hlen hstack hW hdg (fun _ _ => ⟨has, eT, hc, hs⟩)
  dsimp only [Pt.U, Pt.locs, Pt.cells, Pt.slots] at X' r1 r2 r3 st hQ
  subst r1 r2 r3
  exact ⟨v, T', L, X', hQ, fun _ k => st.trans k⟩
theorem pureV (X : Stand p l e R s m args below meth c T locs cells slots) (hx : p.tables.exec = Jvm.exec) (hZ : Z.Warmed39 s.vm) {own C' : String} {index : Nat} {y z : MethodName} {bytes : ByteArray} {maxL : Nat} {ret : Option FieldType} {fr lo : Nat} {as : Array Value} {b : Addr} {w : Option Value}
    (hown : s.vm.findClass own = some m.cls) (w1 : (Cond.methodLink own index y).before a0 Z = true) (w2 : (Cond.declares y).before a0 Z = true) (w3 : (Cond.selects C' y z).before a0 Z = true) (w4 : (Cond.instanceMethod z).before a0 Z = true) (w5 : (Cond.initialized z.cls).before a0 Z = true) (w6 : (Cond.code z bytes maxL ret).before a0 Z = true)
    (nf : NotFace s y) (E : Exa Z h b C') (hy : y.cls ≠ "java/lang/invoke/MethodHandle" ∧ y.cls ≠ "java/lang/invoke/VarHandle") (M : Cmet l Z z bytes maxL ret [] ({ frames := fr, cells := 0, slots := 0, locals := lo } : Room) as h (fun v h' L => v = w ∧ h' = h ∧ L = [])) (eT : T.heap = h) {W : Nat} (hf : fr + 1 ≤ R.frames) (hl : W + (maxL + 11) + lo ≤ R.locals) (hc : cells ≤ R.cells) (hs : slots ≤ R.slots)
    (hg : g.method = m) (hsize : g.locals.size = c.maxLocals) {argsL rest : List Value} (has : (Value.ref b :: argsL).toArray = as) (hlen : ∀ sig, parseMethodDescriptor y.desc = some sig → argsL.length = sig.parameters.length)
    (hstack : g.stack = argsL.reverse ++ .ref b :: rest) (hW : 2 * g.monitorRoom + (rest.map fun v => v.category).sum ≤ W) (hdg : decode c.code g.pc = .ok (.invokevirtual index, 3)) :
    ∃ (T' : State), Stand p l e R s m args below meth c T' locs cells slots ∧ T'.heap = h ∧
      ∀ target, Steps p.tables e below (T'.setTop { g with pc := g.pc + 3, stack := w.toList ++ rest }) target → Steps p.tables e below (T.setTop g) target := by
  obtain ⟨v, T', L, X', ⟨rfl, q, rfl⟩, st⟩ := callV X hx hZ hown w1 w2 w3 w4 w5 w6 nf E hy M eT (W := W) hf hl hc hs hg hsize has hlen hstack hW hdg
  rw [List.append_nil] at X'
  exact ⟨T', X', q, st⟩
/-- a constructor by its contract -/
theorem callNew (X : Stand p l e R s m args below meth c T locs cells slots) (hx : p.tables.exec = Jvm.exec) (hZ : Z.Warmed39 s.vm) {own : String} {index : Nat} {y : MethodName} {bytes : ByteArray} {maxL : Nat} {rm : Room} {as : Array Value} {b : Addr}
    (hown : s.vm.findClass own = some m.cls) (hy1 : y.name = "<init>") (w1 : (Cond.methodLink own index y).before a0 Z = true) (w2 : (Cond.instanceMethod y).before a0 Z = true) (w3 : (Cond.initialized y.cls).before a0 Z = true) (w4 : (Cond.code y bytes maxL none).before a0 Z = true)
    (hy : y.cls ≠ "java/lang/invoke/MethodHandle" ∧ y.cls ≠ "java/lang/invoke/VarHandle") (M : Cmet l Z y bytes maxL none [] rm as h Q) (eT : T.heap = h) {W : Nat} (hf : rm.frames + 1 ≤ R.frames) (hl : W + (maxL + 11) + rm.locals ≤ R.locals) (hc : cells + rm.cells ≤ R.cells) (hs : slots + rm.slots ≤ R.slots)
    (hg : g.method = m) (hsize : g.locals.size = c.maxLocals) {argsL rest : List Value} (has : (Value.ref b :: argsL).toArray = as) (hlen : ∀ sig, parseMethodDescriptor y.desc = some sig → argsL.length = sig.parameters.length)
    (hstack : g.stack = argsL.reverse ++ .ref b :: rest) (hW : 2 * g.monitorRoom + (rest.map fun v => v.category).sum ≤ W) (hdg : decode c.code g.pc = .ok (.invokespecial index, 3)) :
    ∃ (v : Option Value) (T' : State) (L : List Loc), Stand p l e R s m args below meth c T' (locs ++ L) (cells + rm.cells) (slots + rm.slots) ∧ Q v T'.heap L ∧
      ∀ target, Steps p.tables e below (T'.setTop { g with pc := g.pc + 3, stack := v.toList ++ rest }) target → Steps p.tables e below (T.setTop g) target := by
  obtain ⟨v, vm1, ⟨T', L', c', n'⟩, -, X', ⟨L, hQ, r1, r2, r3⟩, st⟩ := X.specialBack hx hy1 hown (mvT hZ w1) (mvT hZ w2) (mvT hZ w4) hy (backOf (W := W) M hZ w4 w3 hf hl) hg hsize (Steps.refl _) hlen hstack hW hdg (fun _ _ => ⟨has, eT, hc, hs⟩)
  dsimp only [Pt.U, Pt.locs, Pt.cells, Pt.slots] at X' r1 r2 r3 st hQ
  subst r1 r2 r3
  exact ⟨v, T', L, X', hQ, fun _ k => st.trans k⟩
theorem narrowR {C' : String} {v : Value} (hv : v.isRef = true) : narrow (.object C') v = v := by rcases ref_cases hv with rfl | ⟨a, rfl⟩ <;> rfl
theorem fitsR {C' : String} {v : Value} (hv : v.isRef = true) : fits (.object C') v = true := by rcases ref_cases hv with rfl | ⟨a, rfl⟩ <;> rfl
theorem nb0 : nar .boolean (0 : Int32) = 0 := by decide
theorem nb1 : nar .boolean (1 : Int32) = 1 := by decide
end Own
section Arrays
variable {p : Program} {l : Launch} {e : Env} {R : Room} {s : State} {m : MethodId} {args : Array Value} {below : List Frame} {meth : Method} {c : Code} {T T' : State} {locs : List Loc} {cells slots : Nat} {g : JFrame} {Z : State} {a0 : Array Value} {h h' : Heap} {a b : Addr} {ty : FieldType} {n j x : Int32} {rest : List Value} {ws : List Addr} {sl : Nat} {v : Value} {target : State}
/-- an array of ints (bytes, chars, ..), of longs, of references: its length and what lies at each place -/
def AryI (Z : State) (h : Heap) (a : Addr) (ty : FieldType) (n : Int32) (u : Nat → Int32) : Prop := ∃ cl : Cell, Arr Z h a cl ty ∧ cl.slots.size = n.toNatClampNeg ∧ ¬ n < 0 ∧ ∀ i, i < n.toNatClampNeg → cl.slots[i]? = some (.int (u i))
def AryJ (Z : State) (h : Heap) (a : Addr) (n : Int32) (u : Nat → Int64) : Prop := ∃ cl : Cell, Arr Z h a cl .long ∧ cl.slots.size = n.toNatClampNeg ∧ ¬ n < 0 ∧ ∀ i, i < n.toNatClampNeg → cl.slots[i]? = some (.long (u i))
def AryR (Z : State) (h : Heap) (a : Addr) (C : String) (n : Int32) (u : Nat → Value) : Prop := ∃ cl : Cell, Arr Z h a cl (.object C) ∧ cl.slots.size = n.toNatClampNeg ∧ ¬ n < 0 ∧ Ovr Z cl.cls C ∧ ∀ i, i < n.toNatClampNeg → cl.slots[i]? = some (u i)
def upd {A : Type} (u : Nat → A) (k : Nat) (x : A) : Nat → A := fun i => if i = k then x else u i
theorem upd_eq {A : Type} {u : Nat → A} {k i : Nat} {x : A} (q : i = k) : upd u k x i = x := if_pos q
theorem upd_ne {A : Type} {u : Nat → A} {k i : Nat} {x : A} (q : i ≠ k) : upd u k x i = u i := if_neg q
theorem nat_lt {j n : Int32} (q : ¬ j < 0 ∧ j < n) : j.toNatClampNeg < n.toNatClampNeg := by
  have h1 := nat_of q.1
  have h2 : j.toInt < n.toInt := Int32.lt_iff_toInt_lt.mp q.2
  have h3 : ¬ n < 0 := fun r => by
    have r' : n.toInt < 0 := Int32.lt_iff_toInt_lt.mp r
    omega
  have h4 := nat_of h3
  omega
theorem AryI.lt {u : Nat → Int32} (F : AryI Z h a ty n u) : a < h.size := by obtain ⟨_, A, -⟩ := F; exact A.lt
theorem AryJ.lt {u : Nat → Int64} (F : AryJ Z h a n u) : a < h.size := by obtain ⟨_, A, -⟩ := F; exact A.lt
theorem AryR.lt {C : String} {u : Nat → Value} (F : AryR Z h a C n u) : a < h.size := by obtain ⟨_, A, -⟩ := F; exact A.lt
theorem AryI.ext {u : Nat → Int32} (E : Ext h h') (F : AryI Z h a ty n u) : AryI Z h' a ty n u := by obtain ⟨cl, A, r⟩ := F; exact ⟨cl, A.ext E, r⟩
theorem AryJ.ext {u : Nat → Int64} (E : Ext h h') (F : AryJ Z h a n u) : AryJ Z h' a n u := by obtain ⟨cl, A, r⟩ := F; exact ⟨cl, A.ext E, r⟩
theorem AryR.ext {C : String} {u : Nat → Value} (E : Ext h h') (F : AryR Z h a C n u) : AryR Z h' a C n u := by obtain ⟨cl, A, r⟩ := F; exact ⟨cl, A.ext E, r⟩
theorem AryI.other {u : Nat → Int32} (W : Wr h h' b sl v) (F : AryI Z h a ty n u) (q : a ≠ b) : AryI Z h' a ty n u := by obtain ⟨cl, A, r⟩ := F; exact ⟨cl, A.other W q, r⟩
theorem AryJ.other {u : Nat → Int64} (W : Wr h h' b sl v) (F : AryJ Z h a n u) (q : a ≠ b) : AryJ Z h' a n u := by obtain ⟨cl, A, r⟩ := F; exact ⟨cl, A.other W q, r⟩
theorem AryR.other {C : String} {u : Nat → Value} (W : Wr h h' b sl v) (F : AryR Z h a C n u) (q : a ≠ b) : AryR Z h' a C n u := by obtain ⟨cl, A, r⟩ := F; exact ⟨cl, A.other W q, r⟩
theorem AryI.keep {u : Nat → Int32} (F : AryI Z h a ty n u) (K : Keep h h' ws) (q : a ∉ ws) : AryI Z h' a ty n u := by obtain ⟨cl, A, r⟩ := F; exact ⟨cl, ⟨K.2.1 a cl A.1 q, A.2⟩, r⟩
theorem AryJ.keep {u : Nat → Int64} (F : AryJ Z h a n u) (K : Keep h h' ws) (q : a ∉ ws) : AryJ Z h' a n u := by obtain ⟨cl, A, r⟩ := F; exact ⟨cl, ⟨K.2.1 a cl A.1 q, A.2⟩, r⟩
theorem AryR.keep {C : String} {u : Nat → Value} (F : AryR Z h a C n u) (K : Keep h h' ws) (q : a ∉ ws) : AryR Z h' a C n u := by obtain ⟨cl, A, r⟩ := F; exact ⟨cl, ⟨K.2.1 a cl A.1 q, A.2⟩, r⟩
theorem AryI.cast {u u' : Nat → Int32} (F : AryI Z h a ty n u) (q : ∀ i, i < n.toNatClampNeg → u i = u' i) : AryI Z h a ty n u' := by obtain ⟨cl, A, r1, r2, r3⟩ := F; exact ⟨cl, A, r1, r2, fun i hi => by rw [r3 i hi, q i hi]⟩
theorem AryJ.cast {u u' : Nat → Int64} (F : AryJ Z h a n u) (q : ∀ i, i < n.toNatClampNeg → u i = u' i) : AryJ Z h a n u' := by obtain ⟨cl, A, r1, r2, r3⟩ := F; exact ⟨cl, A, r1, r2, fun i hi => by rw [r3 i hi, q i hi]⟩
theorem AryI.new {cA : ClassId} (A : Arr Z h a (newA cA ty n) ty) (q : ¬ n < 0) (d : defaultValue ty = .int 0) : AryI Z h a ty n (fun _ => 0) := ⟨_, A, sz_new _ _ _, q, fun i hi => by simp [newA, d, hi]⟩
theorem AryJ.new {cA : ClassId} (A : Arr Z h a (newA cA .long n) .long) (q : ¬ n < 0) : AryJ Z h a n (fun _ => 0) := ⟨_, A, sz_new _ _ _, q, fun i hi => by
  have d : defaultValue .long = .long 0 := rfl
  simp [newA, d, hi]⟩
theorem AryR.new {C : String} {cA : ClassId} (A : Arr Z h a (newA cA (.object C) n) (.object C)) (O : Ovr Z cA C) (q : ¬ n < 0) : AryR Z h a C n (fun _ => .null) := ⟨_, A, sz_new _ _ _, q, O, fun i hi => by
  have d : defaultValue (.object C) = .null := rfl
  simp [newA, d, hi]⟩
theorem set_at {cl : Cell} {k i : Nat} {w : Value} (hk : k < cl.slots.size) : (cl.setSlot k w).slots[i]? = if i = k then some w else cl.slots[i]? := by
  by_cases q : i = k
  · subst q; simp [Cell.setSlot, hk]
  · rw [if_neg q]; simp [Cell.setSlot, Array.getElem?_setIfInBounds_ne (Ne.symm q)]
theorem AryI.len {u : Nat → Int32} (F : AryI Z h a ty n u) (X : Stand p l e R s m args below meth c T locs cells slots) (hx : p.tables.exec = Jvm.exec) (hZ : Z.Warmed39 s.vm) (eT : T.heap = h) (hg : g.method = m) (hs : g.stack = .ref a :: rest) (hd : decode c.code g.pc = .ok (.arraylength, 1)) (hr : Steps p.tables e below (T.setTop { g with pc := g.pc + 1, stack := .int n :: rest }) target) : Steps p.tables e below (T.setTop g) target := by
  obtain ⟨cl, A, S, N, H⟩ := F
  refine X.arraylength hx (by rw [eT]; exact A.1) (State.isArrayOf_alike hZ.alike A.2.1) hg hs hd _ ?_
  rw [len_of S N]; exact hr
theorem AryJ.len {u : Nat → Int64} (F : AryJ Z h a n u) (X : Stand p l e R s m args below meth c T locs cells slots) (hx : p.tables.exec = Jvm.exec) (hZ : Z.Warmed39 s.vm) (eT : T.heap = h) (hg : g.method = m) (hs : g.stack = .ref a :: rest) (hd : decode c.code g.pc = .ok (.arraylength, 1)) (hr : Steps p.tables e below (T.setTop { g with pc := g.pc + 1, stack := .int n :: rest }) target) : Steps p.tables e below (T.setTop g) target := by
  obtain ⟨cl, A, S, N, H⟩ := F
  refine X.arraylength hx (by rw [eT]; exact A.1) (State.isArrayOf_alike hZ.alike A.2.1) hg hs hd _ ?_
  rw [len_of S N]; exact hr
theorem AryI.loadI {u : Nat → Int32} (F : AryI Z h a .int n u) (X : Stand p l e R s m args below meth c T locs cells slots) (hx : p.tables.exec = Jvm.exec) (hZ : Z.Warmed39 s.vm) (eT : T.heap = h) (q : ¬ j < 0 ∧ j < n) (hg : g.method = m) (hs : g.stack = .int j :: .ref a :: rest) (hd : decode c.code g.pc = .ok (.iaload, 1)) (hr : Steps p.tables e below (T.setTop { g with pc := g.pc + 1, stack := .int (u j.toNatClampNeg) :: rest }) target) : Steps p.tables e below (T.setTop g) target := by
  obtain ⟨cl, A, S, N, H⟩ := F
  exact X.iaload hx (by rw [eT]; exact A.1) (State.isArrayOf_alike hZ.alike A.2.1) A.2.2 (inb_of S q) (H _ (nat_lt q)) hg hs hd _ hr
theorem AryI.loadB {u : Nat → Int32} (F : AryI Z h a .byte n u) (X : Stand p l e R s m args below meth c T locs cells slots) (hx : p.tables.exec = Jvm.exec) (hZ : Z.Warmed39 s.vm) (eT : T.heap = h) (q : ¬ j < 0 ∧ j < n) (hg : g.method = m) (hs : g.stack = .int j :: .ref a :: rest) (hd : decode c.code g.pc = .ok (.baload, 1)) (hr : Steps p.tables e below (T.setTop { g with pc := g.pc + 1, stack := .int (u j.toNatClampNeg) :: rest }) target) : Steps p.tables e below (T.setTop g) target := by
  obtain ⟨cl, A, S, N, H⟩ := F
  exact X.baloadBytes hx (by rw [eT]; exact A.1) (State.isArrayOf_alike hZ.alike A.2.1) A.2.2 (inb_of S q) (H _ (nat_lt q)) hg hs hd _ hr
theorem AryI.loadZ {u : Nat → Int32} (F : AryI Z h a .boolean n u) (X : Stand p l e R s m args below meth c T locs cells slots) (hx : p.tables.exec = Jvm.exec) (hZ : Z.Warmed39 s.vm) (eT : T.heap = h) (q : ¬ j < 0 ∧ j < n) (hg : g.method = m) (hs : g.stack = .int j :: .ref a :: rest) (hd : decode c.code g.pc = .ok (.baload, 1)) (hr : Steps p.tables e below (T.setTop { g with pc := g.pc + 1, stack := .int (u j.toNatClampNeg) :: rest }) target) : Steps p.tables e below (T.setTop g) target := by
  obtain ⟨cl, A, S, N, H⟩ := F
  exact X.baloadBooleans hx (by rw [eT]; exact A.1) (State.isArrayOf_alike hZ.alike A.2.1) A.2.2 (inb_of S q) (H _ (nat_lt q)) hg hs hd _ hr
theorem AryJ.load {u : Nat → Int64} (F : AryJ Z h a n u) (X : Stand p l e R s m args below meth c T locs cells slots) (hx : p.tables.exec = Jvm.exec) (hZ : Z.Warmed39 s.vm) (eT : T.heap = h) (q : ¬ j < 0 ∧ j < n) (hg : g.method = m) (hs : g.stack = .int j :: .ref a :: rest) (hd : decode c.code g.pc = .ok (.laload, 1)) (hr : Steps p.tables e below (T.setTop { g with pc := g.pc + 1, stack := .long (u j.toNatClampNeg) :: rest }) target) : Steps p.tables e below (T.setTop g) target := by
  obtain ⟨cl, A, S, N, H⟩ := F
  exact X.laload hx (by rw [eT]; exact A.1) (State.isArrayOf_alike hZ.alike A.2.1) A.2.2 (inb_of S q) (H _ (nat_lt q)) hg hs hd _ hr
theorem AryR.load {C : String} {u : Nat → Value} (F : AryR Z h a C n u) (X : Stand p l e R s m args below meth c T locs cells slots) (hx : p.tables.exec = Jvm.exec) (hZ : Z.Warmed39 s.vm) (eT : T.heap = h) (q : ¬ j < 0 ∧ j < n) (hg : g.method = m) (hs : g.stack = .int j :: .ref a :: rest) (hd : decode c.code g.pc = .ok (.aaload, 1)) (hr : Steps p.tables e below (T.setTop { g with pc := g.pc + 1, stack := u j.toNatClampNeg :: rest }) target) : Steps p.tables e below (T.setTop g) target := by
  obtain ⟨cl, A, S, N, O, H⟩ := F
  exact X.aaload hx (by rw [eT]; exact A.1) (State.isArrayOf_alike hZ.alike A.2.1) rfl A.2.2 (inb_of S q) (H _ (nat_lt q)) hg hs hd _ hr
theorem AryI.put {u : Nat → Int32} {cl : Cell} (A : Arr Z h a cl ty) (S : cl.slots.size = n.toNatClampNeg) (N : ¬ n < 0) (H : ∀ i, i < n.toNatClampNeg → cl.slots[i]? = some (.int (u i))) (q : ¬ j < 0 ∧ j < n) (W : Wr h h' a j.toNatClampNeg (.int x)) : AryI Z h' a ty n (upd u j.toNatClampNeg x) := by
  refine ⟨_, A.same W, by rw [sz_set]; exact S, N, fun i hi => ?_⟩
  rw [set_at (by rw [S]; exact nat_lt q)]
  by_cases r : i = j.toNatClampNeg
  · rw [if_pos r, upd_eq r]
  · rw [if_neg r, upd_ne r]; exact H i hi
theorem AryI.stI {u : Nat → Int32} (F : AryI Z h a .int n u) (X : Stand p l e R s m args below meth c T locs cells slots) (hx : p.tables.exec = Jvm.exec) (hZ : Z.Warmed39 s.vm) (eT : T.heap = h) (q : ¬ j < 0 ∧ j < n) (hg : g.method = m) (hs : g.stack = .int x :: .int j :: .ref a :: rest) (hd : decode c.code g.pc = .ok (.iastore, 1)) :
    ∃ T' h', Stand p l e R s m args below meth c T' (locs ++ [⟨a, j.toNatClampNeg⟩]) cells slots ∧ T'.heap = h' ∧ Wr h h' a j.toNatClampNeg (.int x) ∧ AryI Z h' a .int n (upd u j.toNatClampNeg x) ∧ ∀ target, Steps p.tables e below (T'.setTop { g with pc := g.pc + 1, stack := rest }) target → Steps p.tables e below (T.setTop g) target := by
  obtain ⟨cl, A, S, N, H⟩ := F
  obtain ⟨T', h', X', e', W, st⟩ := Jvm.RoadKit.stI X hx hZ eT A (inb_of S q) hg hs hd
  exact ⟨T', h', X', e', W, AryI.put A S N H q W, st⟩
theorem AryI.stB {u : Nat → Int32} (F : AryI Z h a .byte n u) (X : Stand p l e R s m args below meth c T locs cells slots) (hx : p.tables.exec = Jvm.exec) (hZ : Z.Warmed39 s.vm) (eT : T.heap = h) (q : ¬ j < 0 ∧ j < n) (hg : g.method = m) (hs : g.stack = .int x :: .int j :: .ref a :: rest) (hd : decode c.code g.pc = .ok (.bastore, 1)) :
    ∃ T' h', Stand p l e R s m args below meth c T' (locs ++ [⟨a, j.toNatClampNeg⟩]) cells slots ∧ T'.heap = h' ∧ Wr h h' a j.toNatClampNeg (.int (nar .byte x)) ∧ AryI Z h' a .byte n (upd u j.toNatClampNeg (nar .byte x)) ∧ ∀ target, Steps p.tables e below (T'.setTop { g with pc := g.pc + 1, stack := rest }) target → Steps p.tables e below (T.setTop g) target := by
  obtain ⟨cl, A, S, N, H⟩ := F
  obtain ⟨T', h', X', e', W, st⟩ := Jvm.RoadKit.stB X hx hZ eT A (inb_of S q) hg hs hd
  exact ⟨T', h', X', e', W, AryI.put A S N H q W, st⟩
theorem AryJ.st {u : Nat → Int64} {y : Int64} (F : AryJ Z h a n u) (X : Stand p l e R s m args below meth c T locs cells slots) (hx : p.tables.exec = Jvm.exec) (hZ : Z.Warmed39 s.vm) (eT : T.heap = h) (q : ¬ j < 0 ∧ j < n) (hg : g.method = m) (hs : g.stack = .long y :: .int j :: .ref a :: rest) (hd : decode c.code g.pc = .ok (.lastore, 1)) :
    ∃ T' h', Stand p l e R s m args below meth c T' (locs ++ [⟨a, j.toNatClampNeg⟩]) cells slots ∧ T'.heap = h' ∧ Wr h h' a j.toNatClampNeg (.long y) ∧ AryJ Z h' a n (upd u j.toNatClampNeg y) ∧ ∀ target, Steps p.tables e below (T'.setTop { g with pc := g.pc + 1, stack := rest }) target → Steps p.tables e below (T.setTop g) target := by
  obtain ⟨cl, A, S, N, H⟩ := F
  obtain ⟨T', h', X', e', W, st⟩ := Jvm.RoadKit.stJ X hx hZ eT A (inb_of S q) hg hs hd
  refine ⟨T', h', X', e', W, ⟨_, A.same W, by rw [sz_set]; exact S, N, fun i hi => ?_⟩, st⟩
  rw [set_at (by rw [S]; exact nat_lt q)]
  by_cases r : i = j.toNatClampNeg
  · rw [if_pos r, upd_eq r]
  · rw [if_neg r, upd_ne r]; exact H i hi
theorem AryR.st {C : String} {u : Nat → Value} (F : AryR Z h a C n u) (X : Stand p l e R s m args below meth c T locs cells slots) (hx : p.tables.exec = Jvm.exec) (hZ : Z.Warmed39 s.vm) (eT : T.heap = h) (q : ¬ j < 0 ∧ j < n) (hI : v = .null ∨ ∃ y, v = .ref y ∧ Ins Z h y C true) (hg : g.method = m) (hs : g.stack = v :: .int j :: .ref a :: rest) (hd : decode c.code g.pc = .ok (.aastore, 1)) :
    ∃ T' h', Stand p l e R s m args below meth c T' (locs ++ [⟨a, j.toNatClampNeg⟩]) cells slots ∧ T'.heap = h' ∧ Wr h h' a j.toNatClampNeg v ∧ AryR Z h' a C n (upd u j.toNatClampNeg v) ∧ ∀ target, Steps p.tables e below (T'.setTop { g with pc := g.pc + 1, stack := rest }) target → Steps p.tables e below (T.setTop g) target := by
  obtain ⟨cl, A, S, N, O, H⟩ := F
  have hS : Sto Z h a v := by
    rcases hI with r | ⟨y, rfl, r⟩
    · exact Or.inl r
    · exact Sto.of A O r
  obtain ⟨T', h', X', e', W, st⟩ := Jvm.RoadKit.stR X hx hZ eT A (inb_of S q) rfl hS hg hs hd
  refine ⟨T', h', X', e', W, ⟨_, A.same W, by rw [sz_set]; exact S, N, O, fun i hi => ?_⟩, st⟩
  rw [set_at (by rw [S]; exact nat_lt q)]
  by_cases r : i = j.toNatClampNeg
  · rw [if_pos r, upd_eq r]
  · rw [if_neg r, upd_ne r]; exact H i hi
end Arrays
section Own
variable {p : Program} {l : Launch} {e : Env} {R : Room} {s : State} {m : MethodId} {args : Array Value} {below : List Frame} {meth : Method} {c : Code} {T : State} {locs : List Loc} {cells slots : Nat} {Z : State} {a0 : Array Value} {h h' : Heap} {g : JFrame}
/-- a lookupswitch that finds its key -/
theorem lswHit (X : Stand p l e R s m args below meth c T locs cells slots) (hx : p.tables.exec = Jvm.exec) (hg : g.method = m) {pc0 pc' : Nat} (hpc : g.pc = pc0) {k : Int32} {rest : List Value} {default : Int} {pairs : Array (Int × Int)} {len : Nat} (hdg : decode c.code g.pc = .ok (.lookupswitch default pairs, len)) (hstack : g.stack = .int k :: rest)
    (hsorted : (pairs.toList.zip (pairs.toList.drop 1)).all (fun (a, next) => a.1 < next.1) = true) {a off : Int} (hfind : pairs.find? (·.1 == k.toInt) = some (a, off)) (hoff : 0 ≤ (pc0 : Int) + off) (hp : ((pc0 : Int) + off).toNat = pc') {target : State} (hr : Steps p.tables e below (T.setTop { g with pc := pc', stack := rest }) target) : Steps p.tables e below (T.setTop g) target := by
  subst hpc hp
  exact X.lookupswitchHit hx hg hstack hdg hsorted hfind hoff target hr
/-- a class whose chain of superclasses ends ahead of K -/
theorem ns_root {O K : String} {n : Nat} (w : (Jvm.Cond.noSuperclass O).before a0 Z = true) (wk : (Jvm.Cond.instantiable K n).before a0 Z = true) (hn : O ≠ K) : NS Z O K := by
  obtain ⟨c, k, h1, h2, h3, -, -⟩ := Cond.noSuperclass_spec w
  obtain ⟨t, kt, g1, -⟩ := Cond.instantiable_spec wk
  have ne := ids_ne h1 g1 hn
  refine ⟨c, t, h1, g1, fun fuel => ?_⟩
  cases fuel with
  | zero => rfl
  | succ f => simp [Vm.isSubclassAux, ne, h2, h3]
theorem ns_no {C S K : String} {n : Nat} (w : (Jvm.Cond.superclass C S).before a0 Z = true) (wk : (Jvm.Cond.instantiable K n).before a0 Z = true) (q : NS Z C K) (hn : C ≠ K) : ∃ c t, Z.vm.findClass C = some c ∧ Z.vm.findClass K = some t ∧ Z.vm.assignable c t = false := by
  obtain ⟨c, t, h0, g0, n3⟩ := q
  obtain ⟨p, k, kp, h1, h2, h3, h4, h5, -, h7⟩ := Cond.superclass_spec h0 w
  obtain ⟨t', kt, g1, g2, g3, g4, -⟩ := Cond.instantiable_spec wk
  cases g0.symm.trans g1
  have ne := ids_ne h0 g0 hn
  have g5 : kt.isInterface = false := (Bool.or_eq_false_iff.mp g4).1
  refine ⟨c, t, h0, g0, ?_⟩
  show Z.vm.assignableAux (255 + 1) c t = false
  simp [Vm.assignableAux, ne, h2, g2, h5, g3, g5, Vm.isSubclass, n3]
/-- the cache of Integers -/
def CacheQ (Z : State) (h : Heap) (ca : Addr) : Prop := ∃ cl : Cell, Arr Z h ca cl (.object "java/lang/Integer") ∧ cl.slots.size = (256 : Int32).toNatClampNeg ∧ ∀ i, i < (256 : Int32).toNatClampNeg → ∃ b, cl.slots[i]? = some (.ref b) ∧ Exa Z h b "java/lang/Integer"
theorem CacheQ.ext {ca : Addr} (E : Ext h h') (F : CacheQ Z h ca) : CacheQ Z h' ca := by
  obtain ⟨cl, A, S, H⟩ := F
  exact ⟨cl, A.ext E, S, fun i hi => by obtain ⟨b, h1, h2⟩ := H i hi; exact ⟨b, h1, h2.ext E⟩⟩
theorem CacheQ.load {ca : Addr} {j : Int32} {rest : List Value} (F : CacheQ Z h ca) (X : Stand p l e R s m args below meth c T locs cells slots) (hx : p.tables.exec = Jvm.exec) (hZ : Z.Warmed39 s.vm) (eT : T.heap = h) (q : ¬ j < 0 ∧ j < (256 : Int32)) (hg : g.method = m) (hs : g.stack = .int j :: .ref ca :: rest) (hd : decode c.code g.pc = .ok (.aaload, 1)) :
    ∃ b, Exa Z h b "java/lang/Integer" ∧ ∀ target, Steps p.tables e below (T.setTop { g with pc := g.pc + 1, stack := .ref b :: rest }) target → Steps p.tables e below (T.setTop g) target := by
  obtain ⟨cl, A, S, H⟩ := F
  obtain ⟨b, h1, h2⟩ := H _ (nat_lt q)
  exact ⟨b, h2, fun target hr => X.aaload hx (by rw [eT]; exact A.1) (State.isArrayOf_alike hZ.alike A.2.1) rfl A.2.2 (inb_of S q) h1 hg hs hd _ hr⟩
end Own
theorem own_ci {x : Int32} (h1 : ¬ x < (-128 : Int32)) (h2 : ¬ (127 : Int32) < x) : ¬ (x + (128 : Int32)) < 0 ∧ (x + (128 : Int32)) < (256 : Int32) := by
  rw [Int32.lt_iff_toInt_lt] at h1 h2
  have t1 : (-128 : Int32).toInt = -128 := rfl
  have t2 : (127 : Int32).toInt = 127 := rfl
  have e : (x + (128 : Int32)).toInt = x.toInt + 128 := by
    have t3 : (128 : Int32).toInt = 128 := rfl
    rw [Int32.toInt_add, t3]
    exact Int.bmod_eq_of_le (by omega) (by omega)
  rw [Int32.lt_iff_toInt_lt, Int32.lt_iff_toInt_lt, e]
  have t4 : (0 : Int32).toInt = 0 := rfl
  have t5 : (256 : Int32).toInt = 256 := rfl
  omega
def own_u (c : Int32) : Nat → Int32 := upd (fun _ => 0) 0 (nar .byte c.toInt8.toInt32)
def small (x : Int32) : Prop := ¬ x < 0 ∧ x < (16 : Int32)
theorem own_cases {x : Int32} (h : small x) : x = 0 ∨ x = 1 ∨ x = 2 ∨ x = 3 ∨ x = 4 ∨ x = 5 ∨ x = 6 ∨ x = 7 ∨ x = 8 ∨ x = 9 ∨ x = 10 ∨ x = 11 ∨ x = 12 ∨ x = 13 ∨ x = 14 ∨ x = 15 := by
  obtain ⟨h1, h2⟩ := h
  rw [Int32.lt_iff_toInt_lt] at h1 h2
  simp only [← Int32.toInt_inj]
  have a0 : (0 : Int32).toInt = 0 := rfl
  have a1 : (1 : Int32).toInt = 1 := rfl
  have a2 : (2 : Int32).toInt = 2 := rfl
  have a3 : (3 : Int32).toInt = 3 := rfl
  have a4 : (4 : Int32).toInt = 4 := rfl
  have a5 : (5 : Int32).toInt = 5 := rfl
  have a6 : (6 : Int32).toInt = 6 := rfl
  have a7 : (7 : Int32).toInt = 7 := rfl
  have a8 : (8 : Int32).toInt = 8 := rfl
  have a9 : (9 : Int32).toInt = 9 := rfl
  have b0 : (10 : Int32).toInt = 10 := rfl
  have b1 : (11 : Int32).toInt = 11 := rfl
  have b2 : (12 : Int32).toInt = 12 := rfl
  have b3 : (13 : Int32).toInt = 13 := rfl
  have b4 : (14 : Int32).toInt = 14 := rfl
  have b5 : (15 : Int32).toInt = 15 := rfl
  have b6 : (16 : Int32).toInt = 16 := rfl
  omega
theorem own_sm (x : Int32) : small (x &&& (15 : Int32)) := by
  have m := c_mask x 15 4 (by decide) (by decide)
  have t0 : (0 : Int32).toInt = 0 := rfl
  have t1 : (16 : Int32).toInt = 16 := rfl
  unfold small
  rw [Int32.lt_iff_toInt_lt, Int32.lt_iff_toInt_lt]
  omega
theorem own_c {x : Int32} (h : small x) : ¬ (255 : Int32) < x.toUInt32.toUInt16.toUInt32.toInt32 := by
  rcases own_cases h with rfl | rfl | rfl | rfl | rfl | rfl | rfl | rfl | rfl | rfl | rfl | rfl | rfl | rfl | rfl | rfl <;> decide

theorem d1_0 : decode prog_34_method_1_code 0 = .ok (.aload_n 0, 1) := by decide +kernel
theorem d1_1 : decode prog_34_method_1_code 1 = .ok (.invokespecial 1, 3) := by decide +kernel
theorem d1_4 : decode prog_34_method_1_code 4 = .ok (.return_, 1) := by decide +kernel
theorem pn_0 : plainName "com/example/framewire/framewire/bench/Tally" = true := by first | (simp [plainName, overriddenIn]; done) | decide +kernel
theorem ef1 (m : MethodId) (x0 : Addr) : entryFrame m #[(.ref x0)] 1 = mkF m 0 #[.val (.ref x0)] [] := by first | (simp [entryFrame, mkF, argsToLocals, Value.category]; done) | rfl
set_option maxRecDepth 65536 in
set_option maxHeartbeats 40000000 in
theorem rm1 (l : Launch) (Z : State) (a0 : Array Value) (hw : ∀ d ∈ tables_1, d.before a0 Z = true) (ws : List Jvm.Cond) (o0 : Addr) (h0 : Heap) (n0 : Nat) (Z0 : n0 ≤ h0.size) :
    Cmet l Z (⟨"com/example/framewire/framewire/bench/Tally", "<init>", "()V"⟩ : MethodName) prog_34_method_1_code 1 none ws ({ frames := 1, cells := 0, slots := 0, locals := 12 } : Room) #[(.ref o0)] h0 (fun v h' L => v = none ∧ h' = h0 ∧ L = []) := by
  refine MetFree.of_bodySF (plainFor_of_name pn_0) hisR ?_
  intro p e s m args below meth c s₁ Bd hml0 hP hK
  obtain ⟨rfl, hZ, hh⟩ := hP
  have hx := Bd.exec
  have hlk : meth.locks = false := BodyLoose.notSynchronized Bd
  have hby := Bd.bytes
  have hml : c.maxLocals = 1 := hml0
  have hown : s.vm.findClass "com/example/framewire/framewire/bench/Tally" = some m.cls := findClass_of_methodNamed Bd.named
  have hnm := (name_of_methodNamed Bd.named Bd.method).1
  have X0 : Stand p l e ({ frames := 1, cells := 0, slots := 0, locals := 12 } : Room) s m #[(.ref o0)] below meth c s₁ [] 0 0 := Stand.of_body Bd
  have e0 : s₁.heap = h0 := by rw [← hh, Bd.state]; rfl
  have N0 := Fr.nil n0
  show Fini p e below s (fun v h' L => v = none ∧ h' = h0 ∧ L = []) _ _ s₁ (entryFrame m #[(.ref o0)] 1)
  refine Fini.cast (ef1 m o0) ?_
  show Fini p e below s _ _ _ s₁ (mkF m 0 #[.val (.ref o0)] [])
  refine Fini.st (fun _ k => XS.aloadN X0.here hx rfl (hb hby d1_0) rfl rfl k) ?_
  show Fini p e below s _ _ _ s₁ (mkF m 1 #[.val (.ref o0)] [(.ref o0)])
  obtain ⟨T1, X1, e1, st1⟩ := initO X0 hx hZ hown (hw _ (List.mem_of_getElem? (i := 6) rfl)) (hw _ (List.mem_of_getElem? (i := 7) rfl)) (hw _ (List.mem_of_getElem? (i := 8) rfl)) e0 (g := (mkF m 1 #[.val (.ref o0)] [(.ref o0)])) rfl (by rw [hml]; rfl) rfl (hb hby d1_1) (by decide) (W := 0) (by show 2 * 0 + _ ≤ _; exact Nat.le_of_eq rfl) (by decide)
  refine Fini.st st1 ?_
  show Fini p e below s _ _ _ T1 (mkF m 4 #[.val (.ref o0)] [])
  exact Fini.ret0 X1 hx hlk Bd.returns (hb hby d1_4) (by decide) (by decide) ⟨rfl, e1, rfl⟩
theorem d15_0 : decode jdk_18_method_1_code 0 = .ok (.aload_n 0, 1) := by decide +kernel
theorem d15_1 : decode jdk_18_method_1_code 1 = .ok (.invokespecial 1, 3) := by decide +kernel
theorem d15_4 : decode jdk_18_method_1_code 4 = .ok (.return_, 1) := by decide +kernel
theorem pn_1 : plainName "java/lang/Number" = true := by first | (simp [plainName, overriddenIn]; done) | decide +kernel
theorem ef15 (m : MethodId) (x0 : Addr) : entryFrame m #[(.ref x0)] 1 = mkF m 0 #[.val (.ref x0)] [] := by first | (simp [entryFrame, mkF, argsToLocals, Value.category]; done) | rfl
set_option maxRecDepth 65536 in
set_option maxHeartbeats 40000000 in
theorem rm15 (l : Launch) (Z : State) (a0 : Array Value) (hw : ∀ d ∈ tables_1, d.before a0 Z = true) (ws : List Jvm.Cond) (o0 : Addr) (h0 : Heap) (n0 : Nat) (Z0 : n0 ≤ h0.size) :
    Cmet l Z (⟨"java/lang/Number", "<init>", "()V"⟩ : MethodName) jdk_18_method_1_code 1 none ws ({ frames := 1, cells := 0, slots := 0, locals := 12 } : Room) #[(.ref o0)] h0 (fun v h' L => v = none ∧ h' = h0 ∧ L = []) := by
  refine MetFree.of_bodySF (plainFor_of_name pn_1) hisR ?_
  intro p e s m args below meth c s₁ Bd hml0 hP hK
  obtain ⟨rfl, hZ, hh⟩ := hP
  have hx := Bd.exec
  have hlk : meth.locks = false := BodyLoose.notSynchronized Bd
  have hby := Bd.bytes
  have hml : c.maxLocals = 1 := hml0
  have hown : s.vm.findClass "java/lang/Number" = some m.cls := findClass_of_methodNamed Bd.named
  have hnm := (name_of_methodNamed Bd.named Bd.method).1
  have X0 : Stand p l e ({ frames := 1, cells := 0, slots := 0, locals := 12 } : Room) s m #[(.ref o0)] below meth c s₁ [] 0 0 := Stand.of_body Bd
  have e0 : s₁.heap = h0 := by rw [← hh, Bd.state]; rfl
  have N0 := Fr.nil n0
  show Fini p e below s (fun v h' L => v = none ∧ h' = h0 ∧ L = []) _ _ s₁ (entryFrame m #[(.ref o0)] 1)
  refine Fini.cast (ef15 m o0) ?_
  show Fini p e below s _ _ _ s₁ (mkF m 0 #[.val (.ref o0)] [])
  refine Fini.st (fun _ k => XS.aloadN X0.here hx rfl (hb hby d15_0) rfl rfl k) ?_
  show Fini p e below s _ _ _ s₁ (mkF m 1 #[.val (.ref o0)] [(.ref o0)])
  obtain ⟨T1, X1, e1, st1⟩ := initO X0 hx hZ hown (hw _ (List.mem_of_getElem? (i := 94) rfl)) (hw _ (List.mem_of_getElem? (i := 7) rfl)) (hw _ (List.mem_of_getElem? (i := 8) rfl)) e0 (g := (mkF m 1 #[.val (.ref o0)] [(.ref o0)])) rfl (by rw [hml]; rfl) rfl (hb hby d15_1) (by decide) (W := 0) (by show 2 * 0 + _ ≤ _; exact Nat.le_of_eq rfl) (by decide)
  refine Fini.st st1 ?_
  show Fini p e below s _ _ _ T1 (mkF m 4 #[.val (.ref o0)] [])
  exact Fini.ret0 X1 hx hlk Bd.returns (hb hby d15_4) (by decide) (by decide) ⟨rfl, e1, rfl⟩
theorem pd_0 : parseMethodDescriptor "()V" = some ⟨[], none⟩ := by decide +kernel
theorem d14_0 : decode jdk_33_method_23_code 0 = .ok (.aload_n 0, 1) := by decide +kernel
theorem d14_1 : decode jdk_33_method_23_code 1 = .ok (.invokespecial 202, 3) := by decide +kernel
theorem d14_4 : decode jdk_33_method_23_code 4 = .ok (.aload_n 0, 1) := by decide +kernel
theorem d14_5 : decode jdk_33_method_23_code 5 = .ok (.iload_n 1, 1) := by decide +kernel
theorem d14_6 : decode jdk_33_method_23_code 6 = .ok (.putfield 205, 3) := by decide +kernel
theorem d14_9 : decode jdk_33_method_23_code 9 = .ok (.return_, 1) := by decide +kernel
theorem pn_2 : plainName "java/lang/Integer" = true := by first | (simp [plainName, overriddenIn]; done) | decide +kernel
theorem ef14 (m : MethodId) (x0 : Addr) (x1 : Int32) : entryFrame m #[(.ref x0), (.int x1)] 2 = mkF m 0 #[.val (.ref x0), .val (.int x1)] [] := by first | (simp [entryFrame, mkF, argsToLocals, Value.category]; done) | rfl
set_option maxRecDepth 65536 in
set_option maxHeartbeats 40000000 in
theorem rm14 (l : Launch) (Z : State) (a0 : Array Value) (hw : ∀ d ∈ tables_1, d.before a0 Z = true) (ws : List Jvm.Cond) (o0 : Addr) (p1 : Int32) (x : Int32) (h0 : Heap) (n0 : Nat) (Z0 : n0 ≤ h0.size) (E_o0 : Exa Z h0 o0 "java/lang/Integer") (F_v : Fld Z h0 o0 "java/lang/Integer" "value" "I" (.int x)) (g0 : n0 ≤ o0) :
    Cmet l Z (⟨"java/lang/Integer", "<init>", "(I)V"⟩ : MethodName) jdk_33_method_23_code 2 none ws ({ frames := 2, cells := 0, slots := 0, locals := 24 } : Room) #[(.ref o0), (.int p1)] h0 (fun v h' L => v = none ∧ Fr n0 L ∧ Keep h0 h' [o0]) := by
  refine MetFree.of_bodySF (plainFor_of_name pn_2) hisR ?_
  intro p e s m args below meth c s₁ Bd hml0 hP hK
  obtain ⟨rfl, hZ, hh⟩ := hP
  have hx := Bd.exec
  have hlk : meth.locks = false := BodyLoose.notSynchronized Bd
  have hby := Bd.bytes
  have hml : c.maxLocals = 2 := hml0
  have hown : s.vm.findClass "java/lang/Integer" = some m.cls := findClass_of_methodNamed Bd.named
  have hnm := (name_of_methodNamed Bd.named Bd.method).1
  have X0 : Stand p l e ({ frames := 2, cells := 0, slots := 0, locals := 24 } : Room) s m #[(.ref o0), (.int p1)] below meth c s₁ [] 0 0 := Stand.of_body Bd
  have e0 : s₁.heap = h0 := by rw [← hh, Bd.state]; rfl
  have N0 := Fr.nil n0
  show Fini p e below s (fun v h' L => v = none ∧ Fr n0 L ∧ Keep h0 h' [o0]) _ _ s₁ (entryFrame m #[(.ref o0), (.int p1)] 2)
  refine Fini.cast (ef14 m o0 p1) ?_
  show Fini p e below s _ _ _ s₁ (mkF m 0 #[.val (.ref o0), .val (.int p1)] [])
  refine Fini.st (fun _ k => XS.aloadN X0.here hx rfl (hb hby d14_0) rfl rfl k) ?_
  show Fini p e below s _ _ _ s₁ (mkF m 1 #[.val (.ref o0), .val (.int p1)] [(.ref o0)])
  obtain ⟨v1, T1, L1, X1, hQ1, st1⟩ := callNew X0 hx hZ hown rfl (hw _ (List.mem_of_getElem? (i := 88) rfl)) (hw _ (List.mem_of_getElem? (i := 89) rfl)) (hw _ (List.mem_of_getElem? (i := 92) rfl)) (hw _ (List.mem_of_getElem? (i := 93) rfl)) (by decide) (rm15 l Z a0 hw [] o0 h0 n0 Z0) e0 (W := 0) (by decide) (by decide) (by decide) (by decide) (g := (mkF m 1 #[.val (.ref o0), .val (.int p1)] [(.ref o0)])) rfl (by rw [hml]; rfl) (argsL := []) (rest := []) rfl (lenOf pd_0 rfl) rfl (by show 2 * 0 + _ ≤ _; exact Nat.le_of_eq rfl) (hb hby d14_1)
  obtain ⟨rfl, hh1, rfl⟩ := hQ1
  have K1 : Keep h0 T1.heap [] := by rw [hh1]; exact Keep.refl _ _
  have Nq1 := Fr.nil n0
  have N1 := Fr.app N0 Nq1
  refine Fini.st st1 ?_
  show Fini p e below s _ _ _ T1 (mkF m 4 #[.val (.ref o0), .val (.int p1)] [])
  refine Fini.st (fun _ k => XS.aloadN X1.here hx rfl (hb hby d14_4) rfl rfl k) ?_
  show Fini p e below s _ _ _ T1 (mkF m 5 #[.val (.ref o0), .val (.int p1)] [(.ref o0)])
  refine Fini.st (fun _ k => XS.iloadN X1.here hx rfl (hb hby d14_5) rfl k) ?_
  show Fini p e below s _ _ _ T1 (mkF m 6 #[.val (.ref o0), .val (.int p1)] [(.int p1), (.ref o0)])
  have F_3 : Fld Z T1.heap o0 "java/lang/Integer" "value" "I" (.int x) := (F_v.keep K1 nin0)
  have Ex_4 : Exa Z T1.heap o0 "java/lang/Integer" := (E_o0.keep K1)
  obtain ⟨T2, h2, X2, e2, W2, st2⟩ := putF X1 hx hZ hown (host := "") (Or.inl (hw _ (List.mem_of_getElem? (i := 95) rfl))) Via.refl rfl F_3 Ex_4 (Or.inr ⟨(hw _ (List.mem_of_getElem? (i := 96) rfl)), rfl, hnm⟩) (hw _ (List.mem_of_getElem? (i := 83) rfl)) (ty := .int) (by decide) rfl rfl (g := (mkF m 6 #[.val (.ref o0), .val (.int p1)] [(.int p1), (.ref o0)])) rfl rfl (hb hby d14_6)
  have Fw2 : Fld Z h2 o0 "java/lang/Integer" "value" "I" (.int p1) := F_3.same W2
  refine Fini.st st2 ?_
  have N2 := Fr.snoc X2 N1 g0
  show Fini p e below s _ _ _ T2 (mkF m 9 #[.val (.ref o0), .val (.int p1)] [])
  have Kp_5 : Keep h0 h2 [o0] := (Keep.wr (Keep.trans (Keep.refl h0 [o0]) K1 all0) W2 (Or.inl (List.mem_of_getElem? (i := 0) rfl)))
  exact Fini.ret0 X2 hx hlk Bd.returns (hb hby d14_9) (by decide) (by decide) ⟨rfl, N2, (by rw [e2]; exact Kp_5)⟩
theorem pd_1 : parseMethodDescriptor "(I)V" = some ⟨[.int], none⟩ := by decide +kernel
theorem d4_0 : decode jdk_33_method_22_code 0 = .ok (.iload_n 0, 1) := by decide +kernel
theorem d4_1 : decode jdk_33_method_22_code 1 = .ok (.bipush (-128), 2) := by decide +kernel
theorem d4_3 : decode jdk_33_method_22_code 3 = .ok (.if_icmp .lt 20, 3) := by decide +kernel
theorem d4_6 : decode jdk_33_method_22_code 6 = .ok (.iload_n 0, 1) := by decide +kernel
theorem d4_7 : decode jdk_33_method_22_code 7 = .ok (.getstatic 191, 3) := by decide +kernel
theorem d4_10 : decode jdk_33_method_22_code 10 = .ok (.if_icmp .gt 13, 3) := by decide +kernel
theorem d4_13 : decode jdk_33_method_22_code 13 = .ok (.getstatic 195, 3) := by decide +kernel
theorem d4_16 : decode jdk_33_method_22_code 16 = .ok (.iload_n 0, 1) := by decide +kernel
theorem d4_17 : decode jdk_33_method_22_code 17 = .ok (.sipush 128, 3) := by decide +kernel
theorem d4_20 : decode jdk_33_method_22_code 20 = .ok (.iadd, 1) := by decide +kernel
theorem d4_21 : decode jdk_33_method_22_code 21 = .ok (.aaload, 1) := by decide +kernel
theorem d4_22 : decode jdk_33_method_22_code 22 = .ok (.areturn, 1) := by decide +kernel
theorem d4_23 : decode jdk_33_method_22_code 23 = .ok (.new 1, 3) := by decide +kernel
theorem d4_26 : decode jdk_33_method_22_code 26 = .ok (.dup, 1) := by decide +kernel
theorem d4_27 : decode jdk_33_method_22_code 27 = .ok (.iload_n 0, 1) := by decide +kernel
theorem d4_28 : decode jdk_33_method_22_code 28 = .ok (.invokespecial 199, 3) := by decide +kernel
theorem d4_31 : decode jdk_33_method_22_code 31 = .ok (.areturn, 1) := by decide +kernel
theorem ef4 (m : MethodId) (x0 : Int32) : entryFrame m #[(.int x0)] 1 = mkF m 0 #[.val (.int x0)] [] := by first | (simp [entryFrame, mkF, argsToLocals, Value.category]; done) | rfl
set_option maxRecDepth 65536 in
set_option maxHeartbeats 40000000 in
theorem rm4 (l : Launch) (Z : State) (a0 : Array Value) (hw : ∀ d ∈ tables_1, d.before a0 Z = true) (ws : List Jvm.Cond) (p0 : Int32) (ca : Addr) (h0 : Heap) (n0 : Nat) (Z0 : n0 ≤ h0.size) (D0 : Old Z n0 h0) (S_hi : Sta Z Z.heap "java/lang/Integer$IntegerCache" "high" "I" (.int (127 : Int32))) (S_ca : Sta Z Z.heap "java/lang/Integer$IntegerCache" "cache" "[Ljava/lang/Integer;" (.ref ca)) (hC : CacheQ Z Z.heap ca) :
    Cmet l Z (⟨"java/lang/Integer", "valueOf", "(I)Ljava/lang/Integer;"⟩ : MethodName) jdk_33_method_22_code 1 (some (.object "java/lang/Integer")) ws ({ frames := 3, cells := 1, slots := 1, locals := 38 } : Room) #[(.int p0)] h0 (fun v h' L => ∃ b, v = some (.ref b) ∧ Fr n0 L ∧ Keep h0 h' [] ∧ Exa Z h' b "java/lang/Integer") := by
  refine MetFree.of_bodySF (plainFor_of_name pn_2) hisR ?_
  intro p e s m args below meth c s₁ Bd hml0 hP hK
  obtain ⟨rfl, hZ, hh⟩ := hP
  have hx := Bd.exec
  have hlk : meth.locks = false := BodyLoose.notSynchronized Bd
  have hby := Bd.bytes
  have hml : c.maxLocals = 1 := hml0
  have hown : s.vm.findClass "java/lang/Integer" = some m.cls := findClass_of_methodNamed Bd.named
  have hnm := (name_of_methodNamed Bd.named Bd.method).1
  have X0 : Stand p l e ({ frames := 3, cells := 1, slots := 1, locals := 38 } : Room) s m #[(.int p0)] below meth c s₁ [] 0 0 := Stand.of_body Bd
  have e0 : s₁.heap = h0 := by rw [← hh, Bd.state]; rfl
  have N0 := Fr.nil n0
  show Fini p e below s (fun v h' L => ∃ b, v = some (.ref b) ∧ Fr n0 L ∧ Keep h0 h' [] ∧ Exa Z h' b "java/lang/Integer") _ _ s₁ (entryFrame m #[(.int p0)] 1)
  refine Fini.cast (ef4 m p0) ?_
  show Fini p e below s _ _ _ s₁ (mkF m 0 #[.val (.int p0)] [])
  refine Fini.st (fun _ k => XS.iloadN X0.here hx rfl (hb hby d4_0) rfl k) ?_
  show Fini p e below s _ _ _ s₁ (mkF m 1 #[.val (.int p0)] [(.int p0)])
  refine Fini.st (fun _ k => XS.bipush X0.here hx rfl (hb hby d4_1) k) ?_
  show Fini p e below s _ _ _ s₁ (mkF m 3 #[.val (.int p0)] [(.int (-128 : Int32)), (.int p0)])
  by_cases c1 : p0 < (-128 : Int32)
  · skip
    refine Fini.st (fun _ k => XS.icmpYes X0.here hx rfl (pc0 := 3) (pc' := 23) rfl (hb hby d4_3) rfl (XT.ii_lt_t c1) (by decide) (by decide) k) ?_
    show Fini p e below s _ _ _ s₁ (mkF m 23 #[.val (.int p0)] [])
    obtain ⟨T2, h2, X2, e2, E2, A2, D2, -, st2⟩ := newO X0 hx hZ hown (hw _ (List.mem_of_getElem? (i := 82) rfl)) (hw _ (List.mem_of_getElem? (i := 83) rfl)) (hw _ (List.mem_of_getElem? (i := 22) rfl)) e0 (g := (mkF m 23 #[.val (.int p0)] [])) rfl (hb hby d4_23) (by decide) (by decide)
    obtain ⟨b2, g2⟩ : ∃ z, z = h0.size := ⟨_, rfl⟩
    rw [← g2] at A2 D2 st2
    have ge_b2 : n0 ≤ b2 := Nat.le_trans Z0 (Nat.le_of_eq g2.symm)
    have sz_b2 : h0.size ≤ b2 := Nat.le_trans (Keep.refl h0 []).1 (Nat.le_of_eq g2.symm)
    have Fn2_value : Fld Z h2 b2 "java/lang/Integer" "value" "I" (.int (0 : Int32)) := D2 (Or.inr (hw _ (List.mem_of_getElem? (i := 96) rfl))) (ty := .int) (by decide)
    refine Fini.st st2 ?_
    show Fini p e below s _ _ _ T2 (mkF m 26 #[.val (.int p0)] [(.ref b2)])
    refine Fini.st (fun _ k => XS.dup X2.here hx rfl (hb hby d4_26) rfl rfl k) ?_
    show Fini p e below s _ _ _ T2 (mkF m 27 #[.val (.int p0)] [(.ref b2), (.ref b2)])
    refine Fini.st (fun _ k => XS.iloadN X2.here hx rfl (hb hby d4_27) rfl k) ?_
    show Fini p e below s _ _ _ T2 (mkF m 28 #[.val (.int p0)] [(.int p0), (.ref b2), (.ref b2)])
    have Zs_4 : n0 ≤ h2.size := (Nat.le_trans Z0 E2.1)
    obtain ⟨v3, T3, L3, X3, hQ3, st3⟩ := callNew X2 hx hZ hown rfl (hw _ (List.mem_of_getElem? (i := 84) rfl)) (hw _ (List.mem_of_getElem? (i := 85) rfl)) (hw _ (List.mem_of_getElem? (i := 22) rfl)) (hw _ (List.mem_of_getElem? (i := 87) rfl)) (by decide) (rm14 l Z a0 hw [] b2 p0 (0 : Int32) h2 n0 Zs_4 A2 Fn2_value ge_b2) e2 (W := 1) (by decide) (by decide) (by decide) (by decide) (g := (mkF m 28 #[.val (.int p0)] [(.int p0), (.ref b2), (.ref b2)])) rfl (by rw [hml]; rfl) (argsL := [(.int p0)]) (rest := [(.ref b2)]) rfl (lenOf pd_1 rfl) rfl (by show 2 * 0 + _ ≤ _; exact Nat.le_of_eq rfl) (hb hby d4_28)
    obtain ⟨rfl, Nq3, K3⟩ := hQ3
    have N3 := Fr.app N0 Nq3
    refine Fini.st st3 ?_
    show Fini p e below s _ _ _ T3 (mkF m 31 #[.val (.int p0)] [(.ref b2)])
    have Kp_5 : Keep h0 T3.heap [] := (Keep.trans (Keep.ext (Keep.refl h0 []) E2) K3 (allS (P := fun x => x ∈ _ ∨ _ ≤ x) (Or.inr sz_b2) all0))
    have Ex_6 : Exa Z T3.heap b2 "java/lang/Integer" := (A2.keep K3)
    exact Fini.retA X3 hx hlk Bd.returns rfl (hb hby d4_31) rfl rfl (by decide) (by decide) ⟨_, rfl, N3, Kp_5, Ex_6⟩
  · skip
    refine Fini.st (fun _ k => XS.icmpNo X0.here hx rfl (hb hby d4_3) rfl (XT.ii_lt_f c1) k) ?_
    show Fini p e below s _ _ _ s₁ (mkF m 6 #[.val (.int p0)] [])
    refine Fini.st (fun _ k => XS.iloadN X0.here hx rfl (hb hby d4_6) rfl k) ?_
    show Fini p e below s _ _ _ s₁ (mkF m 7 #[.val (.int p0)] [(.int p0)])
    obtain ⟨T7, X7, e7, st7⟩ := getS2 X0 hx hZ hown (host := "") (Or.inl (hw _ (List.mem_of_getElem? (i := 24) rfl))) Via.refl e0 (Sta.ext D0.2 S_hi) (g := (mkF m 7 #[.val (.int p0)] [(.int p0)])) rfl (hb hby d4_7)
    refine Fini.st st7 ?_
    show Fini p e below s _ _ _ T7 (mkF m 10 #[.val (.int p0)] [(.int (127 : Int32)), (.int p0)])
    by_cases c8 : (127 : Int32) < p0
    · skip
      refine Fini.st (fun _ k => XS.icmpYes X7.here hx rfl (pc0 := 10) (pc' := 23) rfl (hb hby d4_10) rfl (XT.ii_gt_t c8) (by decide) (by decide) k) ?_
      show Fini p e below s _ _ _ T7 (mkF m 23 #[.val (.int p0)] [])
      obtain ⟨T9, h9, X9, e9, E9, A9, D9, -, st9⟩ := newO X7 hx hZ hown (hw _ (List.mem_of_getElem? (i := 82) rfl)) (hw _ (List.mem_of_getElem? (i := 83) rfl)) (hw _ (List.mem_of_getElem? (i := 22) rfl)) e7 (g := (mkF m 23 #[.val (.int p0)] [])) rfl (hb hby d4_23) (by decide) (by decide)
      obtain ⟨b9, g9⟩ : ∃ z, z = h0.size := ⟨_, rfl⟩
      rw [← g9] at A9 D9 st9
      have ge_b9 : n0 ≤ b9 := Nat.le_trans Z0 (Nat.le_of_eq g9.symm)
      have sz_b9 : h0.size ≤ b9 := Nat.le_trans (Keep.refl h0 []).1 (Nat.le_of_eq g9.symm)
      have Fn9_value : Fld Z h9 b9 "java/lang/Integer" "value" "I" (.int (0 : Int32)) := D9 (Or.inr (hw _ (List.mem_of_getElem? (i := 96) rfl))) (ty := .int) (by decide)
      refine Fini.st st9 ?_
      show Fini p e below s _ _ _ T9 (mkF m 26 #[.val (.int p0)] [(.ref b9)])
      refine Fini.st (fun _ k => XS.dup X9.here hx rfl (hb hby d4_26) rfl rfl k) ?_
      show Fini p e below s _ _ _ T9 (mkF m 27 #[.val (.int p0)] [(.ref b9), (.ref b9)])
      refine Fini.st (fun _ k => XS.iloadN X9.here hx rfl (hb hby d4_27) rfl k) ?_
      show Fini p e below s _ _ _ T9 (mkF m 28 #[.val (.int p0)] [(.int p0), (.ref b9), (.ref b9)])
      have Zs_11 : n0 ≤ h9.size := (Nat.le_trans Z0 E9.1)
      obtain ⟨v10, T10, L10, X10, hQ10, st10⟩ := callNew X9 hx hZ hown rfl (hw _ (List.mem_of_getElem? (i := 84) rfl)) (hw _ (List.mem_of_getElem? (i := 85) rfl)) (hw _ (List.mem_of_getElem? (i := 22) rfl)) (hw _ (List.mem_of_getElem? (i := 87) rfl)) (by decide) (rm14 l Z a0 hw [] b9 p0 (0 : Int32) h9 n0 Zs_11 A9 Fn9_value ge_b9) e9 (W := 1) (by decide) (by decide) (by decide) (by decide) (g := (mkF m 28 #[.val (.int p0)] [(.int p0), (.ref b9), (.ref b9)])) rfl (by rw [hml]; rfl) (argsL := [(.int p0)]) (rest := [(.ref b9)]) rfl (lenOf pd_1 rfl) rfl (by show 2 * 0 + _ ≤ _; exact Nat.le_of_eq rfl) (hb hby d4_28)
      obtain ⟨rfl, Nq10, K10⟩ := hQ10
      have N10 := Fr.app N0 Nq10
      refine Fini.st st10 ?_
      show Fini p e below s _ _ _ T10 (mkF m 31 #[.val (.int p0)] [(.ref b9)])
      have Kp_12 : Keep h0 T10.heap [] := (Keep.trans (Keep.ext (Keep.refl h0 []) E9) K10 (allS (P := fun x => x ∈ _ ∨ _ ≤ x) (Or.inr sz_b9) all0))
      have Ex_13 : Exa Z T10.heap b9 "java/lang/Integer" := (A9.keep K10)
      exact Fini.retA X10 hx hlk Bd.returns rfl (hb hby d4_31) rfl rfl (by decide) (by decide) ⟨_, rfl, N10, Kp_12, Ex_13⟩
    · skip
      refine Fini.st (fun _ k => XS.icmpNo X7.here hx rfl (hb hby d4_10) rfl (XT.ii_gt_f c8) k) ?_
      show Fini p e below s _ _ _ T7 (mkF m 13 #[.val (.int p0)] [])
      obtain ⟨T14, X14, e14, st14⟩ := getS2 X7 hx hZ hown (host := "") (Or.inl (hw _ (List.mem_of_getElem? (i := 26) rfl))) Via.refl e7 (Sta.ext D0.2 S_ca) (g := (mkF m 13 #[.val (.int p0)] [])) rfl (hb hby d4_13)
      refine Fini.st st14 ?_
      show Fini p e below s _ _ _ T14 (mkF m 16 #[.val (.int p0)] [(.ref ca)])
      refine Fini.st (fun _ k => XS.iloadN X14.here hx rfl (hb hby d4_16) rfl k) ?_
      show Fini p e below s _ _ _ T14 (mkF m 17 #[.val (.int p0)] [(.int p0), (.ref ca)])
      refine Fini.st (fun _ k => XS.sipush X14.here hx rfl (hb hby d4_17) k) ?_
      show Fini p e below s _ _ _ T14 (mkF m 20 #[.val (.int p0)] [(.int (128 : Int32)), (.int p0), (.ref ca)])
      refine Fini.st (fun _ k => XS.iadd X14.here hx rfl (hb hby d4_20) rfl k) ?_
      show Fini p e below s _ _ _ T14 (mkF m 21 #[.val (.int p0)] [(.int (p0 + (128 : Int32))), (.ref ca)])
      obtain ⟨bq, Eq, stq⟩ := CacheQ.load (CacheQ.ext D0.2 hC) X14 hx hZ e14 (own_ci c1 c8) (g := (mkF m 21 #[.val (.int p0)] [(.int (p0 + (128 : Int32))), (.ref ca)])) rfl rfl (hb hby d4_21)
      refine Fini.st stq ?_
      show Fini p e below s _ _ _ T14 (mkF m 22 #[.val (.int p0)] [(.ref bq)])
      exact Fini.retA X14 hx hlk Bd.returns rfl (hb hby d4_22) rfl rfl (by decide) (by decide) ⟨_, rfl, N0, (by rw [e14]; exact (Keep.refl h0 [])), (by rw [e14]; exact Eq)⟩
theorem d6_0 : decode jdk_43_method_3_code 0 = .ok (.iload_n 0, 1) := by decide +kernel
theorem d6_1 : decode jdk_43_method_3_code 1 = .ok (.sipush 255, 3) := by decide +kernel
theorem d6_4 : decode jdk_43_method_3_code 4 = .ok (.if_icmp .gt 7, 3) := by decide +kernel
theorem d6_7 : decode jdk_43_method_3_code 7 = .ok (.iconst 1, 1) := by decide +kernel
theorem d6_8 : decode jdk_43_method_3_code 8 = .ok (.goto 4, 3) := by decide +kernel
theorem d6_12 : decode jdk_43_method_3_code 12 = .ok (.ireturn, 1) := by decide +kernel
theorem pn_3 : plainName "java/lang/StringLatin1" = true := by first | (simp [plainName, overriddenIn]; done) | decide +kernel
theorem ef6 (m : MethodId) (x0 : Int32) : entryFrame m #[(.int x0)] 1 = mkF m 0 #[.val (.int x0)] [] := by first | (simp [entryFrame, mkF, argsToLocals, Value.category]; done) | rfl
def f6 (p0 : Int32) : Int32 := (1 : Int32)
set_option maxRecDepth 65536 in
set_option maxHeartbeats 40000000 in
theorem rm6 (l : Launch) (Z : State) (a0 : Array Value) (hw : ∀ d ∈ tables_1, d.before a0 Z = true) (ws : List Jvm.Cond) (p0 : Int32) (h0 : Heap) (hc : ¬ (255 : Int32) < p0) :
    Cmet l Z (⟨"java/lang/StringLatin1", "canEncode", "(C)Z"⟩ : MethodName) jdk_43_method_3_code 1 (some .boolean) ws ({ frames := 0, cells := 0, slots := 0, locals := 0 } : Room) #[(.int p0)] h0 (fun v h' L => v = some (.int (f6 p0)) ∧ h' = h0 ∧ L = []) := by
  refine MetFree.of_bodySF (plainFor_of_name pn_3) hisR ?_
  intro p e s m args below meth c s₁ Bd hml0 hP hK
  obtain ⟨rfl, hZ, hh⟩ := hP
  have hx := Bd.exec
  have hlk : meth.locks = false := BodyLoose.notSynchronized Bd
  have hby := Bd.bytes
  have hml : c.maxLocals = 1 := hml0
  have hown : s.vm.findClass "java/lang/StringLatin1" = some m.cls := findClass_of_methodNamed Bd.named
  have hnm := (name_of_methodNamed Bd.named Bd.method).1
  have X0 : Stand p l e ({ frames := 0, cells := 0, slots := 0, locals := 0 } : Room) s m #[(.int p0)] below meth c s₁ [] 0 0 := Stand.of_body Bd
  have e0 : s₁.heap = h0 := by rw [← hh, Bd.state]; rfl
  have hv0 : f6 p0 = f6 p0 := rfl
  show Fini p e below s (fun v h' L => v = some (.int (f6 p0)) ∧ h' = h0 ∧ L = []) _ _ s₁ (entryFrame m #[(.int p0)] 1)
  refine Fini.cast (ef6 m p0) ?_
  show Fini p e below s _ _ _ s₁ (mkF m 0 #[.val (.int p0)] [])
  refine Fini.st (fun _ k => XS.iloadN X0.here hx rfl (hb hby d6_0) rfl k) ?_
  show Fini p e below s _ _ _ s₁ (mkF m 1 #[.val (.int p0)] [(.int p0)])
  refine Fini.st (fun _ k => XS.sipush X0.here hx rfl (hb hby d6_1) k) ?_
  show Fini p e below s _ _ _ s₁ (mkF m 4 #[.val (.int p0)] [(.int (255 : Int32)), (.int p0)])
  refine Fini.st (fun _ k => XS.icmpNo X0.here hx rfl (hb hby d6_4) rfl (XT.ii_gt_f hc) k) ?_
  show Fini p e below s _ _ _ s₁ (mkF m 7 #[.val (.int p0)] [])
  refine Fini.st (fun _ k => XS.iconst X0.here hx rfl (hb hby d6_7) k) ?_
  show Fini p e below s _ _ _ s₁ (mkF m 8 #[.val (.int p0)] [(.int (1 : Int32))])
  refine Fini.st (fun _ k => XS.goto X0.here hx rfl (pc0 := 8) (pc' := 12) rfl (hb hby d6_8) (by decide) (by decide) k) ?_
  show Fini p e below s _ _ _ s₁ (mkF m 12 #[.val (.int p0)] [(.int (1 : Int32))])
  exact Fini.retN X0 hx hlk (t := .boolean) Bd.returns (by simp) (hb hby d6_12) nb1 (by decide) (by decide) ⟨congrArg (fun z => some (Value.int z)) hv0.symm, e0, rfl⟩
theorem d7_0 : decode jdk_43_method_46_code 0 = .ok (.iconst 1, 1) := by decide +kernel
theorem d7_1 : decode jdk_43_method_46_code 1 = .ok (.newarray .byte, 2) := by decide +kernel
theorem d7_3 : decode jdk_43_method_46_code 3 = .ok (.dup, 1) := by decide +kernel
theorem d7_4 : decode jdk_43_method_46_code 4 = .ok (.iconst 0, 1) := by decide +kernel
theorem d7_5 : decode jdk_43_method_46_code 5 = .ok (.iload_n 0, 1) := by decide +kernel
theorem d7_6 : decode jdk_43_method_46_code 6 = .ok (.i2b, 1) := by decide +kernel
theorem d7_7 : decode jdk_43_method_46_code 7 = .ok (.bastore, 1) := by decide +kernel
theorem d7_8 : decode jdk_43_method_46_code 8 = .ok (.areturn, 1) := by decide +kernel
theorem ef7 (m : MethodId) (x0 : Int32) : entryFrame m #[(.int x0)] 1 = mkF m 0 #[.val (.int x0)] [] := by first | (simp [entryFrame, mkF, argsToLocals, Value.category]; done) | rfl
set_option maxRecDepth 65536 in
set_option maxHeartbeats 40000000 in
theorem rm7 (l : Launch) (Z : State) (a0 : Array Value) (hw : ∀ d ∈ tables_1, d.before a0 Z = true) (ws : List Jvm.Cond) (p0 : Int32) (h0 : Heap) (n0 : Nat) (Z0 : n0 ≤ h0.size) :
    Cmet l Z (⟨"java/lang/StringLatin1", "toBytes", "(C)[B"⟩ : MethodName) jdk_43_method_46_code 1 (some (.array .byte)) ws ({ frames := 0, cells := 1, slots := 1, locals := 0 } : Room) #[(.int p0)] h0 (fun v h' L => ∃ b, v = some (.ref b) ∧ Fr n0 L ∧ Keep h0 h' [] ∧ h0.size ≤ b ∧ n0 ≤ b ∧ AryI Z h' b .byte (1 : Int32) (own_u p0)) := by
  refine MetFree.of_bodySF (plainFor_of_name pn_3) hisR ?_
  intro p e s m args below meth c s₁ Bd hml0 hP hK
  obtain ⟨rfl, hZ, hh⟩ := hP
  have hx := Bd.exec
  have hlk : meth.locks = false := BodyLoose.notSynchronized Bd
  have hby := Bd.bytes
  have hml : c.maxLocals = 1 := hml0
  have hown : s.vm.findClass "java/lang/StringLatin1" = some m.cls := findClass_of_methodNamed Bd.named
  have hnm := (name_of_methodNamed Bd.named Bd.method).1
  have X0 : Stand p l e ({ frames := 0, cells := 1, slots := 1, locals := 0 } : Room) s m #[(.int p0)] below meth c s₁ [] 0 0 := Stand.of_body Bd
  have e0 : s₁.heap = h0 := by rw [← hh, Bd.state]; rfl
  have N0 := Fr.nil n0
  show Fini p e below s (fun v h' L => ∃ b, v = some (.ref b) ∧ Fr n0 L ∧ Keep h0 h' [] ∧ h0.size ≤ b ∧ n0 ≤ b ∧ AryI Z h' b .byte (1 : Int32) (own_u p0)) _ _ s₁ (entryFrame m #[(.int p0)] 1)
  refine Fini.cast (ef7 m p0) ?_
  show Fini p e below s _ _ _ s₁ (mkF m 0 #[.val (.int p0)] [])
  refine Fini.st (fun _ k => XS.iconst X0.here hx rfl (hb hby d7_0) k) ?_
  show Fini p e below s _ _ _ s₁ (mkF m 1 #[.val (.int p0)] [(.int (1 : Int32))])
  obtain ⟨T1, h1, k1, X1, e1, E1, A1, st1⟩ := newP X0 hx hZ (hw _ (List.mem_of_getElem? (i := 44) rfl)) e0 (g := (mkF m 1 #[.val (.int p0)] [(.int (1 : Int32))])) rfl (hb hby d7_1) rfl (by decide) (cap := 1) (by decide) (by decide) (by decide) (by decide)
  obtain ⟨b1, g1⟩ : ∃ z, z = h0.size := ⟨_, rfl⟩
  rw [← g1] at A1 st1
  have ge_b1 : n0 ≤ b1 := Nat.le_trans Z0 (Nat.le_of_eq g1.symm)
  have sz_b1 : h0.size ≤ b1 := Nat.le_trans (Keep.refl h0 []).1 (Nat.le_of_eq g1.symm)
  have Ar1 : AryI Z h1 b1 .byte (1 : Int32) (fun _ => 0) := AryI.new A1 (by decide) rfl
  refine Fini.st st1 ?_
  show Fini p e below s _ _ _ T1 (mkF m 3 #[.val (.int p0)] [(.ref b1)])
  refine Fini.st (fun _ k => XS.dup X1.here hx rfl (hb hby d7_3) rfl rfl k) ?_
  show Fini p e below s _ _ _ T1 (mkF m 4 #[.val (.int p0)] [(.ref b1), (.ref b1)])
  refine Fini.st (fun _ k => XS.iconst X1.here hx rfl (hb hby d7_4) k) ?_
  show Fini p e below s _ _ _ T1 (mkF m 5 #[.val (.int p0)] [(.int (0 : Int32)), (.ref b1), (.ref b1)])
  refine Fini.st (fun _ k => XS.iloadN X1.here hx rfl (hb hby d7_5) rfl k) ?_
  show Fini p e below s _ _ _ T1 (mkF m 6 #[.val (.int p0)] [(.int p0), (.int (0 : Int32)), (.ref b1), (.ref b1)])
  refine Fini.st (fun _ k => XS.i2b X1.here hx rfl (hb hby d7_6) rfl k) ?_
  show Fini p e below s _ _ _ T1 (mkF m 7 #[.val (.int p0)] [(.int p0.toInt8.toInt32), (.int (0 : Int32)), (.ref b1), (.ref b1)])
  obtain ⟨T2, h2, X2, e2, W2, Ar2, st2⟩ := Ar1.stB X1 hx hZ e1 ⟨by decide, by decide⟩ (g := (mkF m 7 #[.val (.int p0)] [(.int p0.toInt8.toInt32), (.int (0 : Int32)), (.ref b1), (.ref b1)])) rfl rfl (hb hby d7_7)
  refine Fini.st st2 ?_
  have N2 := Fr.snoc X2 N0 ge_b1
  show Fini p e below s _ _ _ T2 (mkF m 8 #[.val (.int p0)] [(.ref b1)])
  have Kp_3 : Keep h0 h2 [] := (Keep.wr (Keep.ext (Keep.refl h0 []) E1) W2 (Or.inr sz_b1))
  exact Fini.retA X2 hx hlk Bd.returns rfl (hb hby d7_8) rfl rfl (by decide) (by decide) ⟨_, rfl, N2, (by rw [e2]; exact Kp_3), sz_b1, ge_b1, (by rw [e2]; exact Ar2)⟩
theorem d8_0 : decode jdk_42_method_151_code 0 = .ok (.aload_n 0, 1) := by decide +kernel
theorem d8_1 : decode jdk_42_method_151_code 1 = .ok (.invokespecial 1, 3) := by decide +kernel
theorem d8_4 : decode jdk_42_method_151_code 4 = .ok (.aload_n 0, 1) := by decide +kernel
theorem d8_5 : decode jdk_42_method_151_code 5 = .ok (.aload_n 1, 1) := by decide +kernel
theorem d8_6 : decode jdk_42_method_151_code 6 = .ok (.putfield 9, 3) := by decide +kernel
theorem d8_9 : decode jdk_42_method_151_code 9 = .ok (.aload_n 0, 1) := by decide +kernel
theorem d8_10 : decode jdk_42_method_151_code 10 = .ok (.iload_n 2, 1) := by decide +kernel
theorem d8_11 : decode jdk_42_method_151_code 11 = .ok (.putfield 15, 3) := by decide +kernel
theorem d8_14 : decode jdk_42_method_151_code 14 = .ok (.return_, 1) := by decide +kernel
theorem pn_4 : plainName "java/lang/String" = true := by first | (simp [plainName, overriddenIn]; done) | decide +kernel
theorem ef8 (m : MethodId) (x0 : Addr) (x1 : Addr) (x2 : Int32) : entryFrame m #[(.ref x0), (.ref x1), (.int x2)] 3 = mkF m 0 #[.val (.ref x0), .val (.ref x1), .val (.int x2)] [] := by first | (simp [entryFrame, mkF, argsToLocals, Value.category]; done) | rfl
set_option maxRecDepth 65536 in
set_option maxHeartbeats 40000000 in
theorem rm8 (l : Launch) (Z : State) (a0 : Array Value) (hw : ∀ d ∈ tables_1, d.before a0 Z = true) (ws : List Jvm.Cond) (o0 : Addr) (o1 : Addr) (cd : Int32) (h0 : Heap) (n0 : Nat) (Z0 : n0 ≤ h0.size) (E_o0 : Exa Z h0 o0 "java/lang/String") (F_v : Fld Z h0 o0 "java/lang/String" "value" "[B" .null) (F_c : Fld Z h0 o0 "java/lang/String" "coder" "B" (.int cd)) (F_h : Fld Z h0 o0 "java/lang/String" "hash" "I" (.int (0 : Int32))) (F_z : Fld Z h0 o0 "java/lang/String" "hashIsZero" "Z" (.int (0 : Int32))) (g0 : n0 ≤ o0) :
    Cmet l Z (⟨"java/lang/String", "<init>", "([BB)V"⟩ : MethodName) jdk_42_method_151_code 3 none ws ({ frames := 1, cells := 0, slots := 0, locals := 12 } : Room) #[(.ref o0), (.ref o1), (.int (0 : Int32))] h0 (fun v h' L => v = none ∧ Fr n0 L ∧ Keep h0 h' [o0] ∧ Fld Z h' o0 "java/lang/String" "value" "[B" (.ref o1) ∧ Fld Z h' o0 "java/lang/String" "coder" "B" (.int (0 : Int32)) ∧ Fld Z h' o0 "java/lang/String" "hash" "I" (.int (0 : Int32)) ∧ Fld Z h' o0 "java/lang/String" "hashIsZero" "Z" (.int (0 : Int32))) := by
  refine MetFree.of_bodySF (plainFor_of_name pn_4) hisR ?_
  intro p e s m args below meth c s₁ Bd hml0 hP hK
  obtain ⟨rfl, hZ, hh⟩ := hP
  have hx := Bd.exec
  have hlk : meth.locks = false := BodyLoose.notSynchronized Bd
  have hby := Bd.bytes
  have hml : c.maxLocals = 3 := hml0
  have hown : s.vm.findClass "java/lang/String" = some m.cls := findClass_of_methodNamed Bd.named
  have hnm := (name_of_methodNamed Bd.named Bd.method).1
  have X0 : Stand p l e ({ frames := 1, cells := 0, slots := 0, locals := 12 } : Room) s m #[(.ref o0), (.ref o1), (.int (0 : Int32))] below meth c s₁ [] 0 0 := Stand.of_body Bd
  have e0 : s₁.heap = h0 := by rw [← hh, Bd.state]; rfl
  have N0 := Fr.nil n0
  show Fini p e below s (fun v h' L => v = none ∧ Fr n0 L ∧ Keep h0 h' [o0] ∧ Fld Z h' o0 "java/lang/String" "value" "[B" (.ref o1) ∧ Fld Z h' o0 "java/lang/String" "coder" "B" (.int (0 : Int32)) ∧ Fld Z h' o0 "java/lang/String" "hash" "I" (.int (0 : Int32)) ∧ Fld Z h' o0 "java/lang/String" "hashIsZero" "Z" (.int (0 : Int32))) _ _ s₁ (entryFrame m #[(.ref o0), (.ref o1), (.int (0 : Int32))] 3)
  refine Fini.cast (ef8 m o0 o1 (0 : Int32)) ?_
  show Fini p e below s _ _ _ s₁ (mkF m 0 #[.val (.ref o0), .val (.ref o1), .val (.int (0 : Int32))] [])
  refine Fini.st (fun _ k => XS.aloadN X0.here hx rfl (hb hby d8_0) rfl rfl k) ?_
  show Fini p e below s _ _ _ s₁ (mkF m 1 #[.val (.ref o0), .val (.ref o1), .val (.int (0 : Int32))] [(.ref o0)])
  obtain ⟨T1, X1, e1, st1⟩ := initO X0 hx hZ hown (hw _ (List.mem_of_getElem? (i := 49) rfl)) (hw _ (List.mem_of_getElem? (i := 7) rfl)) (hw _ (List.mem_of_getElem? (i := 8) rfl)) e0 (g := (mkF m 1 #[.val (.ref o0), .val (.ref o1), .val (.int (0 : Int32))] [(.ref o0)])) rfl (by rw [hml]; rfl) rfl (hb hby d8_1) (by decide) (W := 0) (by show 2 * 0 + _ ≤ _; exact Nat.le_of_eq rfl) (by decide)
  refine Fini.st st1 ?_
  show Fini p e below s _ _ _ T1 (mkF m 4 #[.val (.ref o0), .val (.ref o1), .val (.int (0 : Int32))] [])
  refine Fini.st (fun _ k => XS.aloadN X1.here hx rfl (hb hby d8_4) rfl rfl k) ?_
  show Fini p e below s _ _ _ T1 (mkF m 5 #[.val (.ref o0), .val (.ref o1), .val (.int (0 : Int32))] [(.ref o0)])
  refine Fini.st (fun _ k => XS.aloadN X1.here hx rfl (hb hby d8_5) rfl rfl k) ?_
  show Fini p e below s _ _ _ T1 (mkF m 6 #[.val (.ref o0), .val (.ref o1), .val (.int (0 : Int32))] [(.ref o1), (.ref o0)])
  obtain ⟨T2, h2, X2, e2, W2, st2⟩ := putF X1 hx hZ hown (host := "") (Or.inl (hw _ (List.mem_of_getElem? (i := 50) rfl))) Via.refl e1 F_v E_o0 (Or.inr ⟨(hw _ (List.mem_of_getElem? (i := 51) rfl)), rfl, hnm⟩) (hw _ (List.mem_of_getElem? (i := 40) rfl)) (ty := (.array .byte)) (by decide) rfl rfl (g := (mkF m 6 #[.val (.ref o0), .val (.ref o1), .val (.int (0 : Int32))] [(.ref o1), (.ref o0)])) rfl rfl (hb hby d8_6)
  have Fw2 : Fld Z h2 o0 "java/lang/String" "value" "[B" (.ref o1) := F_v.same W2
  refine Fini.st st2 ?_
  have N2 := Fr.snoc X2 N0 g0
  show Fini p e below s _ _ _ T2 (mkF m 9 #[.val (.ref o0), .val (.ref o1), .val (.int (0 : Int32))] [])
  refine Fini.st (fun _ k => XS.aloadN X2.here hx rfl (hb hby d8_9) rfl rfl k) ?_
  show Fini p e below s _ _ _ T2 (mkF m 10 #[.val (.ref o0), .val (.ref o1), .val (.int (0 : Int32))] [(.ref o0)])
  refine Fini.st (fun _ k => XS.iloadN X2.here hx rfl (hb hby d8_10) rfl k) ?_
  show Fini p e below s _ _ _ T2 (mkF m 11 #[.val (.ref o0), .val (.ref o1), .val (.int (0 : Int32))] [(.int (0 : Int32)), (.ref o0)])
  have F_4 : Fld Z h2 o0 "java/lang/String" "coder" "B" (.int cd) := (F_c.other W2 (Or.inr (slot_ne (Or.inr (hw _ (List.mem_of_getElem? (i := 53) rfl))) (Or.inr (hw _ (List.mem_of_getElem? (i := 51) rfl))) (by decide) (t := .byte) (t' := (.array .byte)) (by decide) (by decide))))
  have Ex_5 : Exa Z h2 o0 "java/lang/String" := (E_o0.wr W2)
  obtain ⟨T3, h3, X3, e3, W3, st3⟩ := putFN X2 hx hZ hown (hw _ (List.mem_of_getElem? (i := 52) rfl)) Via.refl e2 F_4 Ex_5 (Or.inr ⟨(hw _ (List.mem_of_getElem? (i := 53) rfl)), rfl, hnm⟩) (hw _ (List.mem_of_getElem? (i := 40) rfl)) (ty := .byte) (v' := .int (0 : Int32)) (by decide) rfl rfl (g := (mkF m 11 #[.val (.ref o0), .val (.ref o1), .val (.int (0 : Int32))] [(.int (0 : Int32)), (.ref o0)])) rfl rfl (hb hby d8_11)
  have Fw3 : Fld Z h3 o0 "java/lang/String" "coder" "B" (.int (0 : Int32)) := F_4.same W3
  refine Fini.st st3 ?_
  have N3 := Fr.snoc X3 N2 g0
  show Fini p e below s _ _ _ T3 (mkF m 14 #[.val (.ref o0), .val (.ref o1), .val (.int (0 : Int32))] [])
  have Kp_6 : Keep h0 h3 [o0] := (Keep.wr (Keep.wr (Keep.refl h0 [o0]) W2 (Or.inl (List.mem_of_getElem? (i := 0) rfl))) W3 (Or.inl (List.mem_of_getElem? (i := 0) rfl)))
  have F_7 : Fld Z h3 o0 "java/lang/String" "value" "[B" (.ref o1) := (Fw2.other W3 (Or.inr (slot_ne (Or.inr (hw _ (List.mem_of_getElem? (i := 51) rfl))) (Or.inr (hw _ (List.mem_of_getElem? (i := 53) rfl))) (by decide) (t := (.array .byte)) (t' := .byte) (by decide) (by decide))))
  have F_8 : Fld Z h3 o0 "java/lang/String" "hash" "I" (.int (0 : Int32)) := ((F_h.other W2 (Or.inr (slot_ne (Or.inl (hw _ (List.mem_of_getElem? (i := 66) rfl))) (Or.inr (hw _ (List.mem_of_getElem? (i := 51) rfl))) (by decide) (t := .int) (t' := (.array .byte)) (by decide) (by decide)))).other W3 (Or.inr (slot_ne (Or.inl (hw _ (List.mem_of_getElem? (i := 66) rfl))) (Or.inr (hw _ (List.mem_of_getElem? (i := 53) rfl))) (by decide) (t := .int) (t' := .byte) (by decide) (by decide))))
  have F_9 : Fld Z h3 o0 "java/lang/String" "hashIsZero" "Z" (.int (0 : Int32)) := ((F_z.other W2 (Or.inr (slot_ne (Or.inl (hw _ (List.mem_of_getElem? (i := 68) rfl))) (Or.inr (hw _ (List.mem_of_getElem? (i := 51) rfl))) (by decide) (t := .boolean) (t' := (.array .byte)) (by decide) (by decide)))).other W3 (Or.inr (slot_ne (Or.inl (hw _ (List.mem_of_getElem? (i := 68) rfl))) (Or.inr (hw _ (List.mem_of_getElem? (i := 53) rfl))) (by decide) (t := .boolean) (t' := .byte) (by decide) (by decide))))
  exact Fini.ret0 X3 hx hlk Bd.returns (hb hby d8_14) (by decide) (by decide) ⟨rfl, N3, (by rw [e3]; exact Kp_6), (by rw [e3]; exact F_7), (by rw [e3]; exact Fw3), (by rw [e3]; exact F_8), (by rw [e3]; exact F_9)⟩
theorem pd_2 : parseMethodDescriptor "(C)Z" = some ⟨[.char], some .boolean⟩ := by decide +kernel
theorem pd_3 : parseMethodDescriptor "(C)[B" = some ⟨[.char], some (.array .byte)⟩ := by decide +kernel
theorem pd_4 : parseMethodDescriptor "([BB)V" = some ⟨[(.array .byte), .byte], none⟩ := by decide +kernel
theorem d5_0 : decode jdk_42_method_139_code 0 = .ok (.getstatic 38, 3) := by decide +kernel
theorem d5_3 : decode jdk_42_method_139_code 3 = .ok (.ifCond .eq 23, 3) := by decide +kernel
theorem d5_6 : decode jdk_42_method_139_code 6 = .ok (.iload_n 0, 1) := by decide +kernel
theorem d5_7 : decode jdk_42_method_139_code 7 = .ok (.invokestatic 1015, 3) := by decide +kernel
theorem d5_10 : decode jdk_42_method_139_code 10 = .ok (.ifCond .eq 16, 3) := by decide +kernel
theorem d5_13 : decode jdk_42_method_139_code 13 = .ok (.new 10, 3) := by decide +kernel
theorem d5_16 : decode jdk_42_method_139_code 16 = .ok (.dup, 1) := by decide +kernel
theorem d5_17 : decode jdk_42_method_139_code 17 = .ok (.iload_n 0, 1) := by decide +kernel
theorem d5_18 : decode jdk_42_method_139_code 18 = .ok (.invokestatic 1018, 3) := by decide +kernel
theorem d5_21 : decode jdk_42_method_139_code 21 = .ok (.iconst 0, 1) := by decide +kernel
theorem d5_22 : decode jdk_42_method_139_code 22 = .ok (.invokespecial 209, 3) := by decide +kernel
theorem d5_25 : decode jdk_42_method_139_code 25 = .ok (.areturn, 1) := by decide +kernel
theorem ef5 (m : MethodId) (x0 : Int32) : entryFrame m #[(.int x0)] 1 = mkF m 0 #[.val (.int x0)] [] := by first | (simp [entryFrame, mkF, argsToLocals, Value.category]; done) | rfl
set_option maxRecDepth 65536 in
set_option maxHeartbeats 40000000 in
theorem rm5 (l : Launch) (Z : State) (a0 : Array Value) (hw : ∀ d ∈ tables_1, d.before a0 Z = true) (ws : List Jvm.Cond) (p0 : Int32) (cs : Int32) (h0 : Heap) (n0 : Nat) (Z0 : n0 ≤ h0.size) (D0 : Old Z n0 h0) (S_cs : Sta Z Z.heap "java/lang/String" "COMPACT_STRINGS" "Z" (.int cs)) (hcs : ¬ cs = (0 : Int32)) (hc : ¬ (255 : Int32) < p0) :
    Cmet l Z (⟨"java/lang/String", "valueOf", "(C)Ljava/lang/String;"⟩ : MethodName) jdk_42_method_139_code 1 (some (.object "java/lang/String")) ws ({ frames := 2, cells := 2, slots := 5, locals := 27 } : Room) #[(.int p0)] h0 (fun v h' L => ∃ b ar, v = some (.ref b) ∧ Fr n0 L ∧ Keep h0 h' [] ∧ h0.size ≤ b ∧ h0.size ≤ ar ∧ n0 ≤ b ∧ n0 ≤ ar ∧ b ≠ ar ∧ Exa Z h' b "java/lang/String" ∧ Fld Z h' b "java/lang/String" "value" "[B" (.ref ar) ∧ Fld Z h' b "java/lang/String" "coder" "B" (.int (0 : Int32)) ∧ Fld Z h' b "java/lang/String" "hash" "I" (.int (0 : Int32)) ∧ Fld Z h' b "java/lang/String" "hashIsZero" "Z" (.int (0 : Int32)) ∧ AryI Z h' ar .byte (1 : Int32) (own_u p0)) := by
  refine MetFree.of_bodySF (plainFor_of_name pn_4) hisR ?_
  intro p e s m args below meth c s₁ Bd hml0 hP hK
  obtain ⟨rfl, hZ, hh⟩ := hP
  have hx := Bd.exec
  have hlk : meth.locks = false := BodyLoose.notSynchronized Bd
  have hby := Bd.bytes
  have hml : c.maxLocals = 1 := hml0
  have hown : s.vm.findClass "java/lang/String" = some m.cls := findClass_of_methodNamed Bd.named
  have hnm := (name_of_methodNamed Bd.named Bd.method).1
  have X0 : Stand p l e ({ frames := 2, cells := 2, slots := 5, locals := 27 } : Room) s m #[(.int p0)] below meth c s₁ [] 0 0 := Stand.of_body Bd
  have e0 : s₁.heap = h0 := by rw [← hh, Bd.state]; rfl
  have N0 := Fr.nil n0
  show Fini p e below s (fun v h' L => ∃ b ar, v = some (.ref b) ∧ Fr n0 L ∧ Keep h0 h' [] ∧ h0.size ≤ b ∧ h0.size ≤ ar ∧ n0 ≤ b ∧ n0 ≤ ar ∧ b ≠ ar ∧ Exa Z h' b "java/lang/String" ∧ Fld Z h' b "java/lang/String" "value" "[B" (.ref ar) ∧ Fld Z h' b "java/lang/String" "coder" "B" (.int (0 : Int32)) ∧ Fld Z h' b "java/lang/String" "hash" "I" (.int (0 : Int32)) ∧ Fld Z h' b "java/lang/String" "hashIsZero" "Z" (.int (0 : Int32)) ∧ AryI Z h' ar .byte (1 : Int32) (own_u p0)) _ _ s₁ (entryFrame m #[(.int p0)] 1)
  refine Fini.cast (ef5 m p0) ?_
  show Fini p e below s _ _ _ s₁ (mkF m 0 #[.val (.int p0)] [])
  obtain ⟨T1, X1, e1, st1⟩ := getS2 X0 hx hZ hown (host := "") (Or.inl (hw _ (List.mem_of_getElem? (i := 34) rfl))) Via.refl e0 (Sta.ext D0.2 S_cs) (g := (mkF m 0 #[.val (.int p0)] [])) rfl (hb hby d5_0)
  refine Fini.st st1 ?_
  show Fini p e below s _ _ _ T1 (mkF m 3 #[.val (.int p0)] [(.int cs)])
  refine Fini.st (fun _ k => XS.ifNo X1.here hx rfl (hb hby d5_3) rfl (XT.i0_eq_f hcs) k) ?_
  show Fini p e below s _ _ _ T1 (mkF m 6 #[.val (.int p0)] [])
  refine Fini.st (fun _ k => XS.iloadN X1.here hx rfl (hb hby d5_6) rfl k) ?_
  show Fini p e below s _ _ _ T1 (mkF m 7 #[.val (.int p0)] [(.int p0)])
  obtain ⟨T2, X2, e2, st2⟩ := pureS X1 hx hZ hown (hw _ (List.mem_of_getElem? (i := 35) rfl)) (hw _ (List.mem_of_getElem? (i := 36) rfl)) (hw _ (List.mem_of_getElem? (i := 37) rfl)) (hw _ (List.mem_of_getElem? (i := 38) rfl)) (by decide) (rm6 l Z a0 hw [] p0 h0 hc) e1 (W := 0) (by decide) (by decide) (by decide) (by decide) (g := (mkF m 7 #[.val (.int p0)] [(.int p0)])) rfl (by rw [hml]; rfl) (argsL := [(.int p0)]) (rest := []) rfl (lenOf pd_2 rfl) rfl (by show 2 * 0 + _ ≤ _; exact Nat.le_of_eq rfl) (hb hby d5_7)
  refine Fini.st st2 ?_
  show Fini p e below s _ _ _ T2 (mkF m 10 #[.val (.int p0)] [(.int (1 : Int32))])
  refine Fini.st (fun _ k => XS.ifNo X2.here hx rfl (hb hby d5_10) rfl (XT.i0_eq_f (by decide : ¬ (1 : Int32) = (0 : Int32))) k) ?_
  show Fini p e below s _ _ _ T2 (mkF m 13 #[.val (.int p0)] [])
  obtain ⟨T3, h3, X3, e3, E3, A3, D3, -, st3⟩ := newO X2 hx hZ hown (hw _ (List.mem_of_getElem? (i := 39) rfl)) (hw _ (List.mem_of_getElem? (i := 40) rfl)) (hw _ (List.mem_of_getElem? (i := 32) rfl)) e2 (g := (mkF m 13 #[.val (.int p0)] [])) rfl (hb hby d5_13) (by decide) (by decide)
  obtain ⟨b3, g3⟩ : ∃ z, z = h0.size := ⟨_, rfl⟩
  rw [← g3] at A3 D3 st3
  have ge_b3 : n0 ≤ b3 := Nat.le_trans Z0 (Nat.le_of_eq g3.symm)
  have sz_b3 : h0.size ≤ b3 := Nat.le_trans (Keep.refl h0 []).1 (Nat.le_of_eq g3.symm)
  have Fn3_value : Fld Z h3 b3 "java/lang/String" "value" "[B" .null := D3 (Or.inr (hw _ (List.mem_of_getElem? (i := 51) rfl))) (ty := (.array .byte)) (by decide)
  have Fn3_coder : Fld Z h3 b3 "java/lang/String" "coder" "B" (.int (0 : Int32)) := D3 (Or.inr (hw _ (List.mem_of_getElem? (i := 53) rfl))) (ty := .byte) (by decide)
  have Fn3_hash : Fld Z h3 b3 "java/lang/String" "hash" "I" (.int (0 : Int32)) := D3 (Or.inl (hw _ (List.mem_of_getElem? (i := 66) rfl))) (ty := .int) (by decide)
  have Fn3_hashIsZero : Fld Z h3 b3 "java/lang/String" "hashIsZero" "Z" (.int (0 : Int32)) := D3 (Or.inl (hw _ (List.mem_of_getElem? (i := 68) rfl))) (ty := .boolean) (by decide)
  refine Fini.st st3 ?_
  show Fini p e below s _ _ _ T3 (mkF m 16 #[.val (.int p0)] [(.ref b3)])
  refine Fini.st (fun _ k => XS.dup X3.here hx rfl (hb hby d5_16) rfl rfl k) ?_
  show Fini p e below s _ _ _ T3 (mkF m 17 #[.val (.int p0)] [(.ref b3), (.ref b3)])
  refine Fini.st (fun _ k => XS.iloadN X3.here hx rfl (hb hby d5_17) rfl k) ?_
  show Fini p e below s _ _ _ T3 (mkF m 18 #[.val (.int p0)] [(.int p0), (.ref b3), (.ref b3)])
  have Zs_5 : n0 ≤ h3.size := (Nat.le_trans Z0 E3.1)
  obtain ⟨v4, T4, L4, X4, hQ4, st4⟩ := callQ X3 hx hZ hown (hw _ (List.mem_of_getElem? (i := 41) rfl)) (hw _ (List.mem_of_getElem? (i := 42) rfl)) (hw _ (List.mem_of_getElem? (i := 37) rfl)) (hw _ (List.mem_of_getElem? (i := 43) rfl)) (by decide) (rm7 l Z a0 hw [] p0 h3 n0 Zs_5) e3 (W := 2) (by decide) (by decide) (by decide) (by decide) (g := (mkF m 18 #[.val (.int p0)] [(.int p0), (.ref b3), (.ref b3)])) rfl (by rw [hml]; rfl) (argsL := [(.int p0)]) (rest := [(.ref b3), (.ref b3)]) rfl (lenOf pd_3 rfl) rfl (by show 2 * 0 + _ ≤ _; exact Nat.le_of_eq rfl) (hb hby d5_18)
  obtain ⟨b4, rfl, Nq4, K4, sz4, ge_b4, Ar4⟩ := hQ4
  have ne_b3_b4 : b3 ≠ b4 := Nat.ne_of_lt (Nat.lt_of_lt_of_le A3.lt sz4)
  have Kp_6 : Keep h0 h3 [] := (Keep.ext (Keep.refl h0 []) E3)
  have sz_b4 : h0.size ≤ b4 := Nat.le_trans Kp_6.1 sz4
  have N4 := Fr.app N0 Nq4
  refine Fini.st st4 ?_
  show Fini p e below s _ _ _ T4 (mkF m 21 #[.val (.int p0)] [(.ref b4), (.ref b3), (.ref b3)])
  refine Fini.st (fun _ k => XS.iconst X4.here hx rfl (hb hby d5_21) k) ?_
  show Fini p e below s _ _ _ T4 (mkF m 22 #[.val (.int p0)] [(.int (0 : Int32)), (.ref b4), (.ref b3), (.ref b3)])
  have Zs_8 : n0 ≤ T4.heap.size := (Nat.le_trans Zs_5 K4.1)
  have Ex_9 : Exa Z T4.heap b3 "java/lang/String" := (A3.keep K4)
  have F_10 : Fld Z T4.heap b3 "java/lang/String" "value" "[B" .null := (Fn3_value.keep K4 nin0)
  have F_11 : Fld Z T4.heap b3 "java/lang/String" "coder" "B" (.int (0 : Int32)) := (Fn3_coder.keep K4 nin0)
  have F_12 : Fld Z T4.heap b3 "java/lang/String" "hash" "I" (.int (0 : Int32)) := (Fn3_hash.keep K4 nin0)
  have F_13 : Fld Z T4.heap b3 "java/lang/String" "hashIsZero" "Z" (.int (0 : Int32)) := (Fn3_hashIsZero.keep K4 nin0)
  obtain ⟨v7, T7, L7, X7, hQ7, st7⟩ := callNew X4 hx hZ hown rfl (hw _ (List.mem_of_getElem? (i := 45) rfl)) (hw _ (List.mem_of_getElem? (i := 46) rfl)) (hw _ (List.mem_of_getElem? (i := 32) rfl)) (hw _ (List.mem_of_getElem? (i := 48) rfl)) (by decide) (rm8 l Z a0 hw [] b3 b4 (0 : Int32) T4.heap n0 Zs_8 Ex_9 F_10 F_11 F_12 F_13 ge_b3) rfl (W := 1) (by decide) (by decide) (by decide) (by decide) (g := (mkF m 22 #[.val (.int p0)] [(.int (0 : Int32)), (.ref b4), (.ref b3), (.ref b3)])) rfl (by rw [hml]; rfl) (argsL := [(.ref b4), (.int (0 : Int32))]) (rest := [(.ref b3)]) rfl (lenOf pd_4 rfl) rfl (by show 2 * 0 + _ ≤ _; exact Nat.le_of_eq rfl) (hb hby d5_22)
  obtain ⟨rfl, Nq7, K7, Fv7, Fc7, Fh7, Fz7⟩ := hQ7
  have N7 := Fr.app N4 Nq7
  refine Fini.st st7 ?_
  show Fini p e below s _ _ _ T7 (mkF m 25 #[.val (.int p0)] [(.ref b3)])
  have Kp_14 : Keep h0 T7.heap [] := (Keep.trans (Keep.trans Kp_6 K4 all0) K7 (allS (P := fun x => x ∈ _ ∨ _ ≤ x) (Or.inr sz_b3) all0))
  have Ex_15 : Exa Z T7.heap b3 "java/lang/String" := (Ex_9.keep K7)
  have Ar_16 : AryI Z T7.heap b4 .byte (1 : Int32) (own_u p0) := (Ar4.keep K7 (ninS (Ne.symm ne_b3_b4) nin0))
  exact Fini.retA X7 hx hlk Bd.returns rfl (hb hby d5_25) rfl rfl (by decide) (by decide) ⟨_, _, rfl, N7, Kp_14, sz_b3, sz_b4, ge_b3, ge_b4, ne_b3_b4, Ex_15, Fv7, Fc7, Fh7, Fz7, Ar_16⟩
theorem d11_0 : decode jdk_42_method_154_code 0 = .ok (.getstatic 38, 3) := by decide +kernel
theorem d11_3 : decode jdk_42_method_154_code 3 = .ok (.ifCond .eq 14, 3) := by decide +kernel
theorem d11_6 : decode jdk_42_method_154_code 6 = .ok (.aload_n 0, 1) := by decide +kernel
theorem d11_7 : decode jdk_42_method_154_code 7 = .ok (.getfield 15, 3) := by decide +kernel
theorem d11_10 : decode jdk_42_method_154_code 10 = .ok (.ifCond .ne 7, 3) := by decide +kernel
theorem d11_13 : decode jdk_42_method_154_code 13 = .ok (.iconst 1, 1) := by decide +kernel
theorem d11_14 : decode jdk_42_method_154_code 14 = .ok (.goto 4, 3) := by decide +kernel
theorem d11_18 : decode jdk_42_method_154_code 18 = .ok (.ireturn, 1) := by decide +kernel
theorem ef11 (m : MethodId) (x0 : Addr) : entryFrame m #[(.ref x0)] 1 = mkF m 0 #[.val (.ref x0)] [] := by first | (simp [entryFrame, mkF, argsToLocals, Value.category]; done) | rfl
def f11 (cs : Int32) : Int32 := (1 : Int32)
set_option maxRecDepth 65536 in
set_option maxHeartbeats 40000000 in
theorem rm11 (l : Launch) (Z : State) (a0 : Array Value) (hw : ∀ d ∈ tables_1, d.before a0 Z = true) (ws : List Jvm.Cond) (o0 : Addr) (cs : Int32) (h0 : Heap) (S_cs : Sta Z h0 "java/lang/String" "COMPACT_STRINGS" "Z" (.int cs)) (F_c : Fld Z h0 o0 "java/lang/String" "coder" "B" (.int (0 : Int32))) (hcs : ¬ cs = (0 : Int32)) :
    Cmet l Z (⟨"java/lang/String", "isLatin1", "()Z"⟩ : MethodName) jdk_42_method_154_code 1 (some .boolean) ws ({ frames := 0, cells := 0, slots := 0, locals := 0 } : Room) #[(.ref o0)] h0 (fun v h' L => v = some (.int (f11 cs)) ∧ h' = h0 ∧ L = []) := by
  refine MetFree.of_bodySF (plainFor_of_name pn_4) hisR ?_
  intro p e s m args below meth c s₁ Bd hml0 hP hK
  obtain ⟨rfl, hZ, hh⟩ := hP
  have hx := Bd.exec
  have hlk : meth.locks = false := BodyLoose.notSynchronized Bd
  have hby := Bd.bytes
  have hml : c.maxLocals = 1 := hml0
  have hown : s.vm.findClass "java/lang/String" = some m.cls := findClass_of_methodNamed Bd.named
  have hnm := (name_of_methodNamed Bd.named Bd.method).1
  have X0 : Stand p l e ({ frames := 0, cells := 0, slots := 0, locals := 0 } : Room) s m #[(.ref o0)] below meth c s₁ [] 0 0 := Stand.of_body Bd
  have e0 : s₁.heap = h0 := by rw [← hh, Bd.state]; rfl
  have hv0 : f11 cs = f11 cs := rfl
  show Fini p e below s (fun v h' L => v = some (.int (f11 cs)) ∧ h' = h0 ∧ L = []) _ _ s₁ (entryFrame m #[(.ref o0)] 1)
  refine Fini.cast (ef11 m o0) ?_
  show Fini p e below s _ _ _ s₁ (mkF m 0 #[.val (.ref o0)] [])
  obtain ⟨T1, X1, e1, st1⟩ := getS2 X0 hx hZ hown (host := "") (Or.inl (hw _ (List.mem_of_getElem? (i := 34) rfl))) Via.refl e0 S_cs (g := (mkF m 0 #[.val (.ref o0)] [])) rfl (hb hby d11_0)
  refine Fini.st st1 ?_
  show Fini p e below s _ _ _ T1 (mkF m 3 #[.val (.ref o0)] [(.int cs)])
  refine Fini.st (fun _ k => XS.ifNo X1.here hx rfl (hb hby d11_3) rfl (XT.i0_eq_f hcs) k) ?_
  show Fini p e below s _ _ _ T1 (mkF m 6 #[.val (.ref o0)] [])
  refine Fini.st (fun _ k => XS.aloadN X1.here hx rfl (hb hby d11_6) rfl rfl k) ?_
  show Fini p e below s _ _ _ T1 (mkF m 7 #[.val (.ref o0)] [(.ref o0)])
  obtain ⟨T2, X2, e2, st2⟩ := getF X1 hx hZ hown (host := "") (Or.inl (hw _ (List.mem_of_getElem? (i := 52) rfl))) Via.refl e1 F_c (g := (mkF m 7 #[.val (.ref o0)] [(.ref o0)])) rfl rfl (hb hby d11_7)
  refine Fini.st st2 ?_
  show Fini p e below s _ _ _ T2 (mkF m 10 #[.val (.ref o0)] [(.int (0 : Int32))])
  refine Fini.st (fun _ k => XS.ifNo X2.here hx rfl (hb hby d11_10) rfl (XT.i0_ne_f (by decide : (0 : Int32) = (0 : Int32))) k) ?_
  show Fini p e below s _ _ _ T2 (mkF m 13 #[.val (.ref o0)] [])
  refine Fini.st (fun _ k => XS.iconst X2.here hx rfl (hb hby d11_13) k) ?_
  show Fini p e below s _ _ _ T2 (mkF m 14 #[.val (.ref o0)] [(.int (1 : Int32))])
  refine Fini.st (fun _ k => XS.goto X2.here hx rfl (pc0 := 14) (pc' := 18) rfl (hb hby d11_14) (by decide) (by decide) k) ?_
  show Fini p e below s _ _ _ T2 (mkF m 18 #[.val (.ref o0)] [(.int (1 : Int32))])
  exact Fini.retN X2 hx hlk (t := .boolean) Bd.returns (by simp) (hb hby d11_18) nb1 (by decide) (by decide) ⟨congrArg (fun z => some (Value.int z)) hv0.symm, e2, rfl⟩
theorem d12_0 : decode jdk_43_method_21_code 0 = .ok (.aload_n 0, 1) := by decide +kernel
theorem d12_1 : decode jdk_43_method_21_code 1 = .ok (.arraylength, 1) := by decide +kernel
theorem d12_2 : decode jdk_43_method_21_code 2 = .ok (.lookupswitch 40 #[(0, 26), (1, 30)], 26) := by decide +kernel
theorem d12_32 : decode jdk_43_method_21_code 32 = .ok (.aload_n 0, 1) := by decide +kernel
theorem d12_33 : decode jdk_43_method_21_code 33 = .ok (.iconst 0, 1) := by decide +kernel
theorem d12_34 : decode jdk_43_method_21_code 34 = .ok (.baload, 1) := by decide +kernel
theorem d12_35 : decode jdk_43_method_21_code 35 = .ok (.sipush 255, 3) := by decide +kernel
theorem d12_38 : decode jdk_43_method_21_code 38 = .ok (.iand, 1) := by decide +kernel
theorem d12_39 : decode jdk_43_method_21_code 39 = .ok (.goto 12, 3) := by decide +kernel
theorem d12_51 : decode jdk_43_method_21_code 51 = .ok (.ireturn, 1) := by decide +kernel
theorem ef12 (m : MethodId) (x0 : Addr) : entryFrame m #[(.ref x0)] 1 = mkF m 0 #[.val (.ref x0)] [] := by first | (simp [entryFrame, mkF, argsToLocals, Value.category]; done) | rfl
def f12 (u : Nat → Int32) : Int32 := ((u 0) &&& (255 : Int32))
set_option maxRecDepth 65536 in
set_option maxHeartbeats 40000000 in
theorem rm12 (l : Launch) (Z : State) (a0 : Array Value) (hw : ∀ d ∈ tables_1, d.before a0 Z = true) (ws : List Jvm.Cond) (o0 : Addr) (u : Nat → Int32) (h0 : Heap) (A_o0 : AryI Z h0 o0 .byte (1 : Int32) u) :
    Cmet l Z (⟨"java/lang/StringLatin1", "hashCode", "([B)I"⟩ : MethodName) jdk_43_method_21_code 1 (some .int) ws ({ frames := 0, cells := 0, slots := 0, locals := 0 } : Room) #[(.ref o0)] h0 (fun v h' L => v = some (.int (f12 u)) ∧ h' = h0 ∧ L = []) := by
  refine MetFree.of_bodySF (plainFor_of_name pn_3) hisR ?_
  intro p e s m args below meth c s₁ Bd hml0 hP hK
  obtain ⟨rfl, hZ, hh⟩ := hP
  have hx := Bd.exec
  have hlk : meth.locks = false := BodyLoose.notSynchronized Bd
  have hby := Bd.bytes
  have hml : c.maxLocals = 1 := hml0
  have hown : s.vm.findClass "java/lang/StringLatin1" = some m.cls := findClass_of_methodNamed Bd.named
  have hnm := (name_of_methodNamed Bd.named Bd.method).1
  have X0 : Stand p l e ({ frames := 0, cells := 0, slots := 0, locals := 0 } : Room) s m #[(.ref o0)] below meth c s₁ [] 0 0 := Stand.of_body Bd
  have e0 : s₁.heap = h0 := by rw [← hh, Bd.state]; rfl
  have hv0 : f12 u = f12 u := rfl
  show Fini p e below s (fun v h' L => v = some (.int (f12 u)) ∧ h' = h0 ∧ L = []) _ _ s₁ (entryFrame m #[(.ref o0)] 1)
  refine Fini.cast (ef12 m o0) ?_
  show Fini p e below s _ _ _ s₁ (mkF m 0 #[.val (.ref o0)] [])
  refine Fini.st (fun _ k => XS.aloadN X0.here hx rfl (hb hby d12_0) rfl rfl k) ?_
  show Fini p e below s _ _ _ s₁ (mkF m 1 #[.val (.ref o0)] [(.ref o0)])
  refine Fini.st (fun _ k => A_o0.len X0 hx hZ e0 rfl rfl (hb hby d12_1) k) ?_
  show Fini p e below s _ _ _ s₁ (mkF m 2 #[.val (.ref o0)] [(.int (1 : Int32))])
  refine Fini.st (fun _ k => lswHit X0 hx (g := (mkF m 2 #[.val (.ref o0)] [(.int (1 : Int32))])) rfl (pc0 := 2) (pc' := 32) rfl (hb hby d12_2) rfl (by decide) (a := 1) (off := 30) (by decide) (by decide) (by decide) k) ?_
  show Fini p e below s _ _ _ s₁ (mkF m 32 #[.val (.ref o0)] [])
  refine Fini.st (fun _ k => XS.aloadN X0.here hx rfl (hb hby d12_32) rfl rfl k) ?_
  show Fini p e below s _ _ _ s₁ (mkF m 33 #[.val (.ref o0)] [(.ref o0)])
  refine Fini.st (fun _ k => XS.iconst X0.here hx rfl (hb hby d12_33) k) ?_
  show Fini p e below s _ _ _ s₁ (mkF m 34 #[.val (.ref o0)] [(.int (0 : Int32)), (.ref o0)])
  refine Fini.st (fun _ k => A_o0.loadB X0 hx hZ e0 ⟨by decide, by decide⟩ rfl rfl (hb hby d12_34) k) ?_
  show Fini p e below s _ _ _ s₁ (mkF m 35 #[.val (.ref o0)] [(.int (u 0))])
  refine Fini.st (fun _ k => XS.sipush X0.here hx rfl (hb hby d12_35) k) ?_
  show Fini p e below s _ _ _ s₁ (mkF m 38 #[.val (.ref o0)] [(.int (255 : Int32)), (.int (u 0))])
  refine Fini.st (fun _ k => XS.iand X0.here hx rfl (hb hby d12_38) rfl k) ?_
  show Fini p e below s _ _ _ s₁ (mkF m 39 #[.val (.ref o0)] [(.int ((u 0) &&& (255 : Int32)))])
  refine Fini.st (fun _ k => XS.goto X0.here hx rfl (pc0 := 39) (pc' := 51) rfl (hb hby d12_39) (by decide) (by decide) k) ?_
  show Fini p e below s _ _ _ s₁ (mkF m 51 #[.val (.ref o0)] [(.int ((u 0) &&& (255 : Int32)))])
  exact Fini.retI X0 hx hlk Bd.returns (hb hby d12_51) (by decide) (by decide) ⟨congrArg (fun z => some (Value.int z)) hv0.symm, e0, rfl⟩
theorem pd_5 : parseMethodDescriptor "()Z" = some ⟨[], some .boolean⟩ := by decide +kernel
theorem pd_6 : parseMethodDescriptor "([B)I" = some ⟨[(.array .byte)], some .int⟩ := by decide +kernel
theorem d10_0 : decode jdk_42_method_78_code 0 = .ok (.aload_n 0, 1) := by decide +kernel
theorem d10_1 : decode jdk_42_method_78_code 1 = .ok (.getfield 19, 3) := by decide +kernel
theorem d10_4 : decode jdk_42_method_78_code 4 = .ok (.istore_n 1, 1) := by decide +kernel
theorem d10_5 : decode jdk_42_method_78_code 5 = .ok (.iload_n 1, 1) := by decide +kernel
theorem d10_6 : decode jdk_42_method_78_code 6 = .ok (.ifCond .ne 52, 3) := by decide +kernel
theorem d10_9 : decode jdk_42_method_78_code 9 = .ok (.aload_n 0, 1) := by decide +kernel
theorem d10_10 : decode jdk_42_method_78_code 10 = .ok (.getfield 23, 3) := by decide +kernel
theorem d10_13 : decode jdk_42_method_78_code 13 = .ok (.ifCond .ne 45, 3) := by decide +kernel
theorem d10_16 : decode jdk_42_method_78_code 16 = .ok (.aload_n 0, 1) := by decide +kernel
theorem d10_17 : decode jdk_42_method_78_code 17 = .ok (.invokevirtual 492, 3) := by decide +kernel
theorem d10_20 : decode jdk_42_method_78_code 20 = .ok (.ifCond .eq 13, 3) := by decide +kernel
theorem d10_23 : decode jdk_42_method_78_code 23 = .ok (.aload_n 0, 1) := by decide +kernel
theorem d10_24 : decode jdk_42_method_78_code 24 = .ok (.getfield 9, 3) := by decide +kernel
theorem d10_27 : decode jdk_42_method_78_code 27 = .ok (.invokestatic 628, 3) := by decide +kernel
theorem d10_30 : decode jdk_42_method_78_code 30 = .ok (.goto 10, 3) := by decide +kernel
theorem d10_40 : decode jdk_42_method_78_code 40 = .ok (.istore_n 1, 1) := by decide +kernel
theorem d10_41 : decode jdk_42_method_78_code 41 = .ok (.iload_n 1, 1) := by decide +kernel
theorem d10_42 : decode jdk_42_method_78_code 42 = .ok (.ifCond .ne 11, 3) := by decide +kernel
theorem d10_45 : decode jdk_42_method_78_code 45 = .ok (.aload_n 0, 1) := by decide +kernel
theorem d10_46 : decode jdk_42_method_78_code 46 = .ok (.iconst 1, 1) := by decide +kernel
theorem d10_47 : decode jdk_42_method_78_code 47 = .ok (.putfield 23, 3) := by decide +kernel
theorem d10_50 : decode jdk_42_method_78_code 50 = .ok (.goto 8, 3) := by decide +kernel
theorem d10_53 : decode jdk_42_method_78_code 53 = .ok (.aload_n 0, 1) := by decide +kernel
theorem d10_54 : decode jdk_42_method_78_code 54 = .ok (.iload_n 1, 1) := by decide +kernel
theorem d10_55 : decode jdk_42_method_78_code 55 = .ok (.putfield 19, 3) := by decide +kernel
theorem d10_58 : decode jdk_42_method_78_code 58 = .ok (.iload_n 1, 1) := by decide +kernel
theorem d10_59 : decode jdk_42_method_78_code 59 = .ok (.ireturn, 1) := by decide +kernel
theorem ef10 (m : MethodId) (x0 : Addr) : entryFrame m #[(.ref x0)] 2 = mkF m 0 #[.val (.ref x0), .unset] [] := by first | (simp [entryFrame, mkF, argsToLocals, Value.category]; done) | rfl
set_option maxRecDepth 65536 in
set_option maxHeartbeats 40000000 in
theorem rm10 (l : Launch) (Z : State) (a0 : Array Value) (hw : ∀ d ∈ tables_1, d.before a0 Z = true) (ws : List Jvm.Cond) (o0 : Addr) (cs : Int32) (ar : Addr) (u : Nat → Int32) (h0 : Heap) (n0 : Nat) (Z0 : n0 ≤ h0.size) (E_o0 : Exa Z h0 o0 "java/lang/String") (Fv_o0 : Fld Z h0 o0 "java/lang/String" "value" "[B" (.ref ar)) (Fc_o0 : Fld Z h0 o0 "java/lang/String" "coder" "B" (.int (0 : Int32))) (Fh_o0 : Fld Z h0 o0 "java/lang/String" "hash" "I" (.int (0 : Int32))) (Fz_o0 : Fld Z h0 o0 "java/lang/String" "hashIsZero" "Z" (.int (0 : Int32))) (A_o0 : AryI Z h0 ar .byte (1 : Int32) u) (D0 : Old Z n0 h0) (S_cs : Sta Z Z.heap "java/lang/String" "COMPACT_STRINGS" "Z" (.int cs)) (g0 : n0 ≤ o0) (hcs : ¬ cs = (0 : Int32)) :
    Cmet l Z (⟨"java/lang/String", "hashCode", "()I"⟩ : MethodName) jdk_42_method_78_code 2 (some .int) ws ({ frames := 1, cells := 0, slots := 0, locals := 12 } : Room) #[(.ref o0)] h0 (fun v h' L => v = some (.int (f12 u)) ∧ Fr n0 L ∧ Keep h0 h' [o0]) := by
  refine MetFree.of_bodySF (plainFor_of_name pn_4) hisR ?_
  intro p e s m args below meth c s₁ Bd hml0 hP hK
  obtain ⟨rfl, hZ, hh⟩ := hP
  have hx := Bd.exec
  have hlk : meth.locks = false := BodyLoose.notSynchronized Bd
  have hby := Bd.bytes
  have hml : c.maxLocals = 2 := hml0
  have hown : s.vm.findClass "java/lang/String" = some m.cls := findClass_of_methodNamed Bd.named
  have hnm := (name_of_methodNamed Bd.named Bd.method).1
  have X0 : Stand p l e ({ frames := 1, cells := 0, slots := 0, locals := 12 } : Room) s m #[(.ref o0)] below meth c s₁ [] 0 0 := Stand.of_body Bd
  have e0 : s₁.heap = h0 := by rw [← hh, Bd.state]; rfl
  have N0 := Fr.nil n0
  show Fini p e below s (fun v h' L => v = some (.int (f12 u)) ∧ Fr n0 L ∧ Keep h0 h' [o0]) _ _ s₁ (entryFrame m #[(.ref o0)] 2)
  refine Fini.cast (ef10 m o0) ?_
  show Fini p e below s _ _ _ s₁ (mkF m 0 #[.val (.ref o0), .unset] [])
  refine Fini.st (fun _ k => XS.aloadN X0.here hx rfl (hb hby d10_0) rfl rfl k) ?_
  show Fini p e below s _ _ _ s₁ (mkF m 1 #[.val (.ref o0), .unset] [(.ref o0)])
  obtain ⟨T1, X1, e1, st1⟩ := getF X0 hx hZ hown (host := "") (Or.inl (hw _ (List.mem_of_getElem? (i := 65) rfl))) Via.refl e0 Fh_o0 (g := (mkF m 1 #[.val (.ref o0), .unset] [(.ref o0)])) rfl rfl (hb hby d10_1)
  refine Fini.st st1 ?_
  show Fini p e below s _ _ _ T1 (mkF m 4 #[.val (.ref o0), .unset] [(.int (0 : Int32))])
  refine Fini.st (fun _ k => XS.istoreN X1.here hx rfl (hb hby d10_4) rfl (l' := #[.val (.ref o0), .val (.int (0 : Int32))]) rfl k) ?_
  show Fini p e below s _ _ _ T1 (mkF m 5 #[.val (.ref o0), .val (.int (0 : Int32))] [])
  refine Fini.st (fun _ k => XS.iloadN X1.here hx rfl (hb hby d10_5) rfl k) ?_
  show Fini p e below s _ _ _ T1 (mkF m 6 #[.val (.ref o0), .val (.int (0 : Int32))] [(.int (0 : Int32))])
  refine Fini.st (fun _ k => XS.ifNo X1.here hx rfl (hb hby d10_6) rfl (XT.i0_ne_f (by decide : (0 : Int32) = (0 : Int32))) k) ?_
  show Fini p e below s _ _ _ T1 (mkF m 9 #[.val (.ref o0), .val (.int (0 : Int32))] [])
  refine Fini.st (fun _ k => XS.aloadN X1.here hx rfl (hb hby d10_9) rfl rfl k) ?_
  show Fini p e below s _ _ _ T1 (mkF m 10 #[.val (.ref o0), .val (.int (0 : Int32))] [(.ref o0)])
  obtain ⟨T2, X2, e2, st2⟩ := getF X1 hx hZ hown (host := "") (Or.inl (hw _ (List.mem_of_getElem? (i := 67) rfl))) Via.refl e1 Fz_o0 (g := (mkF m 10 #[.val (.ref o0), .val (.int (0 : Int32))] [(.ref o0)])) rfl rfl (hb hby d10_10)
  refine Fini.st st2 ?_
  show Fini p e below s _ _ _ T2 (mkF m 13 #[.val (.ref o0), .val (.int (0 : Int32))] [(.int (0 : Int32))])
  refine Fini.st (fun _ k => XS.ifNo X2.here hx rfl (hb hby d10_13) rfl (XT.i0_ne_f (by decide : (0 : Int32) = (0 : Int32))) k) ?_
  show Fini p e below s _ _ _ T2 (mkF m 16 #[.val (.ref o0), .val (.int (0 : Int32))] [])
  refine Fini.st (fun _ k => XS.aloadN X2.here hx rfl (hb hby d10_16) rfl rfl k) ?_
  show Fini p e below s _ _ _ T2 (mkF m 17 #[.val (.ref o0), .val (.int (0 : Int32))] [(.ref o0)])
  obtain ⟨T3, X3, e3, st3⟩ := pureV X2 hx hZ hown (hw _ (List.mem_of_getElem? (i := 69) rfl)) (hw _ (List.mem_of_getElem? (i := 70) rfl)) (hw _ (List.mem_of_getElem? (i := 72) rfl)) (hw _ (List.mem_of_getElem? (i := 71) rfl)) (hw _ (List.mem_of_getElem? (i := 32) rfl)) (hw _ (List.mem_of_getElem? (i := 73) rfl)) (notFace_of_selects (args := #[]) (mvT hZ (hw _ (List.mem_of_getElem? (i := 72) rfl)))) E_o0 (by decide) (rm11 l Z a0 hw [] o0 cs h0 (Sta.ext D0.2 S_cs) Fc_o0 hcs) e2 (W := 0) (by decide) (by decide) (by decide) (by decide) (g := (mkF m 17 #[.val (.ref o0), .val (.int (0 : Int32))] [(.ref o0)])) rfl (by rw [hml]; rfl) (argsL := []) (rest := []) rfl (lenOf pd_5 rfl) rfl (by show 2 * 0 + _ ≤ _; exact Nat.le_of_eq rfl) (hb hby d10_17)
  refine Fini.st st3 ?_
  show Fini p e below s _ _ _ T3 (mkF m 20 #[.val (.ref o0), .val (.int (0 : Int32))] [(.int (1 : Int32))])
  refine Fini.st (fun _ k => XS.ifNo X3.here hx rfl (hb hby d10_20) rfl (XT.i0_eq_f (by decide : ¬ (1 : Int32) = (0 : Int32))) k) ?_
  show Fini p e below s _ _ _ T3 (mkF m 23 #[.val (.ref o0), .val (.int (0 : Int32))] [])
  refine Fini.st (fun _ k => XS.aloadN X3.here hx rfl (hb hby d10_23) rfl rfl k) ?_
  show Fini p e below s _ _ _ T3 (mkF m 24 #[.val (.ref o0), .val (.int (0 : Int32))] [(.ref o0)])
  obtain ⟨T4, X4, e4, st4⟩ := getF X3 hx hZ hown (host := "") (Or.inl (hw _ (List.mem_of_getElem? (i := 50) rfl))) Via.refl e3 Fv_o0 (g := (mkF m 24 #[.val (.ref o0), .val (.int (0 : Int32))] [(.ref o0)])) rfl rfl (hb hby d10_24)
  refine Fini.st st4 ?_
  show Fini p e below s _ _ _ T4 (mkF m 27 #[.val (.ref o0), .val (.int (0 : Int32))] [(.ref ar)])
  obtain ⟨T5, X5, e5, st5⟩ := pureS X4 hx hZ hown (hw _ (List.mem_of_getElem? (i := 74) rfl)) (hw _ (List.mem_of_getElem? (i := 75) rfl)) (hw _ (List.mem_of_getElem? (i := 37) rfl)) (hw _ (List.mem_of_getElem? (i := 76) rfl)) (by decide) (rm12 l Z a0 hw [] ar u h0 A_o0) e4 (W := 0) (by decide) (by decide) (by decide) (by decide) (g := (mkF m 27 #[.val (.ref o0), .val (.int (0 : Int32))] [(.ref ar)])) rfl (by rw [hml]; rfl) (argsL := [(.ref ar)]) (rest := []) rfl (lenOf pd_6 rfl) rfl (by show 2 * 0 + _ ≤ _; exact Nat.le_of_eq rfl) (hb hby d10_27)
  refine Fini.st st5 ?_
  show Fini p e below s _ _ _ T5 (mkF m 30 #[.val (.ref o0), .val (.int (0 : Int32))] [(.int (f12 u))])
  refine Fini.st (fun _ k => XS.goto X5.here hx rfl (pc0 := 30) (pc' := 40) rfl (hb hby d10_30) (by decide) (by decide) k) ?_
  show Fini p e below s _ _ _ T5 (mkF m 40 #[.val (.ref o0), .val (.int (0 : Int32))] [(.int (f12 u))])
  refine Fini.st (fun _ k => XS.istoreN X5.here hx rfl (hb hby d10_40) rfl (l' := #[.val (.ref o0), .val (.int (f12 u))]) rfl k) ?_
  show Fini p e below s _ _ _ T5 (mkF m 41 #[.val (.ref o0), .val (.int (f12 u))] [])
  refine Fini.st (fun _ k => XS.iloadN X5.here hx rfl (hb hby d10_41) rfl k) ?_
  show Fini p e below s _ _ _ T5 (mkF m 42 #[.val (.ref o0), .val (.int (f12 u))] [(.int (f12 u))])
  by_cases c6 : (f12 u) = (0 : Int32)
  · skip
    refine Fini.st (fun _ k => XS.ifNo X5.here hx rfl (hb hby d10_42) rfl (XT.i0_ne_f c6) k) ?_
    show Fini p e below s _ _ _ T5 (mkF m 45 #[.val (.ref o0), .val (.int (f12 u))] [])
    refine Fini.st (fun _ k => XS.aloadN X5.here hx rfl (hb hby d10_45) rfl rfl k) ?_
    show Fini p e below s _ _ _ T5 (mkF m 46 #[.val (.ref o0), .val (.int (f12 u))] [(.ref o0)])
    refine Fini.st (fun _ k => XS.iconst X5.here hx rfl (hb hby d10_46) k) ?_
    show Fini p e below s _ _ _ T5 (mkF m 47 #[.val (.ref o0), .val (.int (f12 u))] [(.int (1 : Int32)), (.ref o0)])
    obtain ⟨T7, h7, X7, e7, W7, st7⟩ := putFN X5 hx hZ hown (hw _ (List.mem_of_getElem? (i := 67) rfl)) Via.refl e5 Fz_o0 E_o0 (Or.inl (hw _ (List.mem_of_getElem? (i := 68) rfl))) (hw _ (List.mem_of_getElem? (i := 40) rfl)) (ty := .boolean) (v' := .int (1 : Int32)) (by decide) rfl rfl (g := (mkF m 47 #[.val (.ref o0), .val (.int (f12 u))] [(.int (1 : Int32)), (.ref o0)])) rfl rfl (hb hby d10_47)
    have Fw7 : Fld Z h7 o0 "java/lang/String" "hashIsZero" "Z" (.int (1 : Int32)) := Fz_o0.same W7
    refine Fini.st st7 ?_
    have N7 := Fr.snoc X7 N0 g0
    show Fini p e below s _ _ _ T7 (mkF m 50 #[.val (.ref o0), .val (.int (f12 u))] [])
    refine Fini.st (fun _ k => XS.goto X7.here hx rfl (pc0 := 50) (pc' := 58) rfl (hb hby d10_50) (by decide) (by decide) k) ?_
    show Fini p e below s _ _ _ T7 (mkF m 58 #[.val (.ref o0), .val (.int (f12 u))] [])
    refine Fini.st (fun _ k => XS.iloadN X7.here hx rfl (hb hby d10_58) rfl k) ?_
    show Fini p e below s _ _ _ T7 (mkF m 59 #[.val (.ref o0), .val (.int (f12 u))] [(.int (f12 u))])
    have Kp_8 : Keep h0 h7 [o0] := (Keep.wr (Keep.refl h0 [o0]) W7 (Or.inl (List.mem_of_getElem? (i := 0) rfl)))
    exact Fini.retI X7 hx hlk Bd.returns (hb hby d10_59) (by decide) (by decide) ⟨rfl, N7, (by rw [e7]; exact Kp_8)⟩
  · skip
    refine Fini.st (fun _ k => XS.ifYes X5.here hx rfl (pc0 := 42) (pc' := 53) rfl (hb hby d10_42) rfl (XT.i0_ne_t c6) (by decide) (by decide) k) ?_
    show Fini p e below s _ _ _ T5 (mkF m 53 #[.val (.ref o0), .val (.int (f12 u))] [])
    refine Fini.st (fun _ k => XS.aloadN X5.here hx rfl (hb hby d10_53) rfl rfl k) ?_
    show Fini p e below s _ _ _ T5 (mkF m 54 #[.val (.ref o0), .val (.int (f12 u))] [(.ref o0)])
    refine Fini.st (fun _ k => XS.iloadN X5.here hx rfl (hb hby d10_54) rfl k) ?_
    show Fini p e below s _ _ _ T5 (mkF m 55 #[.val (.ref o0), .val (.int (f12 u))] [(.int (f12 u)), (.ref o0)])
    obtain ⟨T9, h9, X9, e9, W9, st9⟩ := putF X5 hx hZ hown (host := "") (Or.inl (hw _ (List.mem_of_getElem? (i := 65) rfl))) Via.refl e5 Fh_o0 E_o0 (Or.inl (hw _ (List.mem_of_getElem? (i := 66) rfl))) (hw _ (List.mem_of_getElem? (i := 40) rfl)) (ty := .int) (by decide) rfl rfl (g := (mkF m 55 #[.val (.ref o0), .val (.int (f12 u))] [(.int (f12 u)), (.ref o0)])) rfl rfl (hb hby d10_55)
    have Fw9 : Fld Z h9 o0 "java/lang/String" "hash" "I" (.int (f12 u)) := Fh_o0.same W9
    refine Fini.st st9 ?_
    have N9 := Fr.snoc X9 N0 g0
    show Fini p e below s _ _ _ T9 (mkF m 58 #[.val (.ref o0), .val (.int (f12 u))] [])
    refine Fini.st (fun _ k => XS.iloadN X9.here hx rfl (hb hby d10_58) rfl k) ?_
    show Fini p e below s _ _ _ T9 (mkF m 59 #[.val (.ref o0), .val (.int (f12 u))] [(.int (f12 u))])
    have Kp_10 : Keep h0 h9 [o0] := (Keep.wr (Keep.refl h0 [o0]) W9 (Or.inl (List.mem_of_getElem? (i := 0) rfl)))
    exact Fini.retI X9 hx hlk Bd.returns (hb hby d10_59) (by decide) (by decide) ⟨rfl, N9, (by rw [e9]; exact Kp_10)⟩
theorem d13_0 : decode method_2_code 0 = .ok (.ldc2_w 7, 3) := by decide +kernel
theorem d13_3 : decode method_2_code 3 = .ok (.lload_n 0, 1) := by decide +kernel
theorem d13_4 : decode method_2_code 4 = .ok (.lmul, 1) := by decide +kernel
theorem d13_5 : decode method_2_code 5 = .ok (.iload_n 2, 1) := by decide +kernel
theorem d13_6 : decode method_2_code 6 = .ok (.i2l, 1) := by decide +kernel
theorem d13_7 : decode method_2_code 7 = .ok (.ladd, 1) := by decide +kernel
theorem d13_8 : decode method_2_code 8 = .ok (.lstore 5, 2) := by decide +kernel
theorem d13_10 : decode method_2_code 10 = .ok (.ldc2_w 7, 3) := by decide +kernel
theorem d13_13 : decode method_2_code 13 = .ok (.lload 5, 2) := by decide +kernel
theorem d13_15 : decode method_2_code 15 = .ok (.lmul, 1) := by decide +kernel
theorem d13_16 : decode method_2_code 16 = .ok (.iload_n 3, 1) := by decide +kernel
theorem d13_17 : decode method_2_code 17 = .ok (.i2l, 1) := by decide +kernel
theorem d13_18 : decode method_2_code 18 = .ok (.ladd, 1) := by decide +kernel
theorem d13_19 : decode method_2_code 19 = .ok (.lstore 5, 2) := by decide +kernel
theorem d13_21 : decode method_2_code 21 = .ok (.ldc2_w 7, 3) := by decide +kernel
theorem d13_24 : decode method_2_code 24 = .ok (.lload 5, 2) := by decide +kernel
theorem d13_26 : decode method_2_code 26 = .ok (.lmul, 1) := by decide +kernel
theorem d13_27 : decode method_2_code 27 = .ok (.iload 4, 2) := by decide +kernel
theorem d13_29 : decode method_2_code 29 = .ok (.i2l, 1) := by decide +kernel
theorem d13_30 : decode method_2_code 30 = .ok (.ladd, 1) := by decide +kernel
theorem d13_31 : decode method_2_code 31 = .ok (.lstore 5, 2) := by decide +kernel
theorem d13_33 : decode method_2_code 33 = .ok (.lload 5, 2) := by decide +kernel
theorem d13_35 : decode method_2_code 35 = .ok (.lreturn, 1) := by decide +kernel
theorem pn_5 : plainName "com/example/framewire/framewire/bench/TallyEqualsPinLaw" = true := by first | (simp [plainName, overriddenIn]; done) | decide +kernel
theorem ef13 (m : MethodId) (x0 : Int64) (x1 : Int32) (x2 : Int32) (x3 : Int32) : entryFrame m #[(.long x0), (.int x1), (.int x2), (.int x3)] 7 = mkF m 0 #[.val (.long x0), .second, .val (.int x1), .val (.int x2), .val (.int x3), .unset, .unset] [] := by first | (simp [entryFrame, mkF, argsToLocals, Value.category]; done) | rfl
def g13_31 (q0 : Int64) (p1 : Int32) (p2 : Int32) (p3 : Int32) : Int64 := (((31 : Int64) * (((31 : Int64) * (((31 : Int64) * q0) + p1.toInt64)) + p2.toInt64)) + p3.toInt64)
def f13 (q0 : Int64) (p1 : Int32) (p2 : Int32) (p3 : Int32) : Int64 := (g13_31 q0 p1 p2 p3)
set_option maxRecDepth 65536 in
set_option maxHeartbeats 40000000 in
theorem rm13 (l : Launch) (Z : State) (a0 : Array Value) (hw : ∀ d ∈ tables_1, d.before a0 Z = true) (ws : List Jvm.Cond) (q0 : Int64) (p1 : Int32) (p2 : Int32) (p3 : Int32) (h0 : Heap) :
    Cmet l Z (⟨"com/example/framewire/framewire/bench/TallyEqualsPinLaw", "step", "(JIII)J"⟩ : MethodName) method_2_code 7 (some .long) ws ({ frames := 0, cells := 0, slots := 0, locals := 0 } : Room) #[(.long q0), (.int p1), (.int p2), (.int p3)] h0 (fun v h' L => v = some (.long (f13 q0 p1 p2 p3)) ∧ h' = h0 ∧ L = []) := by
  refine MetFree.of_bodySF (plainFor_of_name pn_5) hisR ?_
  intro p e s m args below meth c s₁ Bd hml0 hP hK
  obtain ⟨rfl, hZ, hh⟩ := hP
  have hx := Bd.exec
  have hlk : meth.locks = false := BodyLoose.notSynchronized Bd
  have hby := Bd.bytes
  have hml : c.maxLocals = 7 := hml0
  have hown : s.vm.findClass "com/example/framewire/framewire/bench/TallyEqualsPinLaw" = some m.cls := findClass_of_methodNamed Bd.named
  have hnm := (name_of_methodNamed Bd.named Bd.method).1
  have X0 : Stand p l e ({ frames := 0, cells := 0, slots := 0, locals := 0 } : Room) s m #[(.long q0), (.int p1), (.int p2), (.int p3)] below meth c s₁ [] 0 0 := Stand.of_body Bd
  have e0 : s₁.heap = h0 := by rw [← hh, Bd.state]; rfl
  have hv0 : f13 q0 p1 p2 p3 = f13 q0 p1 p2 p3 := rfl
  show Fini p e below s (fun v h' L => v = some (.long (f13 q0 p1 p2 p3)) ∧ h' = h0 ∧ L = []) _ _ s₁ (entryFrame m #[(.long q0), (.int p1), (.int p2), (.int p3)] 7)
  refine Fini.cast (ef13 m q0 p1 p2 p3) ?_
  show Fini p e below s _ _ _ s₁ (mkF m 0 #[.val (.long q0), .second, .val (.int p1), .val (.int p2), .val (.int p3), .unset, .unset] [])
  refine Fini.st (fun _ k => X0.ldc2J hx hown (mvT hZ (hw _ (List.mem_of_getElem? (i := 81) rfl))) rfl (hb hby d13_0) k) ?_
  show Fini p e below s _ _ _ s₁ (mkF m 3 #[.val (.long q0), .second, .val (.int p1), .val (.int p2), .val (.int p3), .unset, .unset] [(.long (31 : Int64))])
  refine Fini.st (fun _ k => XS.lloadN X0.here hx rfl (hb hby d13_3) rfl k) ?_
  show Fini p e below s _ _ _ s₁ (mkF m 4 #[.val (.long q0), .second, .val (.int p1), .val (.int p2), .val (.int p3), .unset, .unset] [(.long q0), (.long (31 : Int64))])
  refine Fini.st (fun _ k => XS.lmul X0.here hx rfl (hb hby d13_4) rfl k) ?_
  show Fini p e below s _ _ _ s₁ (mkF m 5 #[.val (.long q0), .second, .val (.int p1), .val (.int p2), .val (.int p3), .unset, .unset] [(.long ((31 : Int64) * q0))])
  refine Fini.st (fun _ k => XS.iloadN X0.here hx rfl (hb hby d13_5) rfl k) ?_
  show Fini p e below s _ _ _ s₁ (mkF m 6 #[.val (.long q0), .second, .val (.int p1), .val (.int p2), .val (.int p3), .unset, .unset] [(.int p1), (.long ((31 : Int64) * q0))])
  refine Fini.st (fun _ k => XS.i2l X0.here hx rfl (hb hby d13_6) rfl k) ?_
  show Fini p e below s _ _ _ s₁ (mkF m 7 #[.val (.long q0), .second, .val (.int p1), .val (.int p2), .val (.int p3), .unset, .unset] [(.long p1.toInt64), (.long ((31 : Int64) * q0))])
  refine Fini.st (fun _ k => XS.ladd X0.here hx rfl (hb hby d13_7) rfl k) ?_
  show Fini p e below s _ _ _ s₁ (mkF m 8 #[.val (.long q0), .second, .val (.int p1), .val (.int p2), .val (.int p3), .unset, .unset] [(.long (((31 : Int64) * q0) + p1.toInt64))])
  refine Fini.st (fun _ k => XS.lstore X0.here hx rfl (hb hby d13_8) rfl (l' := #[.val (.long q0), .second, .val (.int p1), .val (.int p2), .val (.int p3), .val (.long (((31 : Int64) * q0) + p1.toInt64)), .second]) rfl k) ?_
  show Fini p e below s _ _ _ s₁ (mkF m 10 #[.val (.long q0), .second, .val (.int p1), .val (.int p2), .val (.int p3), .val (.long (((31 : Int64) * q0) + p1.toInt64)), .second] [])
  refine Fini.st (fun _ k => X0.ldc2J hx hown (mvT hZ (hw _ (List.mem_of_getElem? (i := 81) rfl))) rfl (hb hby d13_10) k) ?_
  show Fini p e below s _ _ _ s₁ (mkF m 13 #[.val (.long q0), .second, .val (.int p1), .val (.int p2), .val (.int p3), .val (.long (((31 : Int64) * q0) + p1.toInt64)), .second] [(.long (31 : Int64))])
  refine Fini.st (fun _ k => XS.lload X0.here hx rfl (hb hby d13_13) rfl k) ?_
  show Fini p e below s _ _ _ s₁ (mkF m 15 #[.val (.long q0), .second, .val (.int p1), .val (.int p2), .val (.int p3), .val (.long (((31 : Int64) * q0) + p1.toInt64)), .second] [(.long (((31 : Int64) * q0) + p1.toInt64)), (.long (31 : Int64))])
  refine Fini.st (fun _ k => XS.lmul X0.here hx rfl (hb hby d13_15) rfl k) ?_
  show Fini p e below s _ _ _ s₁ (mkF m 16 #[.val (.long q0), .second, .val (.int p1), .val (.int p2), .val (.int p3), .val (.long (((31 : Int64) * q0) + p1.toInt64)), .second] [(.long ((31 : Int64) * (((31 : Int64) * q0) + p1.toInt64)))])
  refine Fini.st (fun _ k => XS.iloadN X0.here hx rfl (hb hby d13_16) rfl k) ?_
  show Fini p e below s _ _ _ s₁ (mkF m 17 #[.val (.long q0), .second, .val (.int p1), .val (.int p2), .val (.int p3), .val (.long (((31 : Int64) * q0) + p1.toInt64)), .second] [(.int p2), (.long ((31 : Int64) * (((31 : Int64) * q0) + p1.toInt64)))])
  refine Fini.st (fun _ k => XS.i2l X0.here hx rfl (hb hby d13_17) rfl k) ?_
  show Fini p e below s _ _ _ s₁ (mkF m 18 #[.val (.long q0), .second, .val (.int p1), .val (.int p2), .val (.int p3), .val (.long (((31 : Int64) * q0) + p1.toInt64)), .second] [(.long p2.toInt64), (.long ((31 : Int64) * (((31 : Int64) * q0) + p1.toInt64)))])
  refine Fini.st (fun _ k => XS.ladd X0.here hx rfl (hb hby d13_18) rfl k) ?_
  show Fini p e below s _ _ _ s₁ (mkF m 19 #[.val (.long q0), .second, .val (.int p1), .val (.int p2), .val (.int p3), .val (.long (((31 : Int64) * q0) + p1.toInt64)), .second] [(.long (((31 : Int64) * (((31 : Int64) * q0) + p1.toInt64)) + p2.toInt64))])
  refine Fini.st (fun _ k => XS.lstore X0.here hx rfl (hb hby d13_19) rfl (l' := #[.val (.long q0), .second, .val (.int p1), .val (.int p2), .val (.int p3), .val (.long (((31 : Int64) * (((31 : Int64) * q0) + p1.toInt64)) + p2.toInt64)), .second]) rfl k) ?_
  show Fini p e below s _ _ _ s₁ (mkF m 21 #[.val (.long q0), .second, .val (.int p1), .val (.int p2), .val (.int p3), .val (.long (((31 : Int64) * (((31 : Int64) * q0) + p1.toInt64)) + p2.toInt64)), .second] [])
  refine Fini.st (fun _ k => X0.ldc2J hx hown (mvT hZ (hw _ (List.mem_of_getElem? (i := 81) rfl))) rfl (hb hby d13_21) k) ?_
  show Fini p e below s _ _ _ s₁ (mkF m 24 #[.val (.long q0), .second, .val (.int p1), .val (.int p2), .val (.int p3), .val (.long (((31 : Int64) * (((31 : Int64) * q0) + p1.toInt64)) + p2.toInt64)), .second] [(.long (31 : Int64))])
  refine Fini.st (fun _ k => XS.lload X0.here hx rfl (hb hby d13_24) rfl k) ?_
  show Fini p e below s _ _ _ s₁ (mkF m 26 #[.val (.long q0), .second, .val (.int p1), .val (.int p2), .val (.int p3), .val (.long (((31 : Int64) * (((31 : Int64) * q0) + p1.toInt64)) + p2.toInt64)), .second] [(.long (((31 : Int64) * (((31 : Int64) * q0) + p1.toInt64)) + p2.toInt64)), (.long (31 : Int64))])
  refine Fini.st (fun _ k => XS.lmul X0.here hx rfl (hb hby d13_26) rfl k) ?_
  show Fini p e below s _ _ _ s₁ (mkF m 27 #[.val (.long q0), .second, .val (.int p1), .val (.int p2), .val (.int p3), .val (.long (((31 : Int64) * (((31 : Int64) * q0) + p1.toInt64)) + p2.toInt64)), .second] [(.long ((31 : Int64) * (((31 : Int64) * (((31 : Int64) * q0) + p1.toInt64)) + p2.toInt64)))])
  refine Fini.st (fun _ k => XS.iload X0.here hx rfl (hb hby d13_27) rfl k) ?_
  show Fini p e below s _ _ _ s₁ (mkF m 29 #[.val (.long q0), .second, .val (.int p1), .val (.int p2), .val (.int p3), .val (.long (((31 : Int64) * (((31 : Int64) * q0) + p1.toInt64)) + p2.toInt64)), .second] [(.int p3), (.long ((31 : Int64) * (((31 : Int64) * (((31 : Int64) * q0) + p1.toInt64)) + p2.toInt64)))])
  refine Fini.st (fun _ k => XS.i2l X0.here hx rfl (hb hby d13_29) rfl k) ?_
  show Fini p e below s _ _ _ s₁ (mkF m 30 #[.val (.long q0), .second, .val (.int p1), .val (.int p2), .val (.int p3), .val (.long (((31 : Int64) * (((31 : Int64) * q0) + p1.toInt64)) + p2.toInt64)), .second] [(.long p3.toInt64), (.long ((31 : Int64) * (((31 : Int64) * (((31 : Int64) * q0) + p1.toInt64)) + p2.toInt64)))])
  refine Fini.st (fun _ k => XS.ladd X0.here hx rfl (hb hby d13_30) rfl k) ?_
  show Fini p e below s _ _ _ s₁ (mkF m 31 #[.val (.long q0), .second, .val (.int p1), .val (.int p2), .val (.int p3), .val (.long (((31 : Int64) * (((31 : Int64) * q0) + p1.toInt64)) + p2.toInt64)), .second] [(.long (((31 : Int64) * (((31 : Int64) * (((31 : Int64) * q0) + p1.toInt64)) + p2.toInt64)) + p3.toInt64))])
  refine Fini.st (fun _ k => XS.lstore X0.here hx rfl (hb hby d13_31) rfl (l' := #[.val (.long q0), .second, .val (.int p1), .val (.int p2), .val (.int p3), .val (.long (g13_31 q0 p1 p2 p3)), .second]) rfl k) ?_
  show Fini p e below s _ _ _ s₁ (mkF m 33 #[.val (.long q0), .second, .val (.int p1), .val (.int p2), .val (.int p3), .val (.long (g13_31 q0 p1 p2 p3)), .second] [])
  refine Fini.st (fun _ k => XS.lload X0.here hx rfl (hb hby d13_33) rfl k) ?_
  show Fini p e below s _ _ _ s₁ (mkF m 35 #[.val (.long q0), .second, .val (.int p1), .val (.int p2), .val (.int p3), .val (.long (g13_31 q0 p1 p2 p3)), .second] [(.long (g13_31 q0 p1 p2 p3))])
  exact Fini.retJ X0 hx hlk Bd.returns (hb hby d13_35) (by decide) (by decide) ⟨congrArg (fun z => some (Value.long z)) hv0.symm, e0, rfl⟩
theorem pd_7 : parseMethodDescriptor "()I" = some ⟨[], some .int⟩ := by decide +kernel
theorem d9_0 : decode prog_34_method_2_code 0 = .ok (.ldc2_w 7, 3) := by decide +kernel
theorem d9_3 : decode prog_34_method_2_code 3 = .ok (.aload_n 0, 1) := by decide +kernel
theorem d9_4 : decode prog_34_method_2_code 4 = .ok (.getfield 9, 3) := by decide +kernel
theorem d9_7 : decode prog_34_method_2_code 7 = .ok (.lmul, 1) := by decide +kernel
theorem d9_8 : decode prog_34_method_2_code 8 = .ok (.iload_n 1, 1) := by decide +kernel
theorem d9_9 : decode prog_34_method_2_code 9 = .ok (.i2l, 1) := by decide +kernel
theorem d9_10 : decode prog_34_method_2_code 10 = .ok (.ladd, 1) := by decide +kernel
theorem d9_11 : decode prog_34_method_2_code 11 = .ok (.lstore 5, 2) := by decide +kernel
theorem d9_13 : decode prog_34_method_2_code 13 = .ok (.aload_n 2, 1) := by decide +kernel
theorem d9_14 : decode prog_34_method_2_code 14 = .ok (.ifnull 17, 3) := by decide +kernel
theorem d9_31 : decode prog_34_method_2_code 31 = .ok (.ldc2_w 7, 3) := by decide +kernel
theorem d9_34 : decode prog_34_method_2_code 34 = .ok (.lload 5, 2) := by decide +kernel
theorem d9_36 : decode prog_34_method_2_code 36 = .ok (.lmul, 1) := by decide +kernel
theorem d9_37 : decode prog_34_method_2_code 37 = .ok (.aload_n 3, 1) := by decide +kernel
theorem d9_38 : decode prog_34_method_2_code 38 = .ok (.invokevirtual 21, 3) := by decide +kernel
theorem d9_41 : decode prog_34_method_2_code 41 = .ok (.i2l, 1) := by decide +kernel
theorem d9_42 : decode prog_34_method_2_code 42 = .ok (.ladd, 1) := by decide +kernel
theorem d9_43 : decode prog_34_method_2_code 43 = .ok (.lstore 5, 2) := by decide +kernel
theorem d9_45 : decode prog_34_method_2_code 45 = .ok (.ldc2_w 7, 3) := by decide +kernel
theorem d9_48 : decode prog_34_method_2_code 48 = .ok (.lload 5, 2) := by decide +kernel
theorem d9_50 : decode prog_34_method_2_code 50 = .ok (.lmul, 1) := by decide +kernel
theorem d9_51 : decode prog_34_method_2_code 51 = .ok (.aload 4, 2) := by decide +kernel
theorem d9_53 : decode prog_34_method_2_code 53 = .ok (.invokevirtual 21, 3) := by decide +kernel
theorem d9_56 : decode prog_34_method_2_code 56 = .ok (.i2l, 1) := by decide +kernel
theorem d9_57 : decode prog_34_method_2_code 57 = .ok (.ladd, 1) := by decide +kernel
theorem d9_58 : decode prog_34_method_2_code 58 = .ok (.lstore 5, 2) := by decide +kernel
theorem d9_60 : decode prog_34_method_2_code 60 = .ok (.aload_n 0, 1) := by decide +kernel
theorem d9_61 : decode prog_34_method_2_code 61 = .ok (.lload 5, 2) := by decide +kernel
theorem d9_63 : decode prog_34_method_2_code 63 = .ok (.putfield 9, 3) := by decide +kernel
theorem d9_66 : decode prog_34_method_2_code 66 = .ok (.aload_n 0, 1) := by decide +kernel
theorem d9_67 : decode prog_34_method_2_code 67 = .ok (.dup, 1) := by decide +kernel
theorem d9_68 : decode prog_34_method_2_code 68 = .ok (.getfield 26, 3) := by decide +kernel
theorem d9_71 : decode prog_34_method_2_code 71 = .ok (.lconst 1, 1) := by decide +kernel
theorem d9_72 : decode prog_34_method_2_code 72 = .ok (.ladd, 1) := by decide +kernel
theorem d9_73 : decode prog_34_method_2_code 73 = .ok (.putfield 26, 3) := by decide +kernel
theorem d9_76 : decode prog_34_method_2_code 76 = .ok (.return_, 1) := by decide +kernel
theorem ef9 (m : MethodId) (x0 : Addr) (x1 : Int32) (x3 : Addr) (x4 : Addr) : entryFrame m #[(.ref x0), (.int x1), .null, (.ref x3), (.ref x4)] 7 = mkF m 0 #[.val (.ref x0), .val (.int x1), .val .null, .val (.ref x3), .val (.ref x4), .unset, .unset] [] := by first | (simp [entryFrame, mkF, argsToLocals, Value.category]; done) | rfl
set_option maxRecDepth 65536 in
set_option maxHeartbeats 40000000 in
theorem rm9 (l : Launch) (Z : State) (a0 : Array Value) (hw : ∀ d ∈ tables_1, d.before a0 Z = true) (ws : List Jvm.Cond) (o0 : Addr) (p1 : Int32) (o3 : Addr) (o4 : Addr) (cs : Int32) (fr : Int64) (ck : Int64) (a3 : Addr) (u3 : Nat → Int32) (a4 : Addr) (u4 : Nat → Int32) (h0 : Heap) (n0 : Nat) (Z0 : n0 ≤ h0.size) (E_o0 : Exa Z h0 o0 "com/example/framewire/framewire/bench/Tally") (F_fr : Fld Z h0 o0 "com/example/framewire/framewire/bench/Tally" "frames" "J" (.long fr)) (F_ck : Fld Z h0 o0 "com/example/framewire/framewire/bench/Tally" "checksum" "J" (.long ck)) (E_o3 : Exa Z h0 o3 "java/lang/String") (Fv_o3 : Fld Z h0 o3 "java/lang/String" "value" "[B" (.ref a3)) (Fc_o3 : Fld Z h0 o3 "java/lang/String" "coder" "B" (.int (0 : Int32))) (Fh_o3 : Fld Z h0 o3 "java/lang/String" "hash" "I" (.int (0 : Int32))) (Fz_o3 : Fld Z h0 o3 "java/lang/String" "hashIsZero" "Z" (.int (0 : Int32))) (A_o3 : AryI Z h0 a3 .byte (1 : Int32) u3) (E_o4 : Exa Z h0 o4 "java/lang/String") (Fv_o4 : Fld Z h0 o4 "java/lang/String" "value" "[B" (.ref a4)) (Fc_o4 : Fld Z h0 o4 "java/lang/String" "coder" "B" (.int (0 : Int32))) (Fh_o4 : Fld Z h0 o4 "java/lang/String" "hash" "I" (.int (0 : Int32))) (Fz_o4 : Fld Z h0 o4 "java/lang/String" "hashIsZero" "Z" (.int (0 : Int32))) (A_o4 : AryI Z h0 a4 .byte (1 : Int32) u4) (D0 : Old Z n0 h0) (S_cs : Sta Z Z.heap "java/lang/String" "COMPACT_STRINGS" "Z" (.int cs)) (g0 : n0 ≤ o0) (g3 : n0 ≤ o3) (g4 : n0 ≤ o4) (n03 : o0 ≠ o3) (n04 : o0 ≠ o4) (n34 : o3 ≠ o4) (n3a : o3 ≠ a4) (hcs : ¬ cs = (0 : Int32)) :
    Cmet l Z (⟨"com/example/framewire/framewire/bench/Tally", "add", "(I[BLjava/lang/String;Ljava/lang/String;)V"⟩ : MethodName) prog_34_method_2_code 7 none ws ({ frames := 2, cells := 0, slots := 0, locals := 27 } : Room) #[(.ref o0), (.int p1), .null, (.ref o3), (.ref o4)] h0 (fun v h' L => v = none ∧ Fr n0 L ∧ Keep h0 h' [o0, o3, o4] ∧ Fld Z h' o0 "com/example/framewire/framewire/bench/Tally" "frames" "J" (.long (fr + (1 : Int64))) ∧ Fld Z h' o0 "com/example/framewire/framewire/bench/Tally" "checksum" "J" (.long (((31 : Int64) * (((31 : Int64) * (((31 : Int64) * ck) + p1.toInt64)) + (f12 u3).toInt64)) + (f12 u4).toInt64))) := by
  refine MetFree.of_bodySF (plainFor_of_name pn_0) hisR ?_
  intro p e s m args below meth c s₁ Bd hml0 hP hK
  obtain ⟨rfl, hZ, hh⟩ := hP
  have hx := Bd.exec
  have hlk : meth.locks = false := BodyLoose.notSynchronized Bd
  have hby := Bd.bytes
  have hml : c.maxLocals = 7 := hml0
  have hown : s.vm.findClass "com/example/framewire/framewire/bench/Tally" = some m.cls := findClass_of_methodNamed Bd.named
  have hnm := (name_of_methodNamed Bd.named Bd.method).1
  have X0 : Stand p l e ({ frames := 2, cells := 0, slots := 0, locals := 27 } : Room) s m #[(.ref o0), (.int p1), .null, (.ref o3), (.ref o4)] below meth c s₁ [] 0 0 := Stand.of_body Bd
  have e0 : s₁.heap = h0 := by rw [← hh, Bd.state]; rfl
  have N0 := Fr.nil n0
  have B31 : ∀ (T_31 : State) (h_31 : Heap) (locs : List Loc) (X_31 : Stand p l e ({ frames := 2, cells := 0, slots := 0, locals := 27 } : Room) s m #[(.ref o0), (.int p1), .null, (.ref o3), (.ref o4)] below meth c T_31 locs 0 0) (e_31 : T_31.heap = h_31) (N_31 : Fr n0 locs) (H31_E_o0 : Exa Z h_31 o0 "com/example/framewire/framewire/bench/Tally") (H31_F_o0_frames : Fld Z h_31 o0 "com/example/framewire/framewire/bench/Tally" "frames" "J" (.long fr)) (H31_F_o0_checksum : Fld Z h_31 o0 "com/example/framewire/framewire/bench/Tally" "checksum" "J" (.long ck)) (H31_E_o3 : Exa Z h_31 o3 "java/lang/String") (H31_F_o3_value : Fld Z h_31 o3 "java/lang/String" "value" "[B" (.ref a3)) (H31_F_o3_coder : Fld Z h_31 o3 "java/lang/String" "coder" "B" (.int (0 : Int32))) (H31_F_o3_hash : Fld Z h_31 o3 "java/lang/String" "hash" "I" (.int (0 : Int32))) (H31_F_o3_hashIsZero : Fld Z h_31 o3 "java/lang/String" "hashIsZero" "Z" (.int (0 : Int32))) (H31_A_a3 : AryI Z h_31 a3 .byte (1 : Int32) u3) (H31_E_o4 : Exa Z h_31 o4 "java/lang/String") (H31_F_o4_value : Fld Z h_31 o4 "java/lang/String" "value" "[B" (.ref a4)) (H31_F_o4_coder : Fld Z h_31 o4 "java/lang/String" "coder" "B" (.int (0 : Int32))) (H31_F_o4_hash : Fld Z h_31 o4 "java/lang/String" "hash" "I" (.int (0 : Int32))) (H31_F_o4_hashIsZero : Fld Z h_31 o4 "java/lang/String" "hashIsZero" "Z" (.int (0 : Int32))) (H31_A_a4 : AryI Z h_31 a4 .byte (1 : Int32) u4) (H31_D : Old Z n0 h_31) (H31_S_java_lang_String_COMPACT_STRINGS : Sta Z Z.heap "java/lang/String" "COMPACT_STRINGS" "Z" (.int cs)) (H31_Z : n0 ≤ h_31.size) (H31_K : Keep h0 h_31 [o0, o3, o4]), Fini p e below s (fun v h' L => v = none ∧ Fr n0 L ∧ Keep h0 h' [o0, o3, o4] ∧ Fld Z h' o0 "com/example/framewire/framewire/bench/Tally" "frames" "J" (.long (fr + (1 : Int64))) ∧ Fld Z h' o0 "com/example/framewire/framewire/bench/Tally" "checksum" "J" (.long (((31 : Int64) * (((31 : Int64) * (((31 : Int64) * ck) + p1.toInt64)) + (f12 u3).toInt64)) + (f12 u4).toInt64))) (Room.cells ({ frames := 2, cells := 0, slots := 0, locals := 27 } : Room)) (Room.slots ({ frames := 2, cells := 0, slots := 0, locals := 27 } : Room)) T_31 (mkF m 31 #[.val (.ref o0), .val (.int p1), .val .null, .val (.ref o3), .val (.ref o4), .val (.long (((31 : Int64) * ck) + p1.toInt64)), .second] []) := by
    intro T_31 h_31 locs  X_31 e_31   N_31 H31_E_o0 H31_F_o0_frames H31_F_o0_checksum H31_E_o3 H31_F_o3_value H31_F_o3_coder H31_F_o3_hash H31_F_o3_hashIsZero H31_A_a3 H31_E_o4 H31_F_o4_value H31_F_o4_coder H31_F_o4_hash H31_F_o4_hashIsZero H31_A_a4 H31_D H31_S_java_lang_String_COMPACT_STRINGS H31_Z H31_K 
    refine Fini.st (fun _ k => X_31.ldc2J hx hown (mvT hZ (hw _ (List.mem_of_getElem? (i := 59) rfl))) rfl (hb hby d9_31) k) ?_
    show Fini p e below s _ _ _ T_31 (mkF m 34 #[.val (.ref o0), .val (.int p1), .val .null, .val (.ref o3), .val (.ref o4), .val (.long (((31 : Int64) * ck) + p1.toInt64)), .second] [(.long (31 : Int64))])
    refine Fini.st (fun _ k => XS.lload X_31.here hx rfl (hb hby d9_34) rfl k) ?_
    show Fini p e below s _ _ _ T_31 (mkF m 36 #[.val (.ref o0), .val (.int p1), .val .null, .val (.ref o3), .val (.ref o4), .val (.long (((31 : Int64) * ck) + p1.toInt64)), .second] [(.long (((31 : Int64) * ck) + p1.toInt64)), (.long (31 : Int64))])
    refine Fini.st (fun _ k => XS.lmul X_31.here hx rfl (hb hby d9_36) rfl k) ?_
    show Fini p e below s _ _ _ T_31 (mkF m 37 #[.val (.ref o0), .val (.int p1), .val .null, .val (.ref o3), .val (.ref o4), .val (.long (((31 : Int64) * ck) + p1.toInt64)), .second] [(.long ((31 : Int64) * (((31 : Int64) * ck) + p1.toInt64)))])
    refine Fini.st (fun _ k => XS.aloadN X_31.here hx rfl (hb hby d9_37) rfl rfl k) ?_
    show Fini p e below s _ _ _ T_31 (mkF m 38 #[.val (.ref o0), .val (.int p1), .val .null, .val (.ref o3), .val (.ref o4), .val (.long (((31 : Int64) * ck) + p1.toInt64)), .second] [(.ref o3), (.long ((31 : Int64) * (((31 : Int64) * ck) + p1.toInt64)))])
    obtain ⟨v2, T2, L2, X2, hQ2, st2⟩ := callV X_31 hx hZ hown (hw _ (List.mem_of_getElem? (i := 60) rfl)) (hw _ (List.mem_of_getElem? (i := 61) rfl)) (hw _ (List.mem_of_getElem? (i := 63) rfl)) (hw _ (List.mem_of_getElem? (i := 62) rfl)) (hw _ (List.mem_of_getElem? (i := 32) rfl)) (hw _ (List.mem_of_getElem? (i := 64) rfl)) (notFace_of_selects (args := #[]) (mvT hZ (hw _ (List.mem_of_getElem? (i := 63) rfl)))) H31_E_o3 (by decide) (rm10 l Z a0 hw [] o3 cs a3 u3 h_31 n0 H31_Z H31_E_o3 H31_F_o3_value H31_F_o3_coder H31_F_o3_hash H31_F_o3_hashIsZero H31_A_a3 H31_D S_cs g3 hcs) e_31 (W := 2) (by decide) (by decide) (by decide) (by decide) (g := (mkF m 38 #[.val (.ref o0), .val (.int p1), .val .null, .val (.ref o3), .val (.ref o4), .val (.long (((31 : Int64) * ck) + p1.toInt64)), .second] [(.ref o3), (.long ((31 : Int64) * (((31 : Int64) * ck) + p1.toInt64)))])) rfl (by rw [hml]; rfl) (argsL := []) (rest := [(.long ((31 : Int64) * (((31 : Int64) * ck) + p1.toInt64)))]) rfl (lenOf pd_7 rfl) rfl (by show 2 * 0 + _ ≤ _; exact Nat.le_of_eq rfl) (hb hby d9_38)
    obtain ⟨rfl, Nq2, K2⟩ := hQ2
    have N2 := Fr.app N_31 Nq2
    refine Fini.st st2 ?_
    show Fini p e below s _ _ _ T2 (mkF m 41 #[.val (.ref o0), .val (.int p1), .val .null, .val (.ref o3), .val (.ref o4), .val (.long (((31 : Int64) * ck) + p1.toInt64)), .second] [(.int (f12 u3)), (.long ((31 : Int64) * (((31 : Int64) * ck) + p1.toInt64)))])
    refine Fini.st (fun _ k => XS.i2l X2.here hx rfl (hb hby d9_41) rfl k) ?_
    show Fini p e below s _ _ _ T2 (mkF m 42 #[.val (.ref o0), .val (.int p1), .val .null, .val (.ref o3), .val (.ref o4), .val (.long (((31 : Int64) * ck) + p1.toInt64)), .second] [(.long (f12 u3).toInt64), (.long ((31 : Int64) * (((31 : Int64) * ck) + p1.toInt64)))])
    refine Fini.st (fun _ k => XS.ladd X2.here hx rfl (hb hby d9_42) rfl k) ?_
    show Fini p e below s _ _ _ T2 (mkF m 43 #[.val (.ref o0), .val (.int p1), .val .null, .val (.ref o3), .val (.ref o4), .val (.long (((31 : Int64) * ck) + p1.toInt64)), .second] [(.long (((31 : Int64) * (((31 : Int64) * ck) + p1.toInt64)) + (f12 u3).toInt64))])
    refine Fini.st (fun _ k => XS.lstore X2.here hx rfl (hb hby d9_43) rfl (l' := #[.val (.ref o0), .val (.int p1), .val .null, .val (.ref o3), .val (.ref o4), .val (.long (((31 : Int64) * (((31 : Int64) * ck) + p1.toInt64)) + (f12 u3).toInt64)), .second]) rfl k) ?_
    show Fini p e below s _ _ _ T2 (mkF m 45 #[.val (.ref o0), .val (.int p1), .val .null, .val (.ref o3), .val (.ref o4), .val (.long (((31 : Int64) * (((31 : Int64) * ck) + p1.toInt64)) + (f12 u3).toInt64)), .second] [])
    refine Fini.st (fun _ k => X2.ldc2J hx hown (mvT hZ (hw _ (List.mem_of_getElem? (i := 59) rfl))) rfl (hb hby d9_45) k) ?_
    show Fini p e below s _ _ _ T2 (mkF m 48 #[.val (.ref o0), .val (.int p1), .val .null, .val (.ref o3), .val (.ref o4), .val (.long (((31 : Int64) * (((31 : Int64) * ck) + p1.toInt64)) + (f12 u3).toInt64)), .second] [(.long (31 : Int64))])
    refine Fini.st (fun _ k => XS.lload X2.here hx rfl (hb hby d9_48) rfl k) ?_
    show Fini p e below s _ _ _ T2 (mkF m 50 #[.val (.ref o0), .val (.int p1), .val .null, .val (.ref o3), .val (.ref o4), .val (.long (((31 : Int64) * (((31 : Int64) * ck) + p1.toInt64)) + (f12 u3).toInt64)), .second] [(.long (((31 : Int64) * (((31 : Int64) * ck) + p1.toInt64)) + (f12 u3).toInt64)), (.long (31 : Int64))])
    refine Fini.st (fun _ k => XS.lmul X2.here hx rfl (hb hby d9_50) rfl k) ?_
    show Fini p e below s _ _ _ T2 (mkF m 51 #[.val (.ref o0), .val (.int p1), .val .null, .val (.ref o3), .val (.ref o4), .val (.long (((31 : Int64) * (((31 : Int64) * ck) + p1.toInt64)) + (f12 u3).toInt64)), .second] [(.long ((31 : Int64) * (((31 : Int64) * (((31 : Int64) * ck) + p1.toInt64)) + (f12 u3).toInt64)))])
    refine Fini.st (fun _ k => XS.aload X2.here hx rfl (hb hby d9_51) rfl rfl k) ?_
    show Fini p e below s _ _ _ T2 (mkF m 53 #[.val (.ref o0), .val (.int p1), .val .null, .val (.ref o3), .val (.ref o4), .val (.long (((31 : Int64) * (((31 : Int64) * ck) + p1.toInt64)) + (f12 u3).toInt64)), .second] [(.ref o4), (.long ((31 : Int64) * (((31 : Int64) * (((31 : Int64) * ck) + p1.toInt64)) + (f12 u3).toInt64)))])
    have Zs_4 : n0 ≤ T2.heap.size := (Nat.le_trans H31_Z K2.1)
    have Ex_5 : Exa Z T2.heap o4 "java/lang/String" := (H31_E_o4.keep K2)
    have F_6 : Fld Z T2.heap o4 "java/lang/String" "value" "[B" (.ref a4) := (H31_F_o4_value.keep K2 (ninS (Ne.symm n34) nin0))
    have F_7 : Fld Z T2.heap o4 "java/lang/String" "coder" "B" (.int (0 : Int32)) := (H31_F_o4_coder.keep K2 (ninS (Ne.symm n34) nin0))
    have F_8 : Fld Z T2.heap o4 "java/lang/String" "hash" "I" (.int (0 : Int32)) := (H31_F_o4_hash.keep K2 (ninS (Ne.symm n34) nin0))
    have F_9 : Fld Z T2.heap o4 "java/lang/String" "hashIsZero" "Z" (.int (0 : Int32)) := (H31_F_o4_hashIsZero.keep K2 (ninS (Ne.symm n34) nin0))
    have Ar_10 : AryI Z T2.heap a4 .byte (1 : Int32) u4 := (H31_A_a4.keep K2 (ninS (Ne.symm n3a) nin0))
    have Od_11 : Old Z n0 T2.heap := (Old.keep H31_D K2 (allS (P := fun x => n0 ≤ x) g3 all0))
    obtain ⟨v3, T3, L3, X3, hQ3, st3⟩ := callV X2 hx hZ hown (hw _ (List.mem_of_getElem? (i := 60) rfl)) (hw _ (List.mem_of_getElem? (i := 61) rfl)) (hw _ (List.mem_of_getElem? (i := 63) rfl)) (hw _ (List.mem_of_getElem? (i := 62) rfl)) (hw _ (List.mem_of_getElem? (i := 32) rfl)) (hw _ (List.mem_of_getElem? (i := 64) rfl)) (notFace_of_selects (args := #[]) (mvT hZ (hw _ (List.mem_of_getElem? (i := 63) rfl)))) Ex_5 (by decide) (rm10 l Z a0 hw [] o4 cs a4 u4 T2.heap n0 Zs_4 Ex_5 F_6 F_7 F_8 F_9 Ar_10 Od_11 S_cs g4 hcs) rfl (W := 2) (by decide) (by decide) (by decide) (by decide) (g := (mkF m 53 #[.val (.ref o0), .val (.int p1), .val .null, .val (.ref o3), .val (.ref o4), .val (.long (((31 : Int64) * (((31 : Int64) * ck) + p1.toInt64)) + (f12 u3).toInt64)), .second] [(.ref o4), (.long ((31 : Int64) * (((31 : Int64) * (((31 : Int64) * ck) + p1.toInt64)) + (f12 u3).toInt64)))])) rfl (by rw [hml]; rfl) (argsL := []) (rest := [(.long ((31 : Int64) * (((31 : Int64) * (((31 : Int64) * ck) + p1.toInt64)) + (f12 u3).toInt64)))]) rfl (lenOf pd_7 rfl) rfl (by show 2 * 0 + _ ≤ _; exact Nat.le_of_eq rfl) (hb hby d9_53)
    obtain ⟨rfl, Nq3, K3⟩ := hQ3
    have N3 := Fr.app N2 Nq3
    refine Fini.st st3 ?_
    show Fini p e below s _ _ _ T3 (mkF m 56 #[.val (.ref o0), .val (.int p1), .val .null, .val (.ref o3), .val (.ref o4), .val (.long (((31 : Int64) * (((31 : Int64) * ck) + p1.toInt64)) + (f12 u3).toInt64)), .second] [(.int (f12 u4)), (.long ((31 : Int64) * (((31 : Int64) * (((31 : Int64) * ck) + p1.toInt64)) + (f12 u3).toInt64)))])
    refine Fini.st (fun _ k => XS.i2l X3.here hx rfl (hb hby d9_56) rfl k) ?_
    show Fini p e below s _ _ _ T3 (mkF m 57 #[.val (.ref o0), .val (.int p1), .val .null, .val (.ref o3), .val (.ref o4), .val (.long (((31 : Int64) * (((31 : Int64) * ck) + p1.toInt64)) + (f12 u3).toInt64)), .second] [(.long (f12 u4).toInt64), (.long ((31 : Int64) * (((31 : Int64) * (((31 : Int64) * ck) + p1.toInt64)) + (f12 u3).toInt64)))])
    refine Fini.st (fun _ k => XS.ladd X3.here hx rfl (hb hby d9_57) rfl k) ?_
    show Fini p e below s _ _ _ T3 (mkF m 58 #[.val (.ref o0), .val (.int p1), .val .null, .val (.ref o3), .val (.ref o4), .val (.long (((31 : Int64) * (((31 : Int64) * ck) + p1.toInt64)) + (f12 u3).toInt64)), .second] [(.long (((31 : Int64) * (((31 : Int64) * (((31 : Int64) * ck) + p1.toInt64)) + (f12 u3).toInt64)) + (f12 u4).toInt64))])
    refine Fini.st (fun _ k => XS.lstore X3.here hx rfl (hb hby d9_58) rfl (l' := #[.val (.ref o0), .val (.int p1), .val .null, .val (.ref o3), .val (.ref o4), .val (.long (((31 : Int64) * (((31 : Int64) * (((31 : Int64) * ck) + p1.toInt64)) + (f12 u3).toInt64)) + (f12 u4).toInt64)), .second]) rfl k) ?_
    show Fini p e below s _ _ _ T3 (mkF m 60 #[.val (.ref o0), .val (.int p1), .val .null, .val (.ref o3), .val (.ref o4), .val (.long (((31 : Int64) * (((31 : Int64) * (((31 : Int64) * ck) + p1.toInt64)) + (f12 u3).toInt64)) + (f12 u4).toInt64)), .second] [])
    refine Fini.st (fun _ k => XS.aloadN X3.here hx rfl (hb hby d9_60) rfl rfl k) ?_
    show Fini p e below s _ _ _ T3 (mkF m 61 #[.val (.ref o0), .val (.int p1), .val .null, .val (.ref o3), .val (.ref o4), .val (.long (((31 : Int64) * (((31 : Int64) * (((31 : Int64) * ck) + p1.toInt64)) + (f12 u3).toInt64)) + (f12 u4).toInt64)), .second] [(.ref o0)])
    refine Fini.st (fun _ k => XS.lload X3.here hx rfl (hb hby d9_61) rfl k) ?_
    show Fini p e below s _ _ _ T3 (mkF m 63 #[.val (.ref o0), .val (.int p1), .val .null, .val (.ref o3), .val (.ref o4), .val (.long (((31 : Int64) * (((31 : Int64) * (((31 : Int64) * ck) + p1.toInt64)) + (f12 u3).toInt64)) + (f12 u4).toInt64)), .second] [(.long (((31 : Int64) * (((31 : Int64) * (((31 : Int64) * ck) + p1.toInt64)) + (f12 u3).toInt64)) + (f12 u4).toInt64)), (.ref o0)])
    have F_13 : Fld Z T3.heap o0 "com/example/framewire/framewire/bench/Tally" "checksum" "J" (.long ck) := ((H31_F_o0_checksum.keep K2 (ninS n03 nin0)).keep K3 (ninS n04 nin0))
    have Ex_14 : Exa Z T3.heap o0 "com/example/framewire/framewire/bench/Tally" := ((H31_E_o0.keep K2).keep K3)
    obtain ⟨T12, h12, X12, e12, W12, st12⟩ := putF X3 hx hZ hown (host := "") (Or.inl (hw _ (List.mem_of_getElem? (i := 18) rfl))) Via.refl rfl F_13 Ex_14 (Or.inl (hw _ (List.mem_of_getElem? (i := 19) rfl))) (hw _ (List.mem_of_getElem? (i := 1) rfl)) (ty := .long) (by decide) rfl rfl (g := (mkF m 63 #[.val (.ref o0), .val (.int p1), .val .null, .val (.ref o3), .val (.ref o4), .val (.long (((31 : Int64) * (((31 : Int64) * (((31 : Int64) * ck) + p1.toInt64)) + (f12 u3).toInt64)) + (f12 u4).toInt64)), .second] [(.long (((31 : Int64) * (((31 : Int64) * (((31 : Int64) * ck) + p1.toInt64)) + (f12 u3).toInt64)) + (f12 u4).toInt64)), (.ref o0)])) rfl rfl (hb hby d9_63)
    have Fw12 : Fld Z h12 o0 "com/example/framewire/framewire/bench/Tally" "checksum" "J" (.long (((31 : Int64) * (((31 : Int64) * (((31 : Int64) * ck) + p1.toInt64)) + (f12 u3).toInt64)) + (f12 u4).toInt64)) := F_13.same W12
    refine Fini.st st12 ?_
    have N12 := Fr.snoc X12 N3 g0
    show Fini p e below s _ _ _ T12 (mkF m 66 #[.val (.ref o0), .val (.int p1), .val .null, .val (.ref o3), .val (.ref o4), .val (.long (((31 : Int64) * (((31 : Int64) * (((31 : Int64) * ck) + p1.toInt64)) + (f12 u3).toInt64)) + (f12 u4).toInt64)), .second] [])
    refine Fini.st (fun _ k => XS.aloadN X12.here hx rfl (hb hby d9_66) rfl rfl k) ?_
    show Fini p e below s _ _ _ T12 (mkF m 67 #[.val (.ref o0), .val (.int p1), .val .null, .val (.ref o3), .val (.ref o4), .val (.long (((31 : Int64) * (((31 : Int64) * (((31 : Int64) * ck) + p1.toInt64)) + (f12 u3).toInt64)) + (f12 u4).toInt64)), .second] [(.ref o0)])
    refine Fini.st (fun _ k => XS.dup X12.here hx rfl (hb hby d9_67) rfl rfl k) ?_
    show Fini p e below s _ _ _ T12 (mkF m 68 #[.val (.ref o0), .val (.int p1), .val .null, .val (.ref o3), .val (.ref o4), .val (.long (((31 : Int64) * (((31 : Int64) * (((31 : Int64) * ck) + p1.toInt64)) + (f12 u3).toInt64)) + (f12 u4).toInt64)), .second] [(.ref o0), (.ref o0)])
    have F_16 : Fld Z h12 o0 "com/example/framewire/framewire/bench/Tally" "frames" "J" (.long fr) := (((H31_F_o0_frames.keep K2 (ninS n03 nin0)).keep K3 (ninS n04 nin0)).other W12 (Or.inr (slot_ne (Or.inl (hw _ (List.mem_of_getElem? (i := 17) rfl))) (Or.inl (hw _ (List.mem_of_getElem? (i := 19) rfl))) (by decide) (t := .long) (t' := .long) (by decide) (by decide))))
    obtain ⟨T15, X15, e15, st15⟩ := getF X12 hx hZ hown (host := "") (Or.inl (hw _ (List.mem_of_getElem? (i := 16) rfl))) Via.refl e12 F_16 (g := (mkF m 68 #[.val (.ref o0), .val (.int p1), .val .null, .val (.ref o3), .val (.ref o4), .val (.long (((31 : Int64) * (((31 : Int64) * (((31 : Int64) * ck) + p1.toInt64)) + (f12 u3).toInt64)) + (f12 u4).toInt64)), .second] [(.ref o0), (.ref o0)])) rfl rfl (hb hby d9_68)
    refine Fini.st st15 ?_
    show Fini p e below s _ _ _ T15 (mkF m 71 #[.val (.ref o0), .val (.int p1), .val .null, .val (.ref o3), .val (.ref o4), .val (.long (((31 : Int64) * (((31 : Int64) * (((31 : Int64) * ck) + p1.toInt64)) + (f12 u3).toInt64)) + (f12 u4).toInt64)), .second] [(.long fr), (.ref o0)])
    refine Fini.st (fun _ k => XS.lconst X15.here hx rfl (hb hby d9_71) k) ?_
    show Fini p e below s _ _ _ T15 (mkF m 72 #[.val (.ref o0), .val (.int p1), .val .null, .val (.ref o3), .val (.ref o4), .val (.long (((31 : Int64) * (((31 : Int64) * (((31 : Int64) * ck) + p1.toInt64)) + (f12 u3).toInt64)) + (f12 u4).toInt64)), .second] [(.long (1 : Int64)), (.long fr), (.ref o0)])
    refine Fini.st (fun _ k => XS.ladd X15.here hx rfl (hb hby d9_72) rfl k) ?_
    show Fini p e below s _ _ _ T15 (mkF m 73 #[.val (.ref o0), .val (.int p1), .val .null, .val (.ref o3), .val (.ref o4), .val (.long (((31 : Int64) * (((31 : Int64) * (((31 : Int64) * ck) + p1.toInt64)) + (f12 u3).toInt64)) + (f12 u4).toInt64)), .second] [(.long (fr + (1 : Int64))), (.ref o0)])
    have Ex_18 : Exa Z h12 o0 "com/example/framewire/framewire/bench/Tally" := (Ex_14.wr W12)
    obtain ⟨T17, h17, X17, e17, W17, st17⟩ := putF X15 hx hZ hown (host := "") (Or.inl (hw _ (List.mem_of_getElem? (i := 16) rfl))) Via.refl e15 F_16 Ex_18 (Or.inl (hw _ (List.mem_of_getElem? (i := 17) rfl))) (hw _ (List.mem_of_getElem? (i := 1) rfl)) (ty := .long) (by decide) rfl rfl (g := (mkF m 73 #[.val (.ref o0), .val (.int p1), .val .null, .val (.ref o3), .val (.ref o4), .val (.long (((31 : Int64) * (((31 : Int64) * (((31 : Int64) * ck) + p1.toInt64)) + (f12 u3).toInt64)) + (f12 u4).toInt64)), .second] [(.long (fr + (1 : Int64))), (.ref o0)])) rfl rfl (hb hby d9_73)
    have Fw17 : Fld Z h17 o0 "com/example/framewire/framewire/bench/Tally" "frames" "J" (.long (fr + (1 : Int64))) := F_16.same W17
    refine Fini.st st17 ?_
    have N17 := Fr.snoc X17 N12 g0
    show Fini p e below s _ _ _ T17 (mkF m 76 #[.val (.ref o0), .val (.int p1), .val .null, .val (.ref o3), .val (.ref o4), .val (.long (((31 : Int64) * (((31 : Int64) * (((31 : Int64) * ck) + p1.toInt64)) + (f12 u3).toInt64)) + (f12 u4).toInt64)), .second] [])
    have Kp_19 : Keep h0 h17 [o0, o3, o4] := (Keep.wr (Keep.wr (Keep.trans (Keep.trans H31_K K2 (allS (P := fun x => x ∈ _ ∨ _ ≤ x) (Or.inl (List.mem_of_getElem? (i := 1) rfl)) all0)) K3 (allS (P := fun x => x ∈ _ ∨ _ ≤ x) (Or.inl (List.mem_of_getElem? (i := 2) rfl)) all0)) W12 (Or.inl (List.mem_of_getElem? (i := 0) rfl))) W17 (Or.inl (List.mem_of_getElem? (i := 0) rfl)))
    have F_20 : Fld Z h17 o0 "com/example/framewire/framewire/bench/Tally" "checksum" "J" (.long (((31 : Int64) * (((31 : Int64) * (((31 : Int64) * ck) + p1.toInt64)) + (f12 u3).toInt64)) + (f12 u4).toInt64)) := (Fw12.other W17 (Or.inr (slot_ne (Or.inl (hw _ (List.mem_of_getElem? (i := 19) rfl))) (Or.inl (hw _ (List.mem_of_getElem? (i := 17) rfl))) (by decide) (t := .long) (t' := .long) (by decide) (by decide))))
    exact Fini.ret0 X17 hx hlk Bd.returns (hb hby d9_76) (by decide) (by decide) ⟨rfl, N17, (by rw [e17]; exact Kp_19), (by rw [e17]; exact Fw17), (by rw [e17]; exact F_20)⟩
  show Fini p e below s (fun v h' L => v = none ∧ Fr n0 L ∧ Keep h0 h' [o0, o3, o4] ∧ Fld Z h' o0 "com/example/framewire/framewire/bench/Tally" "frames" "J" (.long (fr + (1 : Int64))) ∧ Fld Z h' o0 "com/example/framewire/framewire/bench/Tally" "checksum" "J" (.long (((31 : Int64) * (((31 : Int64) * (((31 : Int64) * ck) + p1.toInt64)) + (f12 u3).toInt64)) + (f12 u4).toInt64))) _ _ s₁ (entryFrame m #[(.ref o0), (.int p1), .null, (.ref o3), (.ref o4)] 7)
  refine Fini.cast (ef9 m o0 p1 o3 o4) ?_
  show Fini p e below s _ _ _ s₁ (mkF m 0 #[.val (.ref o0), .val (.int p1), .val .null, .val (.ref o3), .val (.ref o4), .unset, .unset] [])
  refine Fini.st (fun _ k => X0.ldc2J hx hown (mvT hZ (hw _ (List.mem_of_getElem? (i := 59) rfl))) rfl (hb hby d9_0) k) ?_
  show Fini p e below s _ _ _ s₁ (mkF m 3 #[.val (.ref o0), .val (.int p1), .val .null, .val (.ref o3), .val (.ref o4), .unset, .unset] [(.long (31 : Int64))])
  refine Fini.st (fun _ k => XS.aloadN X0.here hx rfl (hb hby d9_3) rfl rfl k) ?_
  show Fini p e below s _ _ _ s₁ (mkF m 4 #[.val (.ref o0), .val (.int p1), .val .null, .val (.ref o3), .val (.ref o4), .unset, .unset] [(.ref o0), (.long (31 : Int64))])
  obtain ⟨T1, X1, e1, st1⟩ := getF X0 hx hZ hown (host := "") (Or.inl (hw _ (List.mem_of_getElem? (i := 18) rfl))) Via.refl e0 F_ck (g := (mkF m 4 #[.val (.ref o0), .val (.int p1), .val .null, .val (.ref o3), .val (.ref o4), .unset, .unset] [(.ref o0), (.long (31 : Int64))])) rfl rfl (hb hby d9_4)
  refine Fini.st st1 ?_
  show Fini p e below s _ _ _ T1 (mkF m 7 #[.val (.ref o0), .val (.int p1), .val .null, .val (.ref o3), .val (.ref o4), .unset, .unset] [(.long ck), (.long (31 : Int64))])
  refine Fini.st (fun _ k => XS.lmul X1.here hx rfl (hb hby d9_7) rfl k) ?_
  show Fini p e below s _ _ _ T1 (mkF m 8 #[.val (.ref o0), .val (.int p1), .val .null, .val (.ref o3), .val (.ref o4), .unset, .unset] [(.long ((31 : Int64) * ck))])
  refine Fini.st (fun _ k => XS.iloadN X1.here hx rfl (hb hby d9_8) rfl k) ?_
  show Fini p e below s _ _ _ T1 (mkF m 9 #[.val (.ref o0), .val (.int p1), .val .null, .val (.ref o3), .val (.ref o4), .unset, .unset] [(.int p1), (.long ((31 : Int64) * ck))])
  refine Fini.st (fun _ k => XS.i2l X1.here hx rfl (hb hby d9_9) rfl k) ?_
  show Fini p e below s _ _ _ T1 (mkF m 10 #[.val (.ref o0), .val (.int p1), .val .null, .val (.ref o3), .val (.ref o4), .unset, .unset] [(.long p1.toInt64), (.long ((31 : Int64) * ck))])
  refine Fini.st (fun _ k => XS.ladd X1.here hx rfl (hb hby d9_10) rfl k) ?_
  show Fini p e below s _ _ _ T1 (mkF m 11 #[.val (.ref o0), .val (.int p1), .val .null, .val (.ref o3), .val (.ref o4), .unset, .unset] [(.long (((31 : Int64) * ck) + p1.toInt64))])
  refine Fini.st (fun _ k => XS.lstore X1.here hx rfl (hb hby d9_11) rfl (l' := #[.val (.ref o0), .val (.int p1), .val .null, .val (.ref o3), .val (.ref o4), .val (.long (((31 : Int64) * ck) + p1.toInt64)), .second]) rfl k) ?_
  show Fini p e below s _ _ _ T1 (mkF m 13 #[.val (.ref o0), .val (.int p1), .val .null, .val (.ref o3), .val (.ref o4), .val (.long (((31 : Int64) * ck) + p1.toInt64)), .second] [])
  refine Fini.st (fun _ k => XS.aloadN X1.here hx rfl (hb hby d9_13) rfl rfl k) ?_
  show Fini p e below s _ _ _ T1 (mkF m 14 #[.val (.ref o0), .val (.int p1), .val .null, .val (.ref o3), .val (.ref o4), .val (.long (((31 : Int64) * ck) + p1.toInt64)), .second] [.null])
  refine Fini.st (fun _ k => XS.ifnullYes X1.here hx rfl (pc0 := 14) (pc' := 31) rfl (hb hby d9_14) rfl (by decide) (by decide) k) ?_
  show Fini p e below s _ _ _ T1 (mkF m 31 #[.val (.ref o0), .val (.int p1), .val .null, .val (.ref o3), .val (.ref o4), .val (.long (((31 : Int64) * ck) + p1.toInt64)), .second] [])
  exact B31 T1 _ _ (X1.more (cells' := 0) (slots' := 0) (by decide) (by decide)) e1 N0 E_o0 F_fr F_ck E_o3 Fv_o3 Fc_o3 Fh_o3 Fz_o3 A_o3 E_o4 Fv_o4 Fc_o4 Fh_o4 Fz_o4 A_o4 D0 S_cs Z0 (Keep.refl h0 [o0, o3, o4])
theorem d3_0 : decode prog_34_method_4_code 0 = .ok (.aload_n 1, 1) := by decide +kernel
theorem d3_1 : decode prog_34_method_4_code 1 = .ok (.instanceof 10, 3) := by decide +kernel
theorem d3_4 : decode prog_34_method_4_code 4 = .ok (.ifCond .eq 36, 3) := by decide +kernel
theorem d3_7 : decode prog_34_method_4_code 7 = .ok (.aload_n 1, 1) := by decide +kernel
theorem d3_8 : decode prog_34_method_4_code 8 = .ok (.checkcast 10, 3) := by decide +kernel
theorem d3_11 : decode prog_34_method_4_code 11 = .ok (.astore_n 2, 1) := by decide +kernel
theorem d3_12 : decode prog_34_method_4_code 12 = .ok (.aload_n 2, 1) := by decide +kernel
theorem d3_13 : decode prog_34_method_4_code 13 = .ok (.getfield 26, 3) := by decide +kernel
theorem d3_16 : decode prog_34_method_4_code 16 = .ok (.aload_n 0, 1) := by decide +kernel
theorem d3_17 : decode prog_34_method_4_code 17 = .ok (.getfield 26, 3) := by decide +kernel
theorem d3_20 : decode prog_34_method_4_code 20 = .ok (.lcmp, 1) := by decide +kernel
theorem d3_21 : decode prog_34_method_4_code 21 = .ok (.ifCond .ne 19, 3) := by decide +kernel
theorem d3_24 : decode prog_34_method_4_code 24 = .ok (.aload_n 2, 1) := by decide +kernel
theorem d3_25 : decode prog_34_method_4_code 25 = .ok (.getfield 9, 3) := by decide +kernel
theorem d3_28 : decode prog_34_method_4_code 28 = .ok (.aload_n 0, 1) := by decide +kernel
theorem d3_29 : decode prog_34_method_4_code 29 = .ok (.getfield 9, 3) := by decide +kernel
theorem d3_32 : decode prog_34_method_4_code 32 = .ok (.lcmp, 1) := by decide +kernel
theorem d3_33 : decode prog_34_method_4_code 33 = .ok (.ifCond .ne 7, 3) := by decide +kernel
theorem d3_36 : decode prog_34_method_4_code 36 = .ok (.iconst 1, 1) := by decide +kernel
theorem d3_37 : decode prog_34_method_4_code 37 = .ok (.goto 4, 3) := by decide +kernel
theorem d3_40 : decode prog_34_method_4_code 40 = .ok (.iconst 0, 1) := by decide +kernel
theorem d3_41 : decode prog_34_method_4_code 41 = .ok (.ireturn, 1) := by decide +kernel
theorem ef3 (m : MethodId) (x0 : Addr) (x1 : Addr) : entryFrame m #[(.ref x0), (.ref x1)] 3 = mkF m 0 #[.val (.ref x0), .val (.ref x1), .unset] [] := by first | (simp [entryFrame, mkF, argsToLocals, Value.category]; done) | rfl
def f3 (fa : Int64) (ca : Int64) (fb : Int64) (cb : Int64) : Int32 := (if fb = fa then (if cb = ca then (1 : Int32) else (0 : Int32)) else (0 : Int32))
set_option maxRecDepth 65536 in
set_option maxHeartbeats 40000000 in
theorem rm3 (l : Launch) (Z : State) (a0 : Array Value) (hw : ∀ d ∈ tables_1, d.before a0 Z = true) (ws : List Jvm.Cond) (o0 : Addr) (o1 : Addr) (fa : Int64) (ca : Int64) (fb : Int64) (cb : Int64) (h0 : Heap) (E_o1 : Exa Z h0 o1 "com/example/framewire/framewire/bench/Tally") (F_fa : Fld Z h0 o0 "com/example/framewire/framewire/bench/Tally" "frames" "J" (.long fa)) (F_ca : Fld Z h0 o0 "com/example/framewire/framewire/bench/Tally" "checksum" "J" (.long ca)) (F_fb : Fld Z h0 o1 "com/example/framewire/framewire/bench/Tally" "frames" "J" (.long fb)) (F_cb : Fld Z h0 o1 "com/example/framewire/framewire/bench/Tally" "checksum" "J" (.long cb)) :
    Cmet l Z (⟨"com/example/framewire/framewire/bench/Tally", "equals", "(Ljava/lang/Object;)Z"⟩ : MethodName) prog_34_method_4_code 3 (some .boolean) ws ({ frames := 0, cells := 0, slots := 0, locals := 0 } : Room) #[(.ref o0), (.ref o1)] h0 (fun v h' L => v = some (.int (f3 fa ca fb cb)) ∧ h' = h0 ∧ L = []) := by
  refine MetFree.of_bodySF (plainFor_of_name pn_0) hisR ?_
  intro p e s m args below meth c s₁ Bd hml0 hP hK
  obtain ⟨rfl, hZ, hh⟩ := hP
  have hx := Bd.exec
  have hlk : meth.locks = false := BodyLoose.notSynchronized Bd
  have hby := Bd.bytes
  have hml : c.maxLocals = 3 := hml0
  have hown : s.vm.findClass "com/example/framewire/framewire/bench/Tally" = some m.cls := findClass_of_methodNamed Bd.named
  have hnm := (name_of_methodNamed Bd.named Bd.method).1
  have X0 : Stand p l e ({ frames := 0, cells := 0, slots := 0, locals := 0 } : Room) s m #[(.ref o0), (.ref o1)] below meth c s₁ [] 0 0 := Stand.of_body Bd
  have e0 : s₁.heap = h0 := by rw [← hh, Bd.state]; rfl
  have hv0 : f3 fa ca fb cb = f3 fa ca fb cb := rfl
  show Fini p e below s (fun v h' L => v = some (.int (f3 fa ca fb cb)) ∧ h' = h0 ∧ L = []) _ _ s₁ (entryFrame m #[(.ref o0), (.ref o1)] 3)
  refine Fini.cast (ef3 m o0 o1) ?_
  show Fini p e below s _ _ _ s₁ (mkF m 0 #[.val (.ref o0), .val (.ref o1), .unset] [])
  refine Fini.st (fun _ k => XS.aloadN X0.here hx rfl (hb hby d3_0) rfl rfl k) ?_
  show Fini p e below s _ _ _ s₁ (mkF m 1 #[.val (.ref o0), .val (.ref o1), .unset] [(.ref o1)])
  obtain ⟨T1, X1, e1, st1⟩ := instY X0 hx hZ hown (hw _ (List.mem_of_getElem? (i := 14) rfl)) e0 (Ins.self E_o1) (g := (mkF m 1 #[.val (.ref o0), .val (.ref o1), .unset] [(.ref o1)])) rfl rfl (hb hby d3_1)
  refine Fini.st st1 ?_
  show Fini p e below s _ _ _ T1 (mkF m 4 #[.val (.ref o0), .val (.ref o1), .unset] [(.int (1 : Int32))])
  refine Fini.st (fun _ k => XS.ifNo X1.here hx rfl (hb hby d3_4) rfl (XT.i0_eq_f (by decide : ¬ (1 : Int32) = (0 : Int32))) k) ?_
  show Fini p e below s _ _ _ T1 (mkF m 7 #[.val (.ref o0), .val (.ref o1), .unset] [])
  refine Fini.st (fun _ k => XS.aloadN X1.here hx rfl (hb hby d3_7) rfl rfl k) ?_
  show Fini p e below s _ _ _ T1 (mkF m 8 #[.val (.ref o0), .val (.ref o1), .unset] [(.ref o1)])
  obtain ⟨T2, X2, e2, st2⟩ := castY X1 hx hZ hown (hw _ (List.mem_of_getElem? (i := 14) rfl)) e1 (Ins.self E_o1) (g := (mkF m 8 #[.val (.ref o0), .val (.ref o1), .unset] [(.ref o1)])) rfl rfl (hb hby d3_8)
  refine Fini.st st2 ?_
  show Fini p e below s _ _ _ T2 (mkF m 11 #[.val (.ref o0), .val (.ref o1), .unset] [(.ref o1)])
  refine Fini.st (fun _ k => XS.astoreN X2.here hx rfl (hb hby d3_11) rfl rfl (l' := #[.val (.ref o0), .val (.ref o1), .val (.ref o1)]) rfl k) ?_
  show Fini p e below s _ _ _ T2 (mkF m 12 #[.val (.ref o0), .val (.ref o1), .val (.ref o1)] [])
  refine Fini.st (fun _ k => XS.aloadN X2.here hx rfl (hb hby d3_12) rfl rfl k) ?_
  show Fini p e below s _ _ _ T2 (mkF m 13 #[.val (.ref o0), .val (.ref o1), .val (.ref o1)] [(.ref o1)])
  obtain ⟨T3, X3, e3, st3⟩ := getF X2 hx hZ hown (host := "") (Or.inl (hw _ (List.mem_of_getElem? (i := 16) rfl))) Via.refl e2 F_fb (g := (mkF m 13 #[.val (.ref o0), .val (.ref o1), .val (.ref o1)] [(.ref o1)])) rfl rfl (hb hby d3_13)
  refine Fini.st st3 ?_
  show Fini p e below s _ _ _ T3 (mkF m 16 #[.val (.ref o0), .val (.ref o1), .val (.ref o1)] [(.long fb)])
  refine Fini.st (fun _ k => XS.aloadN X3.here hx rfl (hb hby d3_16) rfl rfl k) ?_
  show Fini p e below s _ _ _ T3 (mkF m 17 #[.val (.ref o0), .val (.ref o1), .val (.ref o1)] [(.ref o0), (.long fb)])
  obtain ⟨T4, X4, e4, st4⟩ := getF X3 hx hZ hown (host := "") (Or.inl (hw _ (List.mem_of_getElem? (i := 16) rfl))) Via.refl e3 F_fa (g := (mkF m 17 #[.val (.ref o0), .val (.ref o1), .val (.ref o1)] [(.ref o0), (.long fb)])) rfl rfl (hb hby d3_17)
  refine Fini.st st4 ?_
  show Fini p e below s _ _ _ T4 (mkF m 20 #[.val (.ref o0), .val (.ref o1), .val (.ref o1)] [(.long fa), (.long fb)])
  refine Fini.st (fun _ k => XT.lcmp X4.here hx rfl (hb hby d3_20) rfl k) ?_
  show Fini p e below s _ _ _ T4 (mkF m 21 #[.val (.ref o0), .val (.ref o1), .val (.ref o1)] [(.int (XT.cmpL fb fa))])
  by_cases c5 : fb = fa
  · have hv6 := hv0.trans (if_pos c5)
    refine Fini.st (fun _ k => XS.ifNo X4.here hx rfl (hb hby d3_21) rfl (XT.ll_ne_f c5) k) ?_
    show Fini p e below s _ _ _ T4 (mkF m 24 #[.val (.ref o0), .val (.ref o1), .val (.ref o1)] [])
    refine Fini.st (fun _ k => XS.aloadN X4.here hx rfl (hb hby d3_24) rfl rfl k) ?_
    show Fini p e below s _ _ _ T4 (mkF m 25 #[.val (.ref o0), .val (.ref o1), .val (.ref o1)] [(.ref o1)])
    obtain ⟨T7, X7, e7, st7⟩ := getF X4 hx hZ hown (host := "") (Or.inl (hw _ (List.mem_of_getElem? (i := 18) rfl))) Via.refl e4 F_cb (g := (mkF m 25 #[.val (.ref o0), .val (.ref o1), .val (.ref o1)] [(.ref o1)])) rfl rfl (hb hby d3_25)
    refine Fini.st st7 ?_
    show Fini p e below s _ _ _ T7 (mkF m 28 #[.val (.ref o0), .val (.ref o1), .val (.ref o1)] [(.long cb)])
    refine Fini.st (fun _ k => XS.aloadN X7.here hx rfl (hb hby d3_28) rfl rfl k) ?_
    show Fini p e below s _ _ _ T7 (mkF m 29 #[.val (.ref o0), .val (.ref o1), .val (.ref o1)] [(.ref o0), (.long cb)])
    obtain ⟨T8, X8, e8, st8⟩ := getF X7 hx hZ hown (host := "") (Or.inl (hw _ (List.mem_of_getElem? (i := 18) rfl))) Via.refl e7 F_ca (g := (mkF m 29 #[.val (.ref o0), .val (.ref o1), .val (.ref o1)] [(.ref o0), (.long cb)])) rfl rfl (hb hby d3_29)
    refine Fini.st st8 ?_
    show Fini p e below s _ _ _ T8 (mkF m 32 #[.val (.ref o0), .val (.ref o1), .val (.ref o1)] [(.long ca), (.long cb)])
    refine Fini.st (fun _ k => XT.lcmp X8.here hx rfl (hb hby d3_32) rfl k) ?_
    show Fini p e below s _ _ _ T8 (mkF m 33 #[.val (.ref o0), .val (.ref o1), .val (.ref o1)] [(.int (XT.cmpL cb ca))])
    by_cases c9 : cb = ca
    · have hv10 := hv6.trans (if_pos c9)
      refine Fini.st (fun _ k => XS.ifNo X8.here hx rfl (hb hby d3_33) rfl (XT.ll_ne_f c9) k) ?_
      show Fini p e below s _ _ _ T8 (mkF m 36 #[.val (.ref o0), .val (.ref o1), .val (.ref o1)] [])
      refine Fini.st (fun _ k => XS.iconst X8.here hx rfl (hb hby d3_36) k) ?_
      show Fini p e below s _ _ _ T8 (mkF m 37 #[.val (.ref o0), .val (.ref o1), .val (.ref o1)] [(.int (1 : Int32))])
      refine Fini.st (fun _ k => XS.goto X8.here hx rfl (pc0 := 37) (pc' := 41) rfl (hb hby d3_37) (by decide) (by decide) k) ?_
      show Fini p e below s _ _ _ T8 (mkF m 41 #[.val (.ref o0), .val (.ref o1), .val (.ref o1)] [(.int (1 : Int32))])
      exact Fini.retN X8 hx hlk (t := .boolean) Bd.returns (by simp) (hb hby d3_41) nb1 (by decide) (by decide) ⟨congrArg (fun z => some (Value.int z)) hv10.symm, e8, rfl⟩
    · have hv11 := hv6.trans (if_neg c9)
      refine Fini.st (fun _ k => XS.ifYes X8.here hx rfl (pc0 := 33) (pc' := 40) rfl (hb hby d3_33) rfl (XT.ll_ne_t c9) (by decide) (by decide) k) ?_
      show Fini p e below s _ _ _ T8 (mkF m 40 #[.val (.ref o0), .val (.ref o1), .val (.ref o1)] [])
      refine Fini.st (fun _ k => XS.iconst X8.here hx rfl (hb hby d3_40) k) ?_
      show Fini p e below s _ _ _ T8 (mkF m 41 #[.val (.ref o0), .val (.ref o1), .val (.ref o1)] [(.int (0 : Int32))])
      exact Fini.retN X8 hx hlk (t := .boolean) Bd.returns (by simp) (hb hby d3_41) nb0 (by decide) (by decide) ⟨congrArg (fun z => some (Value.int z)) hv11.symm, e8, rfl⟩
  · have hv12 := hv0.trans (if_neg c5)
    refine Fini.st (fun _ k => XS.ifYes X4.here hx rfl (pc0 := 21) (pc' := 40) rfl (hb hby d3_21) rfl (XT.ll_ne_t c5) (by decide) (by decide) k) ?_
    show Fini p e below s _ _ _ T4 (mkF m 40 #[.val (.ref o0), .val (.ref o1), .val (.ref o1)] [])
    refine Fini.st (fun _ k => XS.iconst X4.here hx rfl (hb hby d3_40) k) ?_
    show Fini p e below s _ _ _ T4 (mkF m 41 #[.val (.ref o0), .val (.ref o1), .val (.ref o1)] [(.int (0 : Int32))])
    exact Fini.retN X4 hx hlk (t := .boolean) Bd.returns (by simp) (hb hby d3_41) nb0 (by decide) (by decide) ⟨congrArg (fun z => some (Value.int z)) hv12.symm, e4, rfl⟩
theorem d3n_0 : decode prog_34_method_4_code 0 = .ok (.aload_n 1, 1) := by decide +kernel
theorem d3n_1 : decode prog_34_method_4_code 1 = .ok (.instanceof 10, 3) := by decide +kernel
theorem d3n_4 : decode prog_34_method_4_code 4 = .ok (.ifCond .eq 36, 3) := by decide +kernel
theorem d3n_40 : decode prog_34_method_4_code 40 = .ok (.iconst 0, 1) := by decide +kernel
theorem d3n_41 : decode prog_34_method_4_code 41 = .ok (.ireturn, 1) := by decide +kernel
theorem ef3n (m : MethodId) (x0 : Addr) : entryFrame m #[(.ref x0), .null] 3 = mkF m 0 #[.val (.ref x0), .val .null, .unset] [] := by first | (simp [entryFrame, mkF, argsToLocals, Value.category]; done) | rfl
def f3n  : Int32 := (0 : Int32)
set_option maxRecDepth 65536 in
set_option maxHeartbeats 40000000 in
theorem rm3n (l : Launch) (Z : State) (a0 : Array Value) (hw : ∀ d ∈ tables_1, d.before a0 Z = true) (ws : List Jvm.Cond) (o0 : Addr) (h0 : Heap) :
    Cmet l Z (⟨"com/example/framewire/framewire/bench/Tally", "equals", "(Ljava/lang/Object;)Z"⟩ : MethodName) prog_34_method_4_code 3 (some .boolean) ws ({ frames := 0, cells := 0, slots := 0, locals := 0 } : Room) #[(.ref o0), .null] h0 (fun v h' L => v = some (.int (f3n )) ∧ h' = h0 ∧ L = []) := by
  refine MetFree.of_bodySF (plainFor_of_name pn_0) hisR ?_
  intro p e s m args below meth c s₁ Bd hml0 hP hK
  obtain ⟨rfl, hZ, hh⟩ := hP
  have hx := Bd.exec
  have hlk : meth.locks = false := BodyLoose.notSynchronized Bd
  have hby := Bd.bytes
  have hml : c.maxLocals = 3 := hml0
  have hown : s.vm.findClass "com/example/framewire/framewire/bench/Tally" = some m.cls := findClass_of_methodNamed Bd.named
  have hnm := (name_of_methodNamed Bd.named Bd.method).1
  have X0 : Stand p l e ({ frames := 0, cells := 0, slots := 0, locals := 0 } : Room) s m #[(.ref o0), .null] below meth c s₁ [] 0 0 := Stand.of_body Bd
  have e0 : s₁.heap = h0 := by rw [← hh, Bd.state]; rfl
  have hv0 : f3n  = f3n  := rfl
  show Fini p e below s (fun v h' L => v = some (.int (f3n )) ∧ h' = h0 ∧ L = []) _ _ s₁ (entryFrame m #[(.ref o0), .null] 3)
  refine Fini.cast (ef3n m o0) ?_
  show Fini p e below s _ _ _ s₁ (mkF m 0 #[.val (.ref o0), .val .null, .unset] [])
  refine Fini.st (fun _ k => XS.aloadN X0.here hx rfl (hb hby d3n_0) rfl rfl k) ?_
  show Fini p e below s _ _ _ s₁ (mkF m 1 #[.val (.ref o0), .val .null, .unset] [.null])
  refine Fini.st (fun _ k => X0.instanceofNull hx (g := (mkF m 1 #[.val (.ref o0), .val .null, .unset] [.null])) rfl rfl (hb hby d3n_1) _ k) ?_
  show Fini p e below s _ _ _ s₁ (mkF m 4 #[.val (.ref o0), .val .null, .unset] [(.int (0 : Int32))])
  refine Fini.st (fun _ k => XS.ifYes X0.here hx rfl (pc0 := 4) (pc' := 40) rfl (hb hby d3n_4) rfl (XT.i0_eq_t (by decide : (0 : Int32) = (0 : Int32))) (by decide) (by decide) k) ?_
  show Fini p e below s _ _ _ s₁ (mkF m 40 #[.val (.ref o0), .val .null, .unset] [])
  refine Fini.st (fun _ k => XS.iconst X0.here hx rfl (hb hby d3n_40) k) ?_
  show Fini p e below s _ _ _ s₁ (mkF m 41 #[.val (.ref o0), .val .null, .unset] [(.int (0 : Int32))])
  exact Fini.retN X0 hx hlk (t := .boolean) Bd.returns (by simp) (hb hby d3n_41) nb0 (by decide) (by decide) ⟨congrArg (fun z => some (Value.int z)) hv0.symm, e0, rfl⟩
theorem d3i_0 : decode prog_34_method_4_code 0 = .ok (.aload_n 1, 1) := by decide +kernel
theorem d3i_1 : decode prog_34_method_4_code 1 = .ok (.instanceof 10, 3) := by decide +kernel
theorem d3i_4 : decode prog_34_method_4_code 4 = .ok (.ifCond .eq 36, 3) := by decide +kernel
theorem d3i_40 : decode prog_34_method_4_code 40 = .ok (.iconst 0, 1) := by decide +kernel
theorem d3i_41 : decode prog_34_method_4_code 41 = .ok (.ireturn, 1) := by decide +kernel
theorem ef3i (m : MethodId) (x0 : Addr) (x1 : Addr) : entryFrame m #[(.ref x0), (.ref x1)] 3 = mkF m 0 #[.val (.ref x0), .val (.ref x1), .unset] [] := by first | (simp [entryFrame, mkF, argsToLocals, Value.category]; done) | rfl
def f3i  : Int32 := (0 : Int32)
set_option maxRecDepth 65536 in
set_option maxHeartbeats 40000000 in
theorem rm3i (l : Launch) (Z : State) (a0 : Array Value) (hw : ∀ d ∈ tables_1, d.before a0 Z = true) (ws : List Jvm.Cond) (o0 : Addr) (o1 : Addr) (h0 : Heap) (E_o1 : Exa Z h0 o1 "java/lang/Integer") :
    Cmet l Z (⟨"com/example/framewire/framewire/bench/Tally", "equals", "(Ljava/lang/Object;)Z"⟩ : MethodName) prog_34_method_4_code 3 (some .boolean) ws ({ frames := 0, cells := 0, slots := 0, locals := 0 } : Room) #[(.ref o0), (.ref o1)] h0 (fun v h' L => v = some (.int (f3i )) ∧ h' = h0 ∧ L = []) := by
  refine MetFree.of_bodySF (plainFor_of_name pn_0) hisR ?_
  intro p e s m args below meth c s₁ Bd hml0 hP hK
  obtain ⟨rfl, hZ, hh⟩ := hP
  have hx := Bd.exec
  have hlk : meth.locks = false := BodyLoose.notSynchronized Bd
  have hby := Bd.bytes
  have hml : c.maxLocals = 3 := hml0
  have hown : s.vm.findClass "com/example/framewire/framewire/bench/Tally" = some m.cls := findClass_of_methodNamed Bd.named
  have hnm := (name_of_methodNamed Bd.named Bd.method).1
  have X0 : Stand p l e ({ frames := 0, cells := 0, slots := 0, locals := 0 } : Room) s m #[(.ref o0), (.ref o1)] below meth c s₁ [] 0 0 := Stand.of_body Bd
  have e0 : s₁.heap = h0 := by rw [← hh, Bd.state]; rfl
  have hv0 : f3i  = f3i  := rfl
  show Fini p e below s (fun v h' L => v = some (.int (f3i )) ∧ h' = h0 ∧ L = []) _ _ s₁ (entryFrame m #[(.ref o0), (.ref o1)] 3)
  refine Fini.cast (ef3i m o0 o1) ?_
  show Fini p e below s _ _ _ s₁ (mkF m 0 #[.val (.ref o0), .val (.ref o1), .unset] [])
  refine Fini.st (fun _ k => XS.aloadN X0.here hx rfl (hb hby d3i_0) rfl rfl k) ?_
  show Fini p e below s _ _ _ s₁ (mkF m 1 #[.val (.ref o0), .val (.ref o1), .unset] [(.ref o1)])
  obtain ⟨T1, X1, e1, st1⟩ := instNo X0 hx hZ hown (hw _ (List.mem_of_getElem? (i := 14) rfl)) e0 E_o1 (ns_no (hw _ (List.mem_of_getElem? (i := 27) rfl)) (hw _ (List.mem_of_getElem? (i := 1) rfl)) (NS.step (hw _ (List.mem_of_getElem? (i := 27) rfl)) (NS.step (hw _ (List.mem_of_getElem? (i := 28) rfl)) (ns_root (hw _ (List.mem_of_getElem? (i := 29) rfl)) (hw _ (List.mem_of_getElem? (i := 1) rfl)) (by decide)) (by decide)) (by decide)) (by decide)) (g := (mkF m 1 #[.val (.ref o0), .val (.ref o1), .unset] [(.ref o1)])) rfl rfl (hb hby d3i_1)
  refine Fini.st st1 ?_
  show Fini p e below s _ _ _ T1 (mkF m 4 #[.val (.ref o0), .val (.ref o1), .unset] [(.int (0 : Int32))])
  refine Fini.st (fun _ k => XS.ifYes X1.here hx rfl (pc0 := 4) (pc' := 40) rfl (hb hby d3i_4) rfl (XT.i0_eq_t (by decide : (0 : Int32) = (0 : Int32))) (by decide) (by decide) k) ?_
  show Fini p e below s _ _ _ T1 (mkF m 40 #[.val (.ref o0), .val (.ref o1), .unset] [])
  refine Fini.st (fun _ k => XS.iconst X1.here hx rfl (hb hby d3i_40) k) ?_
  show Fini p e below s _ _ _ T1 (mkF m 41 #[.val (.ref o0), .val (.ref o1), .unset] [(.int (0 : Int32))])
  exact Fini.retN X1 hx hlk (t := .boolean) Bd.returns (by simp) (hb hby d3i_41) nb0 (by decide) (by decide) ⟨congrArg (fun z => some (Value.int z)) hv0.symm, e1, rfl⟩
def own_s (p5 x y : Int32) : Int32 := if ((p5.toUInt32 >>> ((4 : Int32) &&& 31).toUInt32).toInt32 &&& (1 : Int32)) = (0 : Int32) then x else y
def own_n1 (k : Int32) : Int64 := if k < (1 : Int32) then (0 : Int64) else ((0 : Int64) + (1 : Int64))
def own_n2 (k : Int32) : Int64 := if k < (2 : Int32) then own_n1 k else (own_n1 k + (1 : Int64))
def own_e (k1 k2 : Int32) (a b : Int64) : Int32 := if k1 = k2 then (if a = b then (1 : Int32) else (0 : Int32)) else (0 : Int32)
theorem pd_8 : parseMethodDescriptor "(C)Ljava/lang/String;" = some ⟨[.char], some (.object "java/lang/String")⟩ := by decide +kernel
theorem pd_9 : parseMethodDescriptor "(I[BLjava/lang/String;Ljava/lang/String;)V" = some ⟨[.int, (.array .byte), (.object "java/lang/String"), (.object "java/lang/String")], none⟩ := by decide +kernel
theorem pd_10 : parseMethodDescriptor "(JIII)J" = some ⟨[.long, .int, .int, .int], some .long⟩ := by decide +kernel
theorem pd_11 : parseMethodDescriptor "(Ljava/lang/Object;)Z" = some ⟨[(.object "java/lang/Object")], some .boolean⟩ := by decide +kernel
theorem pd_12 : parseMethodDescriptor "(I)Ljava/lang/Integer;" = some ⟨[.int], some (.object "java/lang/Integer")⟩ := by decide +kernel
theorem ef0 (m : MethodId) (x0 : Int32) (x1 : Int32) (x2 : Int32) (x3 : Int32) (x4 : Int32) (x5 : Int32) : entryFrame m #[(.int x0), (.int x1), (.int x2), (.int x3), (.int x4), (.int x5)] maxLocals = mkF m 0 #[.val (.int x0), .val (.int x1), .val (.int x2), .val (.int x3), .val (.int x4), .val (.int x5), .unset, .unset, .unset, .unset, .unset, .unset, .unset, .unset, .unset, .unset, .unset, .unset, .unset, .unset, .unset, .unset, .unset, .unset] [] := by first | (simp [entryFrame, mkF, argsToLocals, Value.category, maxLocals]; done) | rfl
def g0_6 (p5 : Int32) : Int32 := ((p5 &&& (3 : Int32)) % (3 : Int32))
def g0_16 (p5 : Int32) : Int32 := (((p5.toUInt32 >>> ((2 : Int32) &&& 31).toUInt32).toInt32 &&& (3 : Int32)) % (3 : Int32))
def g0_39 (p4 : Int32) : Int32 := (p4 &&& (15 : Int32))
def g0_48 (p4 : Int32) : Int32 := ((p4.toUInt32 >>> ((4 : Int32) &&& 31).toUInt32).toInt32 &&& (15 : Int32))
def g0_58 (p4 : Int32) : Int32 := ((p4.toUInt32 >>> ((8 : Int32) &&& 31).toUInt32).toInt32 &&& (15 : Int32))
def g0_68 (p4 : Int32) : Int32 := ((p4.toUInt32 >>> ((12 : Int32) &&& 31).toUInt32).toInt32 &&& (15 : Int32))
def g0_78 (p4 : Int32) : Int32 := ((p4.toUInt32 >>> ((16 : Int32) &&& 31).toUInt32).toInt32 &&& (15 : Int32))
def g0_88 (p4 : Int32) : Int32 := ((p4.toUInt32 >>> ((20 : Int32) &&& 31).toUInt32).toInt32 &&& (15 : Int32))
def g0_98 (p4 : Int32) : Int32 := ((p4.toUInt32 >>> ((24 : Int32) &&& 31).toUInt32).toInt32 &&& (15 : Int32))
def g0_108 (p4 : Int32) : Int32 := ((p4.toUInt32 >>> ((28 : Int32) &&& 31).toUInt32).toInt32 &&& (15 : Int32))
def g0_181 (p0 : Int32) (p4 : Int32) : Int64 := (f13 (0 : Int64) p0 (g0_39 p4) (g0_48 p4))
def g0_218 (p1 : Int32) (p4 : Int32) (z196_l19 : Int64) : Int64 := (f13 z196_l19 p1 (g0_58 p4) (g0_68 p4))
def g0_255 (p0 : Int32) (p2 : Int32) (p4 : Int32) (p5 : Int32) : Int64 := (f13 (0 : Int64) (own_s p5 p2 p0) (own_s p5 (g0_78 p4) (g0_39 p4)) (own_s p5 (g0_88 p4) (g0_48 p4)))
def g0_292 (p1 : Int32) (p3 : Int32) (p4 : Int32) (p5 : Int32) (z270_l21 : Int64) : Int64 := (f13 z270_l21 (own_s p5 p3 p1) (own_s p5 (g0_98 p4) (g0_58 p4)) (own_s p5 (g0_108 p4) (g0_68 p4)))
def g0_327 (p5 : Int32) (z233_l19 : Int64) (z307_l21 : Int64) : Int32 := (own_e (g0_6 p5) (g0_16 p5) z233_l19 z307_l21)
theorem own_ss {p5 x y : Int32} (h1 : small x) (h2 : small y) : small (own_s p5 x y) := by
  unfold own_s
  by_cases q : ((p5.toUInt32 >>> ((4 : Int32) &&& 31).toUInt32).toInt32 &&& (1 : Int32)) = (0 : Int32)
  · rw [if_pos q]; exact h1
  · rw [if_neg q]; exact h2
theorem own_hx {x : Int32} (h : small x) : f12 (own_u x.toUInt32.toUInt16.toUInt32.toInt32) = x := by
  rcases own_cases h with rfl | rfl | rfl | rfl | rfl | rfl | rfl | rfl | rfl | rfl | rfl | rfl | rfl | rfl | rfl | rfl <;> rfl
theorem own_k3 (x : Int32) : (x &&& (3 : Int32)) % (3 : Int32) = 0 ∨ (x &&& (3 : Int32)) % (3 : Int32) = 1 ∨ (x &&& (3 : Int32)) % (3 : Int32) = 2 := by
  have m := c_mask x 3 2 (by decide) (by decide)
  have r := c_irem (x &&& 3) 3 3 rfl
  simp only [← Int32.toInt_inj]
  have t0 : (0 : Int32).toInt = 0 := rfl
  have t1 : (1 : Int32).toInt = 1 := rfl
  have t2 : (2 : Int32).toInt = 2 := rfl
  omega
theorem own_inj (p5 : Int32) : (own_n2 (g0_16 p5) = own_n2 (g0_6 p5)) ↔ (g0_6 p5 = g0_16 p5) := by
  have h1 : g0_6 p5 = 0 ∨ g0_6 p5 = 1 ∨ g0_6 p5 = 2 := own_k3 _
  have h2 : g0_16 p5 = 0 ∨ g0_16 p5 = 1 ∨ g0_16 p5 = 2 := own_k3 _
  rcases h1 with h | h | h <;> rcases h2 with g | g | g <;> rw [h, g] <;> decide
theorem own_eq (p5 : Int32) (a b : Int64) : f3 (own_n2 (g0_6 p5)) a (own_n2 (g0_16 p5)) b = own_e (g0_6 p5) (g0_16 p5) a b := by
  unfold f3 own_e
  by_cases hk : g0_6 p5 = g0_16 p5
  · rw [if_pos ((own_inj p5).mpr hk), if_pos hk]
    by_cases q : b = a
    · rw [if_pos q, if_pos q.symm]
    · rw [if_neg q, if_neg (fun e => q e.symm)]
  · rw [if_neg (fun e => hk ((own_inj p5).mp e)), if_neg hk]
theorem own_eq' (p5 : Int32) (a b : Int64) : f3 (own_n2 (g0_16 p5)) b (own_n2 (g0_6 p5)) a = own_e (g0_6 p5) (g0_16 p5) a b := by
  unfold f3 own_e
  by_cases hk : g0_6 p5 = g0_16 p5
  · rw [if_pos ((own_inj p5).mpr hk).symm, if_pos hk]
  · rw [if_neg (fun e => hk ((own_inj p5).mp e.symm)), if_neg hk]
theorem own_refl (x c : Int64) : ¬ f3 x c x c = (0 : Int32) := by
  unfold f3
  rw [if_pos rfl, if_pos rfl]
  decide

set_option maxRecDepth 65536 in
set_option maxHeartbeats 40000000 in
theorem rm0 (l : Launch) (Z : State) (a0 : Array Value) (hw : ∀ d ∈ tables_1, d.before a0 Z = true) (ws : List Jvm.Cond) (p0 : Int32) (p1 : Int32) (p2 : Int32) (p3 : Int32) (p4 : Int32) (p5 : Int32) (cs : Int32) (ca : Addr) (h0 : Heap) (n0 : Nat) (Z0 : n0 ≤ h0.size) (D0 : Old Z n0 h0) (S_cs : Sta Z Z.heap "java/lang/String" "COMPACT_STRINGS" "Z" (.int cs)) (S_hi : Sta Z Z.heap "java/lang/Integer$IntegerCache" "high" "I" (.int (127 : Int32))) (S_ca : Sta Z Z.heap "java/lang/Integer$IntegerCache" "cache" "[Ljava/lang/Integer;" (.ref ca)) (hcs : ¬ cs = (0 : Int32)) (hC : CacheQ Z Z.heap ca) :
    Cmet l Z x code maxLocals ret ws room_1 #[(.int p0), (.int p1), (.int p2), (.int p3), (.int p4), (.int p5)] h0 (fun v h' L => v = some (.int 1) ∧ Fr n0 L) := by
  refine MetFree.of_bodySF (plainFor_of_name pn_5) hisR ?_
  intro p e s m args below meth c s₁ Bd hml0 hP hK
  obtain ⟨rfl, hZ, hh⟩ := hP
  have hx := Bd.exec
  have hlk : meth.locks = false := BodyLoose.notSynchronized Bd
  have hby := Bd.bytes
  have hml : c.maxLocals = 24 := hml0
  have hown : s.vm.findClass "com/example/framewire/framewire/bench/TallyEqualsPinLaw" = some m.cls := findClass_of_methodNamed Bd.named
  have hnm := (name_of_methodNamed Bd.named Bd.method).1
  have X0 : Stand p l e room_1 s m #[(.int p0), (.int p1), (.int p2), (.int p3), (.int p4), (.int p5)] below meth c s₁ [] 0 0 := Stand.of_body Bd
  have e0 : s₁.heap = h0 := by rw [← hh, Bd.state]; rfl
  have N0 := Fr.nil n0
  have B327 : ∀ (T_327 : State) (h_327 : Heap) (locs : List Loc) (X_327 : Stand p l e room_1 s m #[(.int p0), (.int p1), (.int p2), (.int p3), (.int p4), (.int p5)] below meth c T_327 locs 18 44) (e_327 : T_327.heap = h_327) (b2 : Addr) (b5 : Addr) (z135_l8 : Int32) (z233_l19 : Int64) (z307_l21 : Int64) (N_327 : Fr n0 locs) (H327_D : Old Z n0 h_327) (H327_S_java_lang_String_COMPACT_STRINGS : Sta Z Z.heap "java/lang/String" "COMPACT_STRINGS" "Z" (.int cs)) (H327_S_java_lang_Integer_IntegerCache_high : Sta Z Z.heap "java/lang/Integer$IntegerCache" "high" "I" (.int (127 : Int32))) (H327_S_java_lang_Integer_IntegerCache_cache : Sta Z Z.heap "java/lang/Integer$IntegerCache" "cache" "[Ljava/lang/Integer;" (.ref ca)) (H327_Z : n0 ≤ h_327.size) (H327_E_b2 : Exa Z h_327 b2 "com/example/framewire/framewire/bench/Tally") (H327_F_b2_frames : Fld Z h_327 b2 "com/example/framewire/framewire/bench/Tally" "frames" "J" (.long (own_n2 (g0_6 p5)))) (H327_F_b2_checksum : Fld Z h_327 b2 "com/example/framewire/framewire/bench/Tally" "checksum" "J" (.long z233_l19)) (H327_E_b5 : Exa Z h_327 b5 "com/example/framewire/framewire/bench/Tally") (H327_F_b5_frames : Fld Z h_327 b5 "com/example/framewire/framewire/bench/Tally" "frames" "J" (.long (own_n2 (g0_16 p5)))) (H327_F_b5_checksum : Fld Z h_327 b5 "com/example/framewire/framewire/bench/Tally" "checksum" "J" (.long z307_l21)) (ne327_b2_b5 : b2 ≠ b5) (ge327_b2 : n0 ≤ b2) (ge327_b5 : n0 ≤ b5), Fini p e below s (fun v h' L => v = some (.int 1) ∧ Fr n0 L) (Room.cells room_1) (Room.slots room_1) T_327 (mkF m 327 #[.val (.int p0), .val (.int p1), .val (.int (own_s p5 p2 p0)), .val (.int (own_s p5 p3 p1)), .val (.int p4), .val (.int p5), .val (.int (g0_6 p5)), .val (.int (g0_16 p5)), .val (.int z135_l8), .val (.int (g0_39 p4)), .val (.int (g0_48 p4)), .val (.int (g0_58 p4)), .val (.int (g0_68 p4)), .val (.int (own_s p5 (g0_78 p4) (g0_39 p4))), .val (.int (own_s p5 (g0_88 p4) (g0_48 p4))), .val (.int (own_s p5 (g0_98 p4) (g0_58 p4))), .val (.int (own_s p5 (g0_108 p4) (g0_68 p4))), .val (.ref b2), .val (.ref b5), .val (.long z233_l19), .second, .val (.long z307_l21), .second, .unset] [(.int (own_e (g0_6 p5) (g0_16 p5) z233_l19 z307_l21))]) := by
    intro T_327 h_327 locs  X_327 e_327  b2 b5 z135_l8 z233_l19 z307_l21 N_327 H327_D H327_S_java_lang_String_COMPACT_STRINGS H327_S_java_lang_Integer_IntegerCache_high H327_S_java_lang_Integer_IntegerCache_cache H327_Z H327_E_b2 H327_F_b2_frames H327_F_b2_checksum H327_E_b5 H327_F_b5_frames H327_F_b5_checksum ne327_b2_b5 ge327_b2 ge327_b5
    refine Fini.st (fun _ k => XS.istore X_327.here hx rfl (hb hby at_327) rfl (l' := #[.val (.int p0), .val (.int p1), .val (.int (own_s p5 p2 p0)), .val (.int (own_s p5 p3 p1)), .val (.int p4), .val (.int p5), .val (.int (g0_6 p5)), .val (.int (g0_16 p5)), .val (.int z135_l8), .val (.int (g0_39 p4)), .val (.int (g0_48 p4)), .val (.int (g0_58 p4)), .val (.int (g0_68 p4)), .val (.int (own_s p5 (g0_78 p4) (g0_39 p4))), .val (.int (own_s p5 (g0_88 p4) (g0_48 p4))), .val (.int (own_s p5 (g0_98 p4) (g0_58 p4))), .val (.int (own_s p5 (g0_108 p4) (g0_68 p4))), .val (.ref b2), .val (.ref b5), .val (.long z233_l19), .second, .val (.long z307_l21), .second, .val (.int (g0_327 p5 z233_l19 z307_l21))]) rfl k) ?_
    show Fini p e below s _ _ _ T_327 (mkF m 329 #[.val (.int p0), .val (.int p1), .val (.int (own_s p5 p2 p0)), .val (.int (own_s p5 p3 p1)), .val (.int p4), .val (.int p5), .val (.int (g0_6 p5)), .val (.int (g0_16 p5)), .val (.int z135_l8), .val (.int (g0_39 p4)), .val (.int (g0_48 p4)), .val (.int (g0_58 p4)), .val (.int (g0_68 p4)), .val (.int (own_s p5 (g0_78 p4) (g0_39 p4))), .val (.int (own_s p5 (g0_88 p4) (g0_48 p4))), .val (.int (own_s p5 (g0_98 p4) (g0_58 p4))), .val (.int (own_s p5 (g0_108 p4) (g0_68 p4))), .val (.ref b2), .val (.ref b5), .val (.long z233_l19), .second, .val (.long z307_l21), .second, .val (.int (g0_327 p5 z233_l19 z307_l21))] [])
    refine Fini.st (fun _ k => XS.aload X_327.here hx rfl (hb hby at_329) rfl rfl k) ?_
    show Fini p e below s _ _ _ T_327 (mkF m 331 #[.val (.int p0), .val (.int p1), .val (.int (own_s p5 p2 p0)), .val (.int (own_s p5 p3 p1)), .val (.int p4), .val (.int p5), .val (.int (g0_6 p5)), .val (.int (g0_16 p5)), .val (.int z135_l8), .val (.int (g0_39 p4)), .val (.int (g0_48 p4)), .val (.int (g0_58 p4)), .val (.int (g0_68 p4)), .val (.int (own_s p5 (g0_78 p4) (g0_39 p4))), .val (.int (own_s p5 (g0_88 p4) (g0_48 p4))), .val (.int (own_s p5 (g0_98 p4) (g0_58 p4))), .val (.int (own_s p5 (g0_108 p4) (g0_68 p4))), .val (.ref b2), .val (.ref b5), .val (.long z233_l19), .second, .val (.long z307_l21), .second, .val (.int (g0_327 p5 z233_l19 z307_l21))] [(.ref b2)])
    refine Fini.st (fun _ k => XS.aload X_327.here hx rfl (hb hby at_331) rfl rfl k) ?_
    show Fini p e below s _ _ _ T_327 (mkF m 333 #[.val (.int p0), .val (.int p1), .val (.int (own_s p5 p2 p0)), .val (.int (own_s p5 p3 p1)), .val (.int p4), .val (.int p5), .val (.int (g0_6 p5)), .val (.int (g0_16 p5)), .val (.int z135_l8), .val (.int (g0_39 p4)), .val (.int (g0_48 p4)), .val (.int (g0_58 p4)), .val (.int (g0_68 p4)), .val (.int (own_s p5 (g0_78 p4) (g0_39 p4))), .val (.int (own_s p5 (g0_88 p4) (g0_48 p4))), .val (.int (own_s p5 (g0_98 p4) (g0_58 p4))), .val (.int (own_s p5 (g0_108 p4) (g0_68 p4))), .val (.ref b2), .val (.ref b5), .val (.long z233_l19), .second, .val (.long z307_l21), .second, .val (.int (g0_327 p5 z233_l19 z307_l21))] [(.ref b5), (.ref b2)])
    obtain ⟨T105, X105, e105, st105⟩ := pureV X_327 hx hZ hown (hw _ (List.mem_of_getElem? (i := 9) rfl)) (hw _ (List.mem_of_getElem? (i := 10) rfl)) (hw _ (List.mem_of_getElem? (i := 12) rfl)) (hw _ (List.mem_of_getElem? (i := 11) rfl)) (hw _ (List.mem_of_getElem? (i := 2) rfl)) (hw _ (List.mem_of_getElem? (i := 13) rfl)) (notFace_of_selects (args := #[]) (mvT hZ (hw _ (List.mem_of_getElem? (i := 12) rfl)))) H327_E_b2 (by decide) (rm3 l Z a0 hw [] b2 b5 (own_n2 (g0_6 p5)) z233_l19 (own_n2 (g0_16 p5)) z307_l21 h_327 H327_E_b5 H327_F_b2_frames H327_F_b2_checksum H327_F_b5_frames H327_F_b5_checksum) e_327 (W := 0) (by decide) (by decide) (by decide) (by decide) (g := (mkF m 333 #[.val (.int p0), .val (.int p1), .val (.int (own_s p5 p2 p0)), .val (.int (own_s p5 p3 p1)), .val (.int p4), .val (.int p5), .val (.int (g0_6 p5)), .val (.int (g0_16 p5)), .val (.int z135_l8), .val (.int (g0_39 p4)), .val (.int (g0_48 p4)), .val (.int (g0_58 p4)), .val (.int (g0_68 p4)), .val (.int (own_s p5 (g0_78 p4) (g0_39 p4))), .val (.int (own_s p5 (g0_88 p4) (g0_48 p4))), .val (.int (own_s p5 (g0_98 p4) (g0_58 p4))), .val (.int (own_s p5 (g0_108 p4) (g0_68 p4))), .val (.ref b2), .val (.ref b5), .val (.long z233_l19), .second, .val (.long z307_l21), .second, .val (.int (g0_327 p5 z233_l19 z307_l21))] [(.ref b5), (.ref b2)])) rfl (by rw [hml]; rfl) (argsL := [(.ref b5)]) (rest := []) rfl (lenOf pd_11 rfl) rfl (by show 2 * 0 + _ ≤ _; exact Nat.le_of_eq rfl) (hb hby at_333)
    refine Fini.st st105 ?_
    show Fini p e below s _ _ _ T105 (mkF m 336 #[.val (.int p0), .val (.int p1), .val (.int (own_s p5 p2 p0)), .val (.int (own_s p5 p3 p1)), .val (.int p4), .val (.int p5), .val (.int (g0_6 p5)), .val (.int (g0_16 p5)), .val (.int z135_l8), .val (.int (g0_39 p4)), .val (.int (g0_48 p4)), .val (.int (g0_58 p4)), .val (.int (g0_68 p4)), .val (.int (own_s p5 (g0_78 p4) (g0_39 p4))), .val (.int (own_s p5 (g0_88 p4) (g0_48 p4))), .val (.int (own_s p5 (g0_98 p4) (g0_58 p4))), .val (.int (own_s p5 (g0_108 p4) (g0_68 p4))), .val (.ref b2), .val (.ref b5), .val (.long z233_l19), .second, .val (.long z307_l21), .second, .val (.int (g0_327 p5 z233_l19 z307_l21))] [(.int (f3 (own_n2 (g0_6 p5)) z233_l19 (own_n2 (g0_16 p5)) z307_l21))])
    refine Fini.st (fun _ k => XS.iload X105.here hx rfl (hb hby at_336) rfl k) ?_
    show Fini p e below s _ _ _ T105 (mkF m 338 #[.val (.int p0), .val (.int p1), .val (.int (own_s p5 p2 p0)), .val (.int (own_s p5 p3 p1)), .val (.int p4), .val (.int p5), .val (.int (g0_6 p5)), .val (.int (g0_16 p5)), .val (.int z135_l8), .val (.int (g0_39 p4)), .val (.int (g0_48 p4)), .val (.int (g0_58 p4)), .val (.int (g0_68 p4)), .val (.int (own_s p5 (g0_78 p4) (g0_39 p4))), .val (.int (own_s p5 (g0_88 p4) (g0_48 p4))), .val (.int (own_s p5 (g0_98 p4) (g0_58 p4))), .val (.int (own_s p5 (g0_108 p4) (g0_68 p4))), .val (.ref b2), .val (.ref b5), .val (.long z233_l19), .second, .val (.long z307_l21), .second, .val (.int (g0_327 p5 z233_l19 z307_l21))] [(.int (g0_327 p5 z233_l19 z307_l21)), (.int (f3 (own_n2 (g0_6 p5)) z233_l19 (own_n2 (g0_16 p5)) z307_l21))])
    refine Fini.st (fun _ k => XS.icmpNo X105.here hx rfl (hb hby at_338) rfl (XT.ii_ne_f (own_eq p5 _ _)) k) ?_
    show Fini p e below s _ _ _ T105 (mkF m 341 #[.val (.int p0), .val (.int p1), .val (.int (own_s p5 p2 p0)), .val (.int (own_s p5 p3 p1)), .val (.int p4), .val (.int p5), .val (.int (g0_6 p5)), .val (.int (g0_16 p5)), .val (.int z135_l8), .val (.int (g0_39 p4)), .val (.int (g0_48 p4)), .val (.int (g0_58 p4)), .val (.int (g0_68 p4)), .val (.int (own_s p5 (g0_78 p4) (g0_39 p4))), .val (.int (own_s p5 (g0_88 p4) (g0_48 p4))), .val (.int (own_s p5 (g0_98 p4) (g0_58 p4))), .val (.int (own_s p5 (g0_108 p4) (g0_68 p4))), .val (.ref b2), .val (.ref b5), .val (.long z233_l19), .second, .val (.long z307_l21), .second, .val (.int (g0_327 p5 z233_l19 z307_l21))] [])
    refine Fini.st (fun _ k => XS.aload X105.here hx rfl (hb hby at_341) rfl rfl k) ?_
    show Fini p e below s _ _ _ T105 (mkF m 343 #[.val (.int p0), .val (.int p1), .val (.int (own_s p5 p2 p0)), .val (.int (own_s p5 p3 p1)), .val (.int p4), .val (.int p5), .val (.int (g0_6 p5)), .val (.int (g0_16 p5)), .val (.int z135_l8), .val (.int (g0_39 p4)), .val (.int (g0_48 p4)), .val (.int (g0_58 p4)), .val (.int (g0_68 p4)), .val (.int (own_s p5 (g0_78 p4) (g0_39 p4))), .val (.int (own_s p5 (g0_88 p4) (g0_48 p4))), .val (.int (own_s p5 (g0_98 p4) (g0_58 p4))), .val (.int (own_s p5 (g0_108 p4) (g0_68 p4))), .val (.ref b2), .val (.ref b5), .val (.long z233_l19), .second, .val (.long z307_l21), .second, .val (.int (g0_327 p5 z233_l19 z307_l21))] [(.ref b5)])
    refine Fini.st (fun _ k => XS.aload X105.here hx rfl (hb hby at_343) rfl rfl k) ?_
    show Fini p e below s _ _ _ T105 (mkF m 345 #[.val (.int p0), .val (.int p1), .val (.int (own_s p5 p2 p0)), .val (.int (own_s p5 p3 p1)), .val (.int p4), .val (.int p5), .val (.int (g0_6 p5)), .val (.int (g0_16 p5)), .val (.int z135_l8), .val (.int (g0_39 p4)), .val (.int (g0_48 p4)), .val (.int (g0_58 p4)), .val (.int (g0_68 p4)), .val (.int (own_s p5 (g0_78 p4) (g0_39 p4))), .val (.int (own_s p5 (g0_88 p4) (g0_48 p4))), .val (.int (own_s p5 (g0_98 p4) (g0_58 p4))), .val (.int (own_s p5 (g0_108 p4) (g0_68 p4))), .val (.ref b2), .val (.ref b5), .val (.long z233_l19), .second, .val (.long z307_l21), .second, .val (.int (g0_327 p5 z233_l19 z307_l21))] [(.ref b2), (.ref b5)])
    obtain ⟨T106, X106, e106, st106⟩ := pureV X105 hx hZ hown (hw _ (List.mem_of_getElem? (i := 9) rfl)) (hw _ (List.mem_of_getElem? (i := 10) rfl)) (hw _ (List.mem_of_getElem? (i := 12) rfl)) (hw _ (List.mem_of_getElem? (i := 11) rfl)) (hw _ (List.mem_of_getElem? (i := 2) rfl)) (hw _ (List.mem_of_getElem? (i := 13) rfl)) (notFace_of_selects (args := #[]) (mvT hZ (hw _ (List.mem_of_getElem? (i := 12) rfl)))) H327_E_b5 (by decide) (rm3 l Z a0 hw [] b5 b2 (own_n2 (g0_16 p5)) z307_l21 (own_n2 (g0_6 p5)) z233_l19 h_327 H327_E_b2 H327_F_b5_frames H327_F_b5_checksum H327_F_b2_frames H327_F_b2_checksum) e105 (W := 0) (by decide) (by decide) (by decide) (by decide) (g := (mkF m 345 #[.val (.int p0), .val (.int p1), .val (.int (own_s p5 p2 p0)), .val (.int (own_s p5 p3 p1)), .val (.int p4), .val (.int p5), .val (.int (g0_6 p5)), .val (.int (g0_16 p5)), .val (.int z135_l8), .val (.int (g0_39 p4)), .val (.int (g0_48 p4)), .val (.int (g0_58 p4)), .val (.int (g0_68 p4)), .val (.int (own_s p5 (g0_78 p4) (g0_39 p4))), .val (.int (own_s p5 (g0_88 p4) (g0_48 p4))), .val (.int (own_s p5 (g0_98 p4) (g0_58 p4))), .val (.int (own_s p5 (g0_108 p4) (g0_68 p4))), .val (.ref b2), .val (.ref b5), .val (.long z233_l19), .second, .val (.long z307_l21), .second, .val (.int (g0_327 p5 z233_l19 z307_l21))] [(.ref b2), (.ref b5)])) rfl (by rw [hml]; rfl) (argsL := [(.ref b2)]) (rest := []) rfl (lenOf pd_11 rfl) rfl (by show 2 * 0 + _ ≤ _; exact Nat.le_of_eq rfl) (hb hby at_345)
    refine Fini.st st106 ?_
    show Fini p e below s _ _ _ T106 (mkF m 348 #[.val (.int p0), .val (.int p1), .val (.int (own_s p5 p2 p0)), .val (.int (own_s p5 p3 p1)), .val (.int p4), .val (.int p5), .val (.int (g0_6 p5)), .val (.int (g0_16 p5)), .val (.int z135_l8), .val (.int (g0_39 p4)), .val (.int (g0_48 p4)), .val (.int (g0_58 p4)), .val (.int (g0_68 p4)), .val (.int (own_s p5 (g0_78 p4) (g0_39 p4))), .val (.int (own_s p5 (g0_88 p4) (g0_48 p4))), .val (.int (own_s p5 (g0_98 p4) (g0_58 p4))), .val (.int (own_s p5 (g0_108 p4) (g0_68 p4))), .val (.ref b2), .val (.ref b5), .val (.long z233_l19), .second, .val (.long z307_l21), .second, .val (.int (g0_327 p5 z233_l19 z307_l21))] [(.int (f3 (own_n2 (g0_16 p5)) z307_l21 (own_n2 (g0_6 p5)) z233_l19))])
    refine Fini.st (fun _ k => XS.iload X106.here hx rfl (hb hby at_348) rfl k) ?_
    show Fini p e below s _ _ _ T106 (mkF m 350 #[.val (.int p0), .val (.int p1), .val (.int (own_s p5 p2 p0)), .val (.int (own_s p5 p3 p1)), .val (.int p4), .val (.int p5), .val (.int (g0_6 p5)), .val (.int (g0_16 p5)), .val (.int z135_l8), .val (.int (g0_39 p4)), .val (.int (g0_48 p4)), .val (.int (g0_58 p4)), .val (.int (g0_68 p4)), .val (.int (own_s p5 (g0_78 p4) (g0_39 p4))), .val (.int (own_s p5 (g0_88 p4) (g0_48 p4))), .val (.int (own_s p5 (g0_98 p4) (g0_58 p4))), .val (.int (own_s p5 (g0_108 p4) (g0_68 p4))), .val (.ref b2), .val (.ref b5), .val (.long z233_l19), .second, .val (.long z307_l21), .second, .val (.int (g0_327 p5 z233_l19 z307_l21))] [(.int (g0_327 p5 z233_l19 z307_l21)), (.int (f3 (own_n2 (g0_16 p5)) z307_l21 (own_n2 (g0_6 p5)) z233_l19))])
    refine Fini.st (fun _ k => XS.icmpNo X106.here hx rfl (hb hby at_350) rfl (XT.ii_ne_f (own_eq' p5 _ _)) k) ?_
    show Fini p e below s _ _ _ T106 (mkF m 353 #[.val (.int p0), .val (.int p1), .val (.int (own_s p5 p2 p0)), .val (.int (own_s p5 p3 p1)), .val (.int p4), .val (.int p5), .val (.int (g0_6 p5)), .val (.int (g0_16 p5)), .val (.int z135_l8), .val (.int (g0_39 p4)), .val (.int (g0_48 p4)), .val (.int (g0_58 p4)), .val (.int (g0_68 p4)), .val (.int (own_s p5 (g0_78 p4) (g0_39 p4))), .val (.int (own_s p5 (g0_88 p4) (g0_48 p4))), .val (.int (own_s p5 (g0_98 p4) (g0_58 p4))), .val (.int (own_s p5 (g0_108 p4) (g0_68 p4))), .val (.ref b2), .val (.ref b5), .val (.long z233_l19), .second, .val (.long z307_l21), .second, .val (.int (g0_327 p5 z233_l19 z307_l21))] [])
    refine Fini.st (fun _ k => XS.aload X106.here hx rfl (hb hby at_353) rfl rfl k) ?_
    show Fini p e below s _ _ _ T106 (mkF m 355 #[.val (.int p0), .val (.int p1), .val (.int (own_s p5 p2 p0)), .val (.int (own_s p5 p3 p1)), .val (.int p4), .val (.int p5), .val (.int (g0_6 p5)), .val (.int (g0_16 p5)), .val (.int z135_l8), .val (.int (g0_39 p4)), .val (.int (g0_48 p4)), .val (.int (g0_58 p4)), .val (.int (g0_68 p4)), .val (.int (own_s p5 (g0_78 p4) (g0_39 p4))), .val (.int (own_s p5 (g0_88 p4) (g0_48 p4))), .val (.int (own_s p5 (g0_98 p4) (g0_58 p4))), .val (.int (own_s p5 (g0_108 p4) (g0_68 p4))), .val (.ref b2), .val (.ref b5), .val (.long z233_l19), .second, .val (.long z307_l21), .second, .val (.int (g0_327 p5 z233_l19 z307_l21))] [(.ref b2)])
    refine Fini.st (fun _ k => XS.aload X106.here hx rfl (hb hby at_355) rfl rfl k) ?_
    show Fini p e below s _ _ _ T106 (mkF m 357 #[.val (.int p0), .val (.int p1), .val (.int (own_s p5 p2 p0)), .val (.int (own_s p5 p3 p1)), .val (.int p4), .val (.int p5), .val (.int (g0_6 p5)), .val (.int (g0_16 p5)), .val (.int z135_l8), .val (.int (g0_39 p4)), .val (.int (g0_48 p4)), .val (.int (g0_58 p4)), .val (.int (g0_68 p4)), .val (.int (own_s p5 (g0_78 p4) (g0_39 p4))), .val (.int (own_s p5 (g0_88 p4) (g0_48 p4))), .val (.int (own_s p5 (g0_98 p4) (g0_58 p4))), .val (.int (own_s p5 (g0_108 p4) (g0_68 p4))), .val (.ref b2), .val (.ref b5), .val (.long z233_l19), .second, .val (.long z307_l21), .second, .val (.int (g0_327 p5 z233_l19 z307_l21))] [(.ref b2), (.ref b2)])
    obtain ⟨T107, X107, e107, st107⟩ := pureV X106 hx hZ hown (hw _ (List.mem_of_getElem? (i := 9) rfl)) (hw _ (List.mem_of_getElem? (i := 10) rfl)) (hw _ (List.mem_of_getElem? (i := 12) rfl)) (hw _ (List.mem_of_getElem? (i := 11) rfl)) (hw _ (List.mem_of_getElem? (i := 2) rfl)) (hw _ (List.mem_of_getElem? (i := 13) rfl)) (notFace_of_selects (args := #[]) (mvT hZ (hw _ (List.mem_of_getElem? (i := 12) rfl)))) H327_E_b2 (by decide) (rm3 l Z a0 hw [] b2 b2 (own_n2 (g0_6 p5)) z233_l19 (own_n2 (g0_6 p5)) z233_l19 h_327 H327_E_b2 H327_F_b2_frames H327_F_b2_checksum H327_F_b2_frames H327_F_b2_checksum) e106 (W := 0) (by decide) (by decide) (by decide) (by decide) (g := (mkF m 357 #[.val (.int p0), .val (.int p1), .val (.int (own_s p5 p2 p0)), .val (.int (own_s p5 p3 p1)), .val (.int p4), .val (.int p5), .val (.int (g0_6 p5)), .val (.int (g0_16 p5)), .val (.int z135_l8), .val (.int (g0_39 p4)), .val (.int (g0_48 p4)), .val (.int (g0_58 p4)), .val (.int (g0_68 p4)), .val (.int (own_s p5 (g0_78 p4) (g0_39 p4))), .val (.int (own_s p5 (g0_88 p4) (g0_48 p4))), .val (.int (own_s p5 (g0_98 p4) (g0_58 p4))), .val (.int (own_s p5 (g0_108 p4) (g0_68 p4))), .val (.ref b2), .val (.ref b5), .val (.long z233_l19), .second, .val (.long z307_l21), .second, .val (.int (g0_327 p5 z233_l19 z307_l21))] [(.ref b2), (.ref b2)])) rfl (by rw [hml]; rfl) (argsL := [(.ref b2)]) (rest := []) rfl (lenOf pd_11 rfl) rfl (by show 2 * 0 + _ ≤ _; exact Nat.le_of_eq rfl) (hb hby at_357)
    refine Fini.st st107 ?_
    show Fini p e below s _ _ _ T107 (mkF m 360 #[.val (.int p0), .val (.int p1), .val (.int (own_s p5 p2 p0)), .val (.int (own_s p5 p3 p1)), .val (.int p4), .val (.int p5), .val (.int (g0_6 p5)), .val (.int (g0_16 p5)), .val (.int z135_l8), .val (.int (g0_39 p4)), .val (.int (g0_48 p4)), .val (.int (g0_58 p4)), .val (.int (g0_68 p4)), .val (.int (own_s p5 (g0_78 p4) (g0_39 p4))), .val (.int (own_s p5 (g0_88 p4) (g0_48 p4))), .val (.int (own_s p5 (g0_98 p4) (g0_58 p4))), .val (.int (own_s p5 (g0_108 p4) (g0_68 p4))), .val (.ref b2), .val (.ref b5), .val (.long z233_l19), .second, .val (.long z307_l21), .second, .val (.int (g0_327 p5 z233_l19 z307_l21))] [(.int (f3 (own_n2 (g0_6 p5)) z233_l19 (own_n2 (g0_6 p5)) z233_l19))])
    refine Fini.st (fun _ k => XS.ifNo X107.here hx rfl (hb hby at_360) rfl (XT.i0_eq_f (own_refl _ _)) k) ?_
    show Fini p e below s _ _ _ T107 (mkF m 363 #[.val (.int p0), .val (.int p1), .val (.int (own_s p5 p2 p0)), .val (.int (own_s p5 p3 p1)), .val (.int p4), .val (.int p5), .val (.int (g0_6 p5)), .val (.int (g0_16 p5)), .val (.int z135_l8), .val (.int (g0_39 p4)), .val (.int (g0_48 p4)), .val (.int (g0_58 p4)), .val (.int (g0_68 p4)), .val (.int (own_s p5 (g0_78 p4) (g0_39 p4))), .val (.int (own_s p5 (g0_88 p4) (g0_48 p4))), .val (.int (own_s p5 (g0_98 p4) (g0_58 p4))), .val (.int (own_s p5 (g0_108 p4) (g0_68 p4))), .val (.ref b2), .val (.ref b5), .val (.long z233_l19), .second, .val (.long z307_l21), .second, .val (.int (g0_327 p5 z233_l19 z307_l21))] [])
    refine Fini.st (fun _ k => XS.aload X107.here hx rfl (hb hby at_363) rfl rfl k) ?_
    show Fini p e below s _ _ _ T107 (mkF m 365 #[.val (.int p0), .val (.int p1), .val (.int (own_s p5 p2 p0)), .val (.int (own_s p5 p3 p1)), .val (.int p4), .val (.int p5), .val (.int (g0_6 p5)), .val (.int (g0_16 p5)), .val (.int z135_l8), .val (.int (g0_39 p4)), .val (.int (g0_48 p4)), .val (.int (g0_58 p4)), .val (.int (g0_68 p4)), .val (.int (own_s p5 (g0_78 p4) (g0_39 p4))), .val (.int (own_s p5 (g0_88 p4) (g0_48 p4))), .val (.int (own_s p5 (g0_98 p4) (g0_58 p4))), .val (.int (own_s p5 (g0_108 p4) (g0_68 p4))), .val (.ref b2), .val (.ref b5), .val (.long z233_l19), .second, .val (.long z307_l21), .second, .val (.int (g0_327 p5 z233_l19 z307_l21))] [(.ref b2)])
    refine Fini.st (fun _ k => XS.aconstNull X107.here hx rfl (hb hby at_365) k) ?_
    show Fini p e below s _ _ _ T107 (mkF m 366 #[.val (.int p0), .val (.int p1), .val (.int (own_s p5 p2 p0)), .val (.int (own_s p5 p3 p1)), .val (.int p4), .val (.int p5), .val (.int (g0_6 p5)), .val (.int (g0_16 p5)), .val (.int z135_l8), .val (.int (g0_39 p4)), .val (.int (g0_48 p4)), .val (.int (g0_58 p4)), .val (.int (g0_68 p4)), .val (.int (own_s p5 (g0_78 p4) (g0_39 p4))), .val (.int (own_s p5 (g0_88 p4) (g0_48 p4))), .val (.int (own_s p5 (g0_98 p4) (g0_58 p4))), .val (.int (own_s p5 (g0_108 p4) (g0_68 p4))), .val (.ref b2), .val (.ref b5), .val (.long z233_l19), .second, .val (.long z307_l21), .second, .val (.int (g0_327 p5 z233_l19 z307_l21))] [.null, (.ref b2)])
    obtain ⟨T108, X108, e108, st108⟩ := pureV X107 hx hZ hown (hw _ (List.mem_of_getElem? (i := 9) rfl)) (hw _ (List.mem_of_getElem? (i := 10) rfl)) (hw _ (List.mem_of_getElem? (i := 12) rfl)) (hw _ (List.mem_of_getElem? (i := 11) rfl)) (hw _ (List.mem_of_getElem? (i := 2) rfl)) (hw _ (List.mem_of_getElem? (i := 13) rfl)) (notFace_of_selects (args := #[]) (mvT hZ (hw _ (List.mem_of_getElem? (i := 12) rfl)))) H327_E_b2 (by decide) (rm3n l Z a0 hw [] b2 h_327) e107 (W := 0) (by decide) (by decide) (by decide) (by decide) (g := (mkF m 366 #[.val (.int p0), .val (.int p1), .val (.int (own_s p5 p2 p0)), .val (.int (own_s p5 p3 p1)), .val (.int p4), .val (.int p5), .val (.int (g0_6 p5)), .val (.int (g0_16 p5)), .val (.int z135_l8), .val (.int (g0_39 p4)), .val (.int (g0_48 p4)), .val (.int (g0_58 p4)), .val (.int (g0_68 p4)), .val (.int (own_s p5 (g0_78 p4) (g0_39 p4))), .val (.int (own_s p5 (g0_88 p4) (g0_48 p4))), .val (.int (own_s p5 (g0_98 p4) (g0_58 p4))), .val (.int (own_s p5 (g0_108 p4) (g0_68 p4))), .val (.ref b2), .val (.ref b5), .val (.long z233_l19), .second, .val (.long z307_l21), .second, .val (.int (g0_327 p5 z233_l19 z307_l21))] [.null, (.ref b2)])) rfl (by rw [hml]; rfl) (argsL := [.null]) (rest := []) rfl (lenOf pd_11 rfl) rfl (by show 2 * 0 + _ ≤ _; exact Nat.le_of_eq rfl) (hb hby at_366)
    refine Fini.st st108 ?_
    show Fini p e below s _ _ _ T108 (mkF m 369 #[.val (.int p0), .val (.int p1), .val (.int (own_s p5 p2 p0)), .val (.int (own_s p5 p3 p1)), .val (.int p4), .val (.int p5), .val (.int (g0_6 p5)), .val (.int (g0_16 p5)), .val (.int z135_l8), .val (.int (g0_39 p4)), .val (.int (g0_48 p4)), .val (.int (g0_58 p4)), .val (.int (g0_68 p4)), .val (.int (own_s p5 (g0_78 p4) (g0_39 p4))), .val (.int (own_s p5 (g0_88 p4) (g0_48 p4))), .val (.int (own_s p5 (g0_98 p4) (g0_58 p4))), .val (.int (own_s p5 (g0_108 p4) (g0_68 p4))), .val (.ref b2), .val (.ref b5), .val (.long z233_l19), .second, .val (.long z307_l21), .second, .val (.int (g0_327 p5 z233_l19 z307_l21))] [(.int (0 : Int32))])
    refine Fini.st (fun _ k => XS.ifNo X108.here hx rfl (hb hby at_369) rfl (XT.i0_ne_f (by decide : (0 : Int32) = (0 : Int32))) k) ?_
    show Fini p e below s _ _ _ T108 (mkF m 372 #[.val (.int p0), .val (.int p1), .val (.int (own_s p5 p2 p0)), .val (.int (own_s p5 p3 p1)), .val (.int p4), .val (.int p5), .val (.int (g0_6 p5)), .val (.int (g0_16 p5)), .val (.int z135_l8), .val (.int (g0_39 p4)), .val (.int (g0_48 p4)), .val (.int (g0_58 p4)), .val (.int (g0_68 p4)), .val (.int (own_s p5 (g0_78 p4) (g0_39 p4))), .val (.int (own_s p5 (g0_88 p4) (g0_48 p4))), .val (.int (own_s p5 (g0_98 p4) (g0_58 p4))), .val (.int (own_s p5 (g0_108 p4) (g0_68 p4))), .val (.ref b2), .val (.ref b5), .val (.long z233_l19), .second, .val (.long z307_l21), .second, .val (.int (g0_327 p5 z233_l19 z307_l21))] [])
    refine Fini.st (fun _ k => XS.aload X108.here hx rfl (hb hby at_372) rfl rfl k) ?_
    show Fini p e below s _ _ _ T108 (mkF m 374 #[.val (.int p0), .val (.int p1), .val (.int (own_s p5 p2 p0)), .val (.int (own_s p5 p3 p1)), .val (.int p4), .val (.int p5), .val (.int (g0_6 p5)), .val (.int (g0_16 p5)), .val (.int z135_l8), .val (.int (g0_39 p4)), .val (.int (g0_48 p4)), .val (.int (g0_58 p4)), .val (.int (g0_68 p4)), .val (.int (own_s p5 (g0_78 p4) (g0_39 p4))), .val (.int (own_s p5 (g0_88 p4) (g0_48 p4))), .val (.int (own_s p5 (g0_98 p4) (g0_58 p4))), .val (.int (own_s p5 (g0_108 p4) (g0_68 p4))), .val (.ref b2), .val (.ref b5), .val (.long z233_l19), .second, .val (.long z307_l21), .second, .val (.int (g0_327 p5 z233_l19 z307_l21))] [(.ref b2)])
    refine Fini.st (fun _ k => XS.iloadN X108.here hx rfl (hb hby at_374) rfl k) ?_
    show Fini p e below s _ _ _ T108 (mkF m 375 #[.val (.int p0), .val (.int p1), .val (.int (own_s p5 p2 p0)), .val (.int (own_s p5 p3 p1)), .val (.int p4), .val (.int p5), .val (.int (g0_6 p5)), .val (.int (g0_16 p5)), .val (.int z135_l8), .val (.int (g0_39 p4)), .val (.int (g0_48 p4)), .val (.int (g0_58 p4)), .val (.int (g0_68 p4)), .val (.int (own_s p5 (g0_78 p4) (g0_39 p4))), .val (.int (own_s p5 (g0_88 p4) (g0_48 p4))), .val (.int (own_s p5 (g0_98 p4) (g0_58 p4))), .val (.int (own_s p5 (g0_108 p4) (g0_68 p4))), .val (.ref b2), .val (.ref b5), .val (.long z233_l19), .second, .val (.long z307_l21), .second, .val (.int (g0_327 p5 z233_l19 z307_l21))] [(.int p0), (.ref b2)])
    obtain ⟨v109, T109, L109, X109, hQ109, st109⟩ := callQ X108 hx hZ hown (hw _ (List.mem_of_getElem? (i := 20) rfl)) (hw _ (List.mem_of_getElem? (i := 21) rfl)) (hw _ (List.mem_of_getElem? (i := 22) rfl)) (hw _ (List.mem_of_getElem? (i := 23) rfl)) (by decide) (rm4 l Z a0 hw [] p0 ca h_327 n0 H327_Z H327_D S_hi S_ca hC) e108 (W := 1) (by decide) (by decide) (by decide) (by decide) (g := (mkF m 375 #[.val (.int p0), .val (.int p1), .val (.int (own_s p5 p2 p0)), .val (.int (own_s p5 p3 p1)), .val (.int p4), .val (.int p5), .val (.int (g0_6 p5)), .val (.int (g0_16 p5)), .val (.int z135_l8), .val (.int (g0_39 p4)), .val (.int (g0_48 p4)), .val (.int (g0_58 p4)), .val (.int (g0_68 p4)), .val (.int (own_s p5 (g0_78 p4) (g0_39 p4))), .val (.int (own_s p5 (g0_88 p4) (g0_48 p4))), .val (.int (own_s p5 (g0_98 p4) (g0_58 p4))), .val (.int (own_s p5 (g0_108 p4) (g0_68 p4))), .val (.ref b2), .val (.ref b5), .val (.long z233_l19), .second, .val (.long z307_l21), .second, .val (.int (g0_327 p5 z233_l19 z307_l21))] [(.int p0), (.ref b2)])) rfl (by rw [hml]; rfl) (argsL := [(.int p0)]) (rest := [(.ref b2)]) rfl (lenOf pd_12 rfl) rfl (by show 2 * 0 + _ ≤ _; exact Nat.le_of_eq rfl) (hb hby at_375)
    obtain ⟨b109, rfl, Nq109, K109, Ei109⟩ := hQ109
    have N109 := Fr.app N_327 Nq109
    refine Fini.st st109 ?_
    show Fini p e below s _ _ _ T109 (mkF m 378 #[.val (.int p0), .val (.int p1), .val (.int (own_s p5 p2 p0)), .val (.int (own_s p5 p3 p1)), .val (.int p4), .val (.int p5), .val (.int (g0_6 p5)), .val (.int (g0_16 p5)), .val (.int z135_l8), .val (.int (g0_39 p4)), .val (.int (g0_48 p4)), .val (.int (g0_58 p4)), .val (.int (g0_68 p4)), .val (.int (own_s p5 (g0_78 p4) (g0_39 p4))), .val (.int (own_s p5 (g0_88 p4) (g0_48 p4))), .val (.int (own_s p5 (g0_98 p4) (g0_58 p4))), .val (.int (own_s p5 (g0_108 p4) (g0_68 p4))), .val (.ref b2), .val (.ref b5), .val (.long z233_l19), .second, .val (.long z307_l21), .second, .val (.int (g0_327 p5 z233_l19 z307_l21))] [(.ref b109), (.ref b2)])
    have Ex_111 : Exa Z T109.heap b2 "com/example/framewire/framewire/bench/Tally" := (H327_E_b2.keep K109)
    obtain ⟨T110, X110, e110, st110⟩ := pureV X109 hx hZ hown (hw _ (List.mem_of_getElem? (i := 9) rfl)) (hw _ (List.mem_of_getElem? (i := 10) rfl)) (hw _ (List.mem_of_getElem? (i := 12) rfl)) (hw _ (List.mem_of_getElem? (i := 11) rfl)) (hw _ (List.mem_of_getElem? (i := 2) rfl)) (hw _ (List.mem_of_getElem? (i := 13) rfl)) (notFace_of_selects (args := #[]) (mvT hZ (hw _ (List.mem_of_getElem? (i := 12) rfl)))) Ex_111 (by decide) (rm3i l Z a0 hw [] b2 b109 T109.heap Ei109) rfl (W := 0) (by decide) (by decide) (by decide) (by decide) (g := (mkF m 378 #[.val (.int p0), .val (.int p1), .val (.int (own_s p5 p2 p0)), .val (.int (own_s p5 p3 p1)), .val (.int p4), .val (.int p5), .val (.int (g0_6 p5)), .val (.int (g0_16 p5)), .val (.int z135_l8), .val (.int (g0_39 p4)), .val (.int (g0_48 p4)), .val (.int (g0_58 p4)), .val (.int (g0_68 p4)), .val (.int (own_s p5 (g0_78 p4) (g0_39 p4))), .val (.int (own_s p5 (g0_88 p4) (g0_48 p4))), .val (.int (own_s p5 (g0_98 p4) (g0_58 p4))), .val (.int (own_s p5 (g0_108 p4) (g0_68 p4))), .val (.ref b2), .val (.ref b5), .val (.long z233_l19), .second, .val (.long z307_l21), .second, .val (.int (g0_327 p5 z233_l19 z307_l21))] [(.ref b109), (.ref b2)])) rfl (by rw [hml]; rfl) (argsL := [(.ref b109)]) (rest := []) rfl (lenOf pd_11 rfl) rfl (by show 2 * 0 + _ ≤ _; exact Nat.le_of_eq rfl) (hb hby at_378)
    refine Fini.st st110 ?_
    show Fini p e below s _ _ _ T110 (mkF m 381 #[.val (.int p0), .val (.int p1), .val (.int (own_s p5 p2 p0)), .val (.int (own_s p5 p3 p1)), .val (.int p4), .val (.int p5), .val (.int (g0_6 p5)), .val (.int (g0_16 p5)), .val (.int z135_l8), .val (.int (g0_39 p4)), .val (.int (g0_48 p4)), .val (.int (g0_58 p4)), .val (.int (g0_68 p4)), .val (.int (own_s p5 (g0_78 p4) (g0_39 p4))), .val (.int (own_s p5 (g0_88 p4) (g0_48 p4))), .val (.int (own_s p5 (g0_98 p4) (g0_58 p4))), .val (.int (own_s p5 (g0_108 p4) (g0_68 p4))), .val (.ref b2), .val (.ref b5), .val (.long z233_l19), .second, .val (.long z307_l21), .second, .val (.int (g0_327 p5 z233_l19 z307_l21))] [(.int (0 : Int32))])
    refine Fini.st (fun _ k => XS.ifNo X110.here hx rfl (hb hby at_381) rfl (XT.i0_ne_f (by decide : (0 : Int32) = (0 : Int32))) k) ?_
    show Fini p e below s _ _ _ T110 (mkF m 384 #[.val (.int p0), .val (.int p1), .val (.int (own_s p5 p2 p0)), .val (.int (own_s p5 p3 p1)), .val (.int p4), .val (.int p5), .val (.int (g0_6 p5)), .val (.int (g0_16 p5)), .val (.int z135_l8), .val (.int (g0_39 p4)), .val (.int (g0_48 p4)), .val (.int (g0_58 p4)), .val (.int (g0_68 p4)), .val (.int (own_s p5 (g0_78 p4) (g0_39 p4))), .val (.int (own_s p5 (g0_88 p4) (g0_48 p4))), .val (.int (own_s p5 (g0_98 p4) (g0_58 p4))), .val (.int (own_s p5 (g0_108 p4) (g0_68 p4))), .val (.ref b2), .val (.ref b5), .val (.long z233_l19), .second, .val (.long z307_l21), .second, .val (.int (g0_327 p5 z233_l19 z307_l21))] [])
    refine Fini.st (fun _ k => XS.iconst X110.here hx rfl (hb hby at_384) k) ?_
    show Fini p e below s _ _ _ T110 (mkF m 385 #[.val (.int p0), .val (.int p1), .val (.int (own_s p5 p2 p0)), .val (.int (own_s p5 p3 p1)), .val (.int p4), .val (.int p5), .val (.int (g0_6 p5)), .val (.int (g0_16 p5)), .val (.int z135_l8), .val (.int (g0_39 p4)), .val (.int (g0_48 p4)), .val (.int (g0_58 p4)), .val (.int (g0_68 p4)), .val (.int (own_s p5 (g0_78 p4) (g0_39 p4))), .val (.int (own_s p5 (g0_88 p4) (g0_48 p4))), .val (.int (own_s p5 (g0_98 p4) (g0_58 p4))), .val (.int (own_s p5 (g0_108 p4) (g0_68 p4))), .val (.ref b2), .val (.ref b5), .val (.long z233_l19), .second, .val (.long z307_l21), .second, .val (.int (g0_327 p5 z233_l19 z307_l21))] [(.int (1 : Int32))])
    refine Fini.st (fun _ k => XS.goto X110.here hx rfl (pc0 := 385) (pc' := 389) rfl (hb hby at_385) (by decide) (by decide) k) ?_
    show Fini p e below s _ _ _ T110 (mkF m 389 #[.val (.int p0), .val (.int p1), .val (.int (own_s p5 p2 p0)), .val (.int (own_s p5 p3 p1)), .val (.int p4), .val (.int p5), .val (.int (g0_6 p5)), .val (.int (g0_16 p5)), .val (.int z135_l8), .val (.int (g0_39 p4)), .val (.int (g0_48 p4)), .val (.int (g0_58 p4)), .val (.int (g0_68 p4)), .val (.int (own_s p5 (g0_78 p4) (g0_39 p4))), .val (.int (own_s p5 (g0_88 p4) (g0_48 p4))), .val (.int (own_s p5 (g0_98 p4) (g0_58 p4))), .val (.int (own_s p5 (g0_108 p4) (g0_68 p4))), .val (.ref b2), .val (.ref b5), .val (.long z233_l19), .second, .val (.long z307_l21), .second, .val (.int (g0_327 p5 z233_l19 z307_l21))] [(.int (1 : Int32))])
    exact Fini.retN X110 hx hlk (t := .boolean) Bd.returns (by simp) (hb hby at_389) nb1 (by decide) (by decide) ⟨rfl, N109⟩
  have B307 : ∀ (T_307 : State) (h_307 : Heap) (locs : List Loc) (X_307 : Stand p l e room_1 s m #[(.int p0), (.int p1), (.int p2), (.int p3), (.int p4), (.int p5)] below meth c T_307 locs 18 44) (e_307 : T_307.heap = h_307) (b2 : Addr) (b5 : Addr) (z307_l21 : Int64) (z135_l8 : Int32) (z233_l19 : Int64) (N_307 : Fr n0 locs) (H307_D : Old Z n0 h_307) (H307_S_java_lang_String_COMPACT_STRINGS : Sta Z Z.heap "java/lang/String" "COMPACT_STRINGS" "Z" (.int cs)) (H307_S_java_lang_Integer_IntegerCache_high : Sta Z Z.heap "java/lang/Integer$IntegerCache" "high" "I" (.int (127 : Int32))) (H307_S_java_lang_Integer_IntegerCache_cache : Sta Z Z.heap "java/lang/Integer$IntegerCache" "cache" "[Ljava/lang/Integer;" (.ref ca)) (H307_Z : n0 ≤ h_307.size) (H307_E_b2 : Exa Z h_307 b2 "com/example/framewire/framewire/bench/Tally") (H307_F_b2_frames : Fld Z h_307 b2 "com/example/framewire/framewire/bench/Tally" "frames" "J" (.long (own_n2 (g0_6 p5)))) (H307_F_b2_checksum : Fld Z h_307 b2 "com/example/framewire/framewire/bench/Tally" "checksum" "J" (.long z233_l19)) (H307_E_b5 : Exa Z h_307 b5 "com/example/framewire/framewire/bench/Tally") (H307_F_b5_frames : Fld Z h_307 b5 "com/example/framewire/framewire/bench/Tally" "frames" "J" (.long (own_n2 (g0_16 p5)))) (H307_F_b5_checksum : Fld Z h_307 b5 "com/example/framewire/framewire/bench/Tally" "checksum" "J" (.long z307_l21)) (ne307_b2_b5 : b2 ≠ b5) (ge307_b2 : n0 ≤ b2) (ge307_b5 : n0 ≤ b5), Fini p e below s (fun v h' L => v = some (.int 1) ∧ Fr n0 L) (Room.cells room_1) (Room.slots room_1) T_307 (mkF m 307 #[.val (.int p0), .val (.int p1), .val (.int (own_s p5 p2 p0)), .val (.int (own_s p5 p3 p1)), .val (.int p4), .val (.int p5), .val (.int (g0_6 p5)), .val (.int (g0_16 p5)), .val (.int z135_l8), .val (.int (g0_39 p4)), .val (.int (g0_48 p4)), .val (.int (g0_58 p4)), .val (.int (g0_68 p4)), .val (.int (own_s p5 (g0_78 p4) (g0_39 p4))), .val (.int (own_s p5 (g0_88 p4) (g0_48 p4))), .val (.int (own_s p5 (g0_98 p4) (g0_58 p4))), .val (.int (own_s p5 (g0_108 p4) (g0_68 p4))), .val (.ref b2), .val (.ref b5), .val (.long z233_l19), .second, .val (.long z307_l21), .second, .unset] []) := by
    intro T_307 h_307 locs  X_307 e_307  b2 b5 z307_l21 z135_l8 z233_l19 N_307 H307_D H307_S_java_lang_String_COMPACT_STRINGS H307_S_java_lang_Integer_IntegerCache_high H307_S_java_lang_Integer_IntegerCache_cache H307_Z H307_E_b2 H307_F_b2_frames H307_F_b2_checksum H307_E_b5 H307_F_b5_frames H307_F_b5_checksum ne307_b2_b5 ge307_b2 ge307_b5
    refine Fini.st (fun _ k => XS.iload X_307.here hx rfl (hb hby at_307) rfl k) ?_
    show Fini p e below s _ _ _ T_307 (mkF m 309 #[.val (.int p0), .val (.int p1), .val (.int (own_s p5 p2 p0)), .val (.int (own_s p5 p3 p1)), .val (.int p4), .val (.int p5), .val (.int (g0_6 p5)), .val (.int (g0_16 p5)), .val (.int z135_l8), .val (.int (g0_39 p4)), .val (.int (g0_48 p4)), .val (.int (g0_58 p4)), .val (.int (g0_68 p4)), .val (.int (own_s p5 (g0_78 p4) (g0_39 p4))), .val (.int (own_s p5 (g0_88 p4) (g0_48 p4))), .val (.int (own_s p5 (g0_98 p4) (g0_58 p4))), .val (.int (own_s p5 (g0_108 p4) (g0_68 p4))), .val (.ref b2), .val (.ref b5), .val (.long z233_l19), .second, .val (.long z307_l21), .second, .unset] [(.int (g0_6 p5))])
    refine Fini.st (fun _ k => XS.iload X_307.here hx rfl (hb hby at_309) rfl k) ?_
    show Fini p e below s _ _ _ T_307 (mkF m 311 #[.val (.int p0), .val (.int p1), .val (.int (own_s p5 p2 p0)), .val (.int (own_s p5 p3 p1)), .val (.int p4), .val (.int p5), .val (.int (g0_6 p5)), .val (.int (g0_16 p5)), .val (.int z135_l8), .val (.int (g0_39 p4)), .val (.int (g0_48 p4)), .val (.int (g0_58 p4)), .val (.int (g0_68 p4)), .val (.int (own_s p5 (g0_78 p4) (g0_39 p4))), .val (.int (own_s p5 (g0_88 p4) (g0_48 p4))), .val (.int (own_s p5 (g0_98 p4) (g0_58 p4))), .val (.int (own_s p5 (g0_108 p4) (g0_68 p4))), .val (.ref b2), .val (.ref b5), .val (.long z233_l19), .second, .val (.long z307_l21), .second, .unset] [(.int (g0_16 p5)), (.int (g0_6 p5))])
    by_cases c103 : (g0_6 p5) = (g0_16 p5)
    · skip
      refine Fini.st (fun _ k => XS.icmpNo X_307.here hx rfl (hb hby at_311) rfl (XT.ii_ne_f c103) k) ?_
      show Fini p e below s _ _ _ T_307 (mkF m 314 #[.val (.int p0), .val (.int p1), .val (.int (own_s p5 p2 p0)), .val (.int (own_s p5 p3 p1)), .val (.int p4), .val (.int p5), .val (.int (g0_6 p5)), .val (.int (g0_16 p5)), .val (.int z135_l8), .val (.int (g0_39 p4)), .val (.int (g0_48 p4)), .val (.int (g0_58 p4)), .val (.int (g0_68 p4)), .val (.int (own_s p5 (g0_78 p4) (g0_39 p4))), .val (.int (own_s p5 (g0_88 p4) (g0_48 p4))), .val (.int (own_s p5 (g0_98 p4) (g0_58 p4))), .val (.int (own_s p5 (g0_108 p4) (g0_68 p4))), .val (.ref b2), .val (.ref b5), .val (.long z233_l19), .second, .val (.long z307_l21), .second, .unset] [])
      refine Fini.st (fun _ k => XS.lload X_307.here hx rfl (hb hby at_314) rfl k) ?_
      show Fini p e below s _ _ _ T_307 (mkF m 316 #[.val (.int p0), .val (.int p1), .val (.int (own_s p5 p2 p0)), .val (.int (own_s p5 p3 p1)), .val (.int p4), .val (.int p5), .val (.int (g0_6 p5)), .val (.int (g0_16 p5)), .val (.int z135_l8), .val (.int (g0_39 p4)), .val (.int (g0_48 p4)), .val (.int (g0_58 p4)), .val (.int (g0_68 p4)), .val (.int (own_s p5 (g0_78 p4) (g0_39 p4))), .val (.int (own_s p5 (g0_88 p4) (g0_48 p4))), .val (.int (own_s p5 (g0_98 p4) (g0_58 p4))), .val (.int (own_s p5 (g0_108 p4) (g0_68 p4))), .val (.ref b2), .val (.ref b5), .val (.long z233_l19), .second, .val (.long z307_l21), .second, .unset] [(.long z233_l19)])
      refine Fini.st (fun _ k => XS.lload X_307.here hx rfl (hb hby at_316) rfl k) ?_
      show Fini p e below s _ _ _ T_307 (mkF m 318 #[.val (.int p0), .val (.int p1), .val (.int (own_s p5 p2 p0)), .val (.int (own_s p5 p3 p1)), .val (.int p4), .val (.int p5), .val (.int (g0_6 p5)), .val (.int (g0_16 p5)), .val (.int z135_l8), .val (.int (g0_39 p4)), .val (.int (g0_48 p4)), .val (.int (g0_58 p4)), .val (.int (g0_68 p4)), .val (.int (own_s p5 (g0_78 p4) (g0_39 p4))), .val (.int (own_s p5 (g0_88 p4) (g0_48 p4))), .val (.int (own_s p5 (g0_98 p4) (g0_58 p4))), .val (.int (own_s p5 (g0_108 p4) (g0_68 p4))), .val (.ref b2), .val (.ref b5), .val (.long z233_l19), .second, .val (.long z307_l21), .second, .unset] [(.long z307_l21), (.long z233_l19)])
      refine Fini.st (fun _ k => XT.lcmp X_307.here hx rfl (hb hby at_318) rfl k) ?_
      show Fini p e below s _ _ _ T_307 (mkF m 319 #[.val (.int p0), .val (.int p1), .val (.int (own_s p5 p2 p0)), .val (.int (own_s p5 p3 p1)), .val (.int p4), .val (.int p5), .val (.int (g0_6 p5)), .val (.int (g0_16 p5)), .val (.int z135_l8), .val (.int (g0_39 p4)), .val (.int (g0_48 p4)), .val (.int (g0_58 p4)), .val (.int (g0_68 p4)), .val (.int (own_s p5 (g0_78 p4) (g0_39 p4))), .val (.int (own_s p5 (g0_88 p4) (g0_48 p4))), .val (.int (own_s p5 (g0_98 p4) (g0_58 p4))), .val (.int (own_s p5 (g0_108 p4) (g0_68 p4))), .val (.ref b2), .val (.ref b5), .val (.long z233_l19), .second, .val (.long z307_l21), .second, .unset] [(.int (XT.cmpL z233_l19 z307_l21))])
      by_cases c104 : z233_l19 = z307_l21
      · skip
        refine Fini.st (fun _ k => XS.ifNo X_307.here hx rfl (hb hby at_319) rfl (XT.ll_ne_f c104) k) ?_
        show Fini p e below s _ _ _ T_307 (mkF m 322 #[.val (.int p0), .val (.int p1), .val (.int (own_s p5 p2 p0)), .val (.int (own_s p5 p3 p1)), .val (.int p4), .val (.int p5), .val (.int (g0_6 p5)), .val (.int (g0_16 p5)), .val (.int z135_l8), .val (.int (g0_39 p4)), .val (.int (g0_48 p4)), .val (.int (g0_58 p4)), .val (.int (g0_68 p4)), .val (.int (own_s p5 (g0_78 p4) (g0_39 p4))), .val (.int (own_s p5 (g0_88 p4) (g0_48 p4))), .val (.int (own_s p5 (g0_98 p4) (g0_58 p4))), .val (.int (own_s p5 (g0_108 p4) (g0_68 p4))), .val (.ref b2), .val (.ref b5), .val (.long z233_l19), .second, .val (.long z307_l21), .second, .unset] [])
        refine Fini.st (fun _ k => XS.iconst X_307.here hx rfl (hb hby at_322) k) ?_
        show Fini p e below s _ _ _ T_307 (mkF m 323 #[.val (.int p0), .val (.int p1), .val (.int (own_s p5 p2 p0)), .val (.int (own_s p5 p3 p1)), .val (.int p4), .val (.int p5), .val (.int (g0_6 p5)), .val (.int (g0_16 p5)), .val (.int z135_l8), .val (.int (g0_39 p4)), .val (.int (g0_48 p4)), .val (.int (g0_58 p4)), .val (.int (g0_68 p4)), .val (.int (own_s p5 (g0_78 p4) (g0_39 p4))), .val (.int (own_s p5 (g0_88 p4) (g0_48 p4))), .val (.int (own_s p5 (g0_98 p4) (g0_58 p4))), .val (.int (own_s p5 (g0_108 p4) (g0_68 p4))), .val (.ref b2), .val (.ref b5), .val (.long z233_l19), .second, .val (.long z307_l21), .second, .unset] [(.int (1 : Int32))])
        refine Fini.st (fun _ k => XS.goto X_307.here hx rfl (pc0 := 323) (pc' := 327) rfl (hb hby at_323) (by decide) (by decide) k) ?_
        show Fini p e below s _ _ _ T_307 (mkF m 327 #[.val (.int p0), .val (.int p1), .val (.int (own_s p5 p2 p0)), .val (.int (own_s p5 p3 p1)), .val (.int p4), .val (.int p5), .val (.int (g0_6 p5)), .val (.int (g0_16 p5)), .val (.int z135_l8), .val (.int (g0_39 p4)), .val (.int (g0_48 p4)), .val (.int (g0_58 p4)), .val (.int (g0_68 p4)), .val (.int (own_s p5 (g0_78 p4) (g0_39 p4))), .val (.int (own_s p5 (g0_88 p4) (g0_48 p4))), .val (.int (own_s p5 (g0_98 p4) (g0_58 p4))), .val (.int (own_s p5 (g0_108 p4) (g0_68 p4))), .val (.ref b2), .val (.ref b5), .val (.long z233_l19), .second, .val (.long z307_l21), .second, .unset] [(.int (1 : Int32))])
        refine Fini.cast (g' := (mkF m 327 #[.val (.int p0), .val (.int p1), .val (.int (own_s p5 p2 p0)), .val (.int (own_s p5 p3 p1)), .val (.int p4), .val (.int p5), .val (.int (g0_6 p5)), .val (.int (g0_16 p5)), .val (.int z135_l8), .val (.int (g0_39 p4)), .val (.int (g0_48 p4)), .val (.int (g0_58 p4)), .val (.int (g0_68 p4)), .val (.int (own_s p5 (g0_78 p4) (g0_39 p4))), .val (.int (own_s p5 (g0_88 p4) (g0_48 p4))), .val (.int (own_s p5 (g0_98 p4) (g0_58 p4))), .val (.int (own_s p5 (g0_108 p4) (g0_68 p4))), .val (.ref b2), .val (.ref b5), .val (.long z233_l19), .second, .val (.long z307_l21), .second, .unset] [(.int (own_e (g0_6 p5) (g0_16 p5) z233_l19 z307_l21))])) (by rw [(show (own_e (g0_6 p5) (g0_16 p5) z233_l19 z307_l21) = (1 : Int32) from (if_pos c103).trans (if_pos c104))]) ?_
        show Fini p e below s _ _ _ T_307 (mkF m 327 #[.val (.int p0), .val (.int p1), .val (.int (own_s p5 p2 p0)), .val (.int (own_s p5 p3 p1)), .val (.int p4), .val (.int p5), .val (.int (g0_6 p5)), .val (.int (g0_16 p5)), .val (.int z135_l8), .val (.int (g0_39 p4)), .val (.int (g0_48 p4)), .val (.int (g0_58 p4)), .val (.int (g0_68 p4)), .val (.int (own_s p5 (g0_78 p4) (g0_39 p4))), .val (.int (own_s p5 (g0_88 p4) (g0_48 p4))), .val (.int (own_s p5 (g0_98 p4) (g0_58 p4))), .val (.int (own_s p5 (g0_108 p4) (g0_68 p4))), .val (.ref b2), .val (.ref b5), .val (.long z233_l19), .second, .val (.long z307_l21), .second, .unset] [(.int (own_e (g0_6 p5) (g0_16 p5) z233_l19 z307_l21))])
        exact B327 T_307 _ _ (X_307.more (cells' := 18) (slots' := 44) (by decide) (by decide)) e_307 b2 b5 z135_l8 z233_l19 z307_l21 N_307 H307_D H307_S_java_lang_String_COMPACT_STRINGS H307_S_java_lang_Integer_IntegerCache_high H307_S_java_lang_Integer_IntegerCache_cache H307_Z H307_E_b2 H307_F_b2_frames H307_F_b2_checksum H307_E_b5 H307_F_b5_frames H307_F_b5_checksum ne307_b2_b5 ge307_b2 ge307_b5
      · skip
        refine Fini.st (fun _ k => XS.ifYes X_307.here hx rfl (pc0 := 319) (pc' := 326) rfl (hb hby at_319) rfl (XT.ll_ne_t c104) (by decide) (by decide) k) ?_
        show Fini p e below s _ _ _ T_307 (mkF m 326 #[.val (.int p0), .val (.int p1), .val (.int (own_s p5 p2 p0)), .val (.int (own_s p5 p3 p1)), .val (.int p4), .val (.int p5), .val (.int (g0_6 p5)), .val (.int (g0_16 p5)), .val (.int z135_l8), .val (.int (g0_39 p4)), .val (.int (g0_48 p4)), .val (.int (g0_58 p4)), .val (.int (g0_68 p4)), .val (.int (own_s p5 (g0_78 p4) (g0_39 p4))), .val (.int (own_s p5 (g0_88 p4) (g0_48 p4))), .val (.int (own_s p5 (g0_98 p4) (g0_58 p4))), .val (.int (own_s p5 (g0_108 p4) (g0_68 p4))), .val (.ref b2), .val (.ref b5), .val (.long z233_l19), .second, .val (.long z307_l21), .second, .unset] [])
        refine Fini.st (fun _ k => XS.iconst X_307.here hx rfl (hb hby at_326) k) ?_
        show Fini p e below s _ _ _ T_307 (mkF m 327 #[.val (.int p0), .val (.int p1), .val (.int (own_s p5 p2 p0)), .val (.int (own_s p5 p3 p1)), .val (.int p4), .val (.int p5), .val (.int (g0_6 p5)), .val (.int (g0_16 p5)), .val (.int z135_l8), .val (.int (g0_39 p4)), .val (.int (g0_48 p4)), .val (.int (g0_58 p4)), .val (.int (g0_68 p4)), .val (.int (own_s p5 (g0_78 p4) (g0_39 p4))), .val (.int (own_s p5 (g0_88 p4) (g0_48 p4))), .val (.int (own_s p5 (g0_98 p4) (g0_58 p4))), .val (.int (own_s p5 (g0_108 p4) (g0_68 p4))), .val (.ref b2), .val (.ref b5), .val (.long z233_l19), .second, .val (.long z307_l21), .second, .unset] [(.int (0 : Int32))])
        refine Fini.cast (g' := (mkF m 327 #[.val (.int p0), .val (.int p1), .val (.int (own_s p5 p2 p0)), .val (.int (own_s p5 p3 p1)), .val (.int p4), .val (.int p5), .val (.int (g0_6 p5)), .val (.int (g0_16 p5)), .val (.int z135_l8), .val (.int (g0_39 p4)), .val (.int (g0_48 p4)), .val (.int (g0_58 p4)), .val (.int (g0_68 p4)), .val (.int (own_s p5 (g0_78 p4) (g0_39 p4))), .val (.int (own_s p5 (g0_88 p4) (g0_48 p4))), .val (.int (own_s p5 (g0_98 p4) (g0_58 p4))), .val (.int (own_s p5 (g0_108 p4) (g0_68 p4))), .val (.ref b2), .val (.ref b5), .val (.long z233_l19), .second, .val (.long z307_l21), .second, .unset] [(.int (own_e (g0_6 p5) (g0_16 p5) z233_l19 z307_l21))])) (by rw [(show (own_e (g0_6 p5) (g0_16 p5) z233_l19 z307_l21) = (0 : Int32) from (if_pos c103).trans (if_neg c104))]) ?_
        show Fini p e below s _ _ _ T_307 (mkF m 327 #[.val (.int p0), .val (.int p1), .val (.int (own_s p5 p2 p0)), .val (.int (own_s p5 p3 p1)), .val (.int p4), .val (.int p5), .val (.int (g0_6 p5)), .val (.int (g0_16 p5)), .val (.int z135_l8), .val (.int (g0_39 p4)), .val (.int (g0_48 p4)), .val (.int (g0_58 p4)), .val (.int (g0_68 p4)), .val (.int (own_s p5 (g0_78 p4) (g0_39 p4))), .val (.int (own_s p5 (g0_88 p4) (g0_48 p4))), .val (.int (own_s p5 (g0_98 p4) (g0_58 p4))), .val (.int (own_s p5 (g0_108 p4) (g0_68 p4))), .val (.ref b2), .val (.ref b5), .val (.long z233_l19), .second, .val (.long z307_l21), .second, .unset] [(.int (own_e (g0_6 p5) (g0_16 p5) z233_l19 z307_l21))])
        exact B327 T_307 _ _ (X_307.more (cells' := 18) (slots' := 44) (by decide) (by decide)) e_307 b2 b5 z135_l8 z233_l19 z307_l21 N_307 H307_D H307_S_java_lang_String_COMPACT_STRINGS H307_S_java_lang_Integer_IntegerCache_high H307_S_java_lang_Integer_IntegerCache_cache H307_Z H307_E_b2 H307_F_b2_frames H307_F_b2_checksum H307_E_b5 H307_F_b5_frames H307_F_b5_checksum ne307_b2_b5 ge307_b2 ge307_b5
    · skip
      refine Fini.st (fun _ k => XS.icmpYes X_307.here hx rfl (pc0 := 311) (pc' := 326) rfl (hb hby at_311) rfl (XT.ii_ne_t c103) (by decide) (by decide) k) ?_
      show Fini p e below s _ _ _ T_307 (mkF m 326 #[.val (.int p0), .val (.int p1), .val (.int (own_s p5 p2 p0)), .val (.int (own_s p5 p3 p1)), .val (.int p4), .val (.int p5), .val (.int (g0_6 p5)), .val (.int (g0_16 p5)), .val (.int z135_l8), .val (.int (g0_39 p4)), .val (.int (g0_48 p4)), .val (.int (g0_58 p4)), .val (.int (g0_68 p4)), .val (.int (own_s p5 (g0_78 p4) (g0_39 p4))), .val (.int (own_s p5 (g0_88 p4) (g0_48 p4))), .val (.int (own_s p5 (g0_98 p4) (g0_58 p4))), .val (.int (own_s p5 (g0_108 p4) (g0_68 p4))), .val (.ref b2), .val (.ref b5), .val (.long z233_l19), .second, .val (.long z307_l21), .second, .unset] [])
      refine Fini.st (fun _ k => XS.iconst X_307.here hx rfl (hb hby at_326) k) ?_
      show Fini p e below s _ _ _ T_307 (mkF m 327 #[.val (.int p0), .val (.int p1), .val (.int (own_s p5 p2 p0)), .val (.int (own_s p5 p3 p1)), .val (.int p4), .val (.int p5), .val (.int (g0_6 p5)), .val (.int (g0_16 p5)), .val (.int z135_l8), .val (.int (g0_39 p4)), .val (.int (g0_48 p4)), .val (.int (g0_58 p4)), .val (.int (g0_68 p4)), .val (.int (own_s p5 (g0_78 p4) (g0_39 p4))), .val (.int (own_s p5 (g0_88 p4) (g0_48 p4))), .val (.int (own_s p5 (g0_98 p4) (g0_58 p4))), .val (.int (own_s p5 (g0_108 p4) (g0_68 p4))), .val (.ref b2), .val (.ref b5), .val (.long z233_l19), .second, .val (.long z307_l21), .second, .unset] [(.int (0 : Int32))])
      refine Fini.cast (g' := (mkF m 327 #[.val (.int p0), .val (.int p1), .val (.int (own_s p5 p2 p0)), .val (.int (own_s p5 p3 p1)), .val (.int p4), .val (.int p5), .val (.int (g0_6 p5)), .val (.int (g0_16 p5)), .val (.int z135_l8), .val (.int (g0_39 p4)), .val (.int (g0_48 p4)), .val (.int (g0_58 p4)), .val (.int (g0_68 p4)), .val (.int (own_s p5 (g0_78 p4) (g0_39 p4))), .val (.int (own_s p5 (g0_88 p4) (g0_48 p4))), .val (.int (own_s p5 (g0_98 p4) (g0_58 p4))), .val (.int (own_s p5 (g0_108 p4) (g0_68 p4))), .val (.ref b2), .val (.ref b5), .val (.long z233_l19), .second, .val (.long z307_l21), .second, .unset] [(.int (own_e (g0_6 p5) (g0_16 p5) z233_l19 z307_l21))])) (by rw [(show (own_e (g0_6 p5) (g0_16 p5) z233_l19 z307_l21) = (0 : Int32) from if_neg c103)]) ?_
      show Fini p e below s _ _ _ T_307 (mkF m 327 #[.val (.int p0), .val (.int p1), .val (.int (own_s p5 p2 p0)), .val (.int (own_s p5 p3 p1)), .val (.int p4), .val (.int p5), .val (.int (g0_6 p5)), .val (.int (g0_16 p5)), .val (.int z135_l8), .val (.int (g0_39 p4)), .val (.int (g0_48 p4)), .val (.int (g0_58 p4)), .val (.int (g0_68 p4)), .val (.int (own_s p5 (g0_78 p4) (g0_39 p4))), .val (.int (own_s p5 (g0_88 p4) (g0_48 p4))), .val (.int (own_s p5 (g0_98 p4) (g0_58 p4))), .val (.int (own_s p5 (g0_108 p4) (g0_68 p4))), .val (.ref b2), .val (.ref b5), .val (.long z233_l19), .second, .val (.long z307_l21), .second, .unset] [(.int (own_e (g0_6 p5) (g0_16 p5) z233_l19 z307_l21))])
      exact B327 T_307 _ _ (X_307.more (cells' := 18) (slots' := 44) (by decide) (by decide)) e_307 b2 b5 z135_l8 z233_l19 z307_l21 N_307 H307_D H307_S_java_lang_String_COMPACT_STRINGS H307_S_java_lang_Integer_IntegerCache_high H307_S_java_lang_Integer_IntegerCache_cache H307_Z H307_E_b2 H307_F_b2_frames H307_F_b2_checksum H307_E_b5 H307_F_b5_frames H307_F_b5_checksum ne307_b2_b5 ge307_b2 ge307_b5
  have B270 : ∀ (T_270 : State) (h_270 : Heap) (locs : List Loc) (X_270 : Stand p l e room_1 s m #[(.int p0), (.int p1), (.int p2), (.int p3), (.int p4), (.int p5)] below meth c T_270 locs 14 34) (e_270 : T_270.heap = h_270) (b2 : Addr) (b5 : Addr) (z270_l21 : Int64) (z135_l8 : Int32) (z233_l19 : Int64) (N_270 : Fr n0 locs) (H270_D : Old Z n0 h_270) (H270_S_java_lang_String_COMPACT_STRINGS : Sta Z Z.heap "java/lang/String" "COMPACT_STRINGS" "Z" (.int cs)) (H270_S_java_lang_Integer_IntegerCache_high : Sta Z Z.heap "java/lang/Integer$IntegerCache" "high" "I" (.int (127 : Int32))) (H270_S_java_lang_Integer_IntegerCache_cache : Sta Z Z.heap "java/lang/Integer$IntegerCache" "cache" "[Ljava/lang/Integer;" (.ref ca)) (H270_Z : n0 ≤ h_270.size) (H270_E_b2 : Exa Z h_270 b2 "com/example/framewire/framewire/bench/Tally") (H270_F_b2_frames : Fld Z h_270 b2 "com/example/framewire/framewire/bench/Tally" "frames" "J" (.long (own_n2 (g0_6 p5)))) (H270_F_b2_checksum : Fld Z h_270 b2 "com/example/framewire/framewire/bench/Tally" "checksum" "J" (.long z233_l19)) (H270_E_b5 : Exa Z h_270 b5 "com/example/framewire/framewire/bench/Tally") (H270_F_b5_frames : Fld Z h_270 b5 "com/example/framewire/framewire/bench/Tally" "frames" "J" (.long (own_n1 (g0_16 p5)))) (H270_F_b5_checksum : Fld Z h_270 b5 "com/example/framewire/framewire/bench/Tally" "checksum" "J" (.long z270_l21)) (ne270_b2_b5 : b2 ≠ b5) (ge270_b2 : n0 ≤ b2) (ge270_b5 : n0 ≤ b5), Fini p e below s (fun v h' L => v = some (.int 1) ∧ Fr n0 L) (Room.cells room_1) (Room.slots room_1) T_270 (mkF m 270 #[.val (.int p0), .val (.int p1), .val (.int (own_s p5 p2 p0)), .val (.int (own_s p5 p3 p1)), .val (.int p4), .val (.int p5), .val (.int (g0_6 p5)), .val (.int (g0_16 p5)), .val (.int z135_l8), .val (.int (g0_39 p4)), .val (.int (g0_48 p4)), .val (.int (g0_58 p4)), .val (.int (g0_68 p4)), .val (.int (own_s p5 (g0_78 p4) (g0_39 p4))), .val (.int (own_s p5 (g0_88 p4) (g0_48 p4))), .val (.int (own_s p5 (g0_98 p4) (g0_58 p4))), .val (.int (own_s p5 (g0_108 p4) (g0_68 p4))), .val (.ref b2), .val (.ref b5), .val (.long z233_l19), .second, .val (.long z270_l21), .second, .unset] []) := by
    intro T_270 h_270 locs  X_270 e_270  b2 b5 z270_l21 z135_l8 z233_l19 N_270 H270_D H270_S_java_lang_String_COMPACT_STRINGS H270_S_java_lang_Integer_IntegerCache_high H270_S_java_lang_Integer_IntegerCache_cache H270_Z H270_E_b2 H270_F_b2_frames H270_F_b2_checksum H270_E_b5 H270_F_b5_frames H270_F_b5_checksum ne270_b2_b5 ge270_b2 ge270_b5
    refine Fini.st (fun _ k => XS.iload X_270.here hx rfl (hb hby at_270) rfl k) ?_
    show Fini p e below s _ _ _ T_270 (mkF m 272 #[.val (.int p0), .val (.int p1), .val (.int (own_s p5 p2 p0)), .val (.int (own_s p5 p3 p1)), .val (.int p4), .val (.int p5), .val (.int (g0_6 p5)), .val (.int (g0_16 p5)), .val (.int z135_l8), .val (.int (g0_39 p4)), .val (.int (g0_48 p4)), .val (.int (g0_58 p4)), .val (.int (g0_68 p4)), .val (.int (own_s p5 (g0_78 p4) (g0_39 p4))), .val (.int (own_s p5 (g0_88 p4) (g0_48 p4))), .val (.int (own_s p5 (g0_98 p4) (g0_58 p4))), .val (.int (own_s p5 (g0_108 p4) (g0_68 p4))), .val (.ref b2), .val (.ref b5), .val (.long z233_l19), .second, .val (.long z270_l21), .second, .unset] [(.int (g0_16 p5))])
    refine Fini.st (fun _ k => XS.iconst X_270.here hx rfl (hb hby at_272) k) ?_
    show Fini p e below s _ _ _ T_270 (mkF m 273 #[.val (.int p0), .val (.int p1), .val (.int (own_s p5 p2 p0)), .val (.int (own_s p5 p3 p1)), .val (.int p4), .val (.int p5), .val (.int (g0_6 p5)), .val (.int (g0_16 p5)), .val (.int z135_l8), .val (.int (g0_39 p4)), .val (.int (g0_48 p4)), .val (.int (g0_58 p4)), .val (.int (g0_68 p4)), .val (.int (own_s p5 (g0_78 p4) (g0_39 p4))), .val (.int (own_s p5 (g0_88 p4) (g0_48 p4))), .val (.int (own_s p5 (g0_98 p4) (g0_58 p4))), .val (.int (own_s p5 (g0_108 p4) (g0_68 p4))), .val (.ref b2), .val (.ref b5), .val (.long z233_l19), .second, .val (.long z270_l21), .second, .unset] [(.int (2 : Int32)), (.int (g0_16 p5))])
    by_cases c81 : (g0_16 p5) < (2 : Int32)
    · skip
      refine Fini.st (fun _ k => XS.icmpYes X_270.here hx rfl (pc0 := 273) (pc' := 307) rfl (hb hby at_273) rfl (XT.ii_lt_t c81) (by decide) (by decide) k) ?_
      show Fini p e below s _ _ _ T_270 (mkF m 307 #[.val (.int p0), .val (.int p1), .val (.int (own_s p5 p2 p0)), .val (.int (own_s p5 p3 p1)), .val (.int p4), .val (.int p5), .val (.int (g0_6 p5)), .val (.int (g0_16 p5)), .val (.int z135_l8), .val (.int (g0_39 p4)), .val (.int (g0_48 p4)), .val (.int (g0_58 p4)), .val (.int (g0_68 p4)), .val (.int (own_s p5 (g0_78 p4) (g0_39 p4))), .val (.int (own_s p5 (g0_88 p4) (g0_48 p4))), .val (.int (own_s p5 (g0_98 p4) (g0_58 p4))), .val (.int (own_s p5 (g0_108 p4) (g0_68 p4))), .val (.ref b2), .val (.ref b5), .val (.long z233_l19), .second, .val (.long z270_l21), .second, .unset] [])
      have Fn82 : Fld Z h_270 b5 "com/example/framewire/framewire/bench/Tally" "frames" "J" (.long (own_n2 (g0_16 p5))) := by rw [show own_n2 (g0_16 p5) = (own_n1 (g0_16 p5)) from if_pos c81]; exact H270_F_b5_frames
      exact B307 T_270 _ _ (X_270.more (cells' := 18) (slots' := 44) (by decide) (by decide)) e_270 b2 b5 z270_l21 z135_l8 z233_l19 N_270 H270_D H270_S_java_lang_String_COMPACT_STRINGS H270_S_java_lang_Integer_IntegerCache_high H270_S_java_lang_Integer_IntegerCache_cache H270_Z H270_E_b2 H270_F_b2_frames H270_F_b2_checksum H270_E_b5 Fn82 H270_F_b5_checksum ne270_b2_b5 ge270_b2 ge270_b5
    · skip
      refine Fini.st (fun _ k => XS.icmpNo X_270.here hx rfl (hb hby at_273) rfl (XT.ii_lt_f c81) k) ?_
      show Fini p e below s _ _ _ T_270 (mkF m 276 #[.val (.int p0), .val (.int p1), .val (.int (own_s p5 p2 p0)), .val (.int (own_s p5 p3 p1)), .val (.int p4), .val (.int p5), .val (.int (g0_6 p5)), .val (.int (g0_16 p5)), .val (.int z135_l8), .val (.int (g0_39 p4)), .val (.int (g0_48 p4)), .val (.int (g0_58 p4)), .val (.int (g0_68 p4)), .val (.int (own_s p5 (g0_78 p4) (g0_39 p4))), .val (.int (own_s p5 (g0_88 p4) (g0_48 p4))), .val (.int (own_s p5 (g0_98 p4) (g0_58 p4))), .val (.int (own_s p5 (g0_108 p4) (g0_68 p4))), .val (.ref b2), .val (.ref b5), .val (.long z233_l19), .second, .val (.long z270_l21), .second, .unset] [])
      refine Fini.st (fun _ k => XS.aload X_270.here hx rfl (hb hby at_276) rfl rfl k) ?_
      show Fini p e below s _ _ _ T_270 (mkF m 278 #[.val (.int p0), .val (.int p1), .val (.int (own_s p5 p2 p0)), .val (.int (own_s p5 p3 p1)), .val (.int p4), .val (.int p5), .val (.int (g0_6 p5)), .val (.int (g0_16 p5)), .val (.int z135_l8), .val (.int (g0_39 p4)), .val (.int (g0_48 p4)), .val (.int (g0_58 p4)), .val (.int (g0_68 p4)), .val (.int (own_s p5 (g0_78 p4) (g0_39 p4))), .val (.int (own_s p5 (g0_88 p4) (g0_48 p4))), .val (.int (own_s p5 (g0_98 p4) (g0_58 p4))), .val (.int (own_s p5 (g0_108 p4) (g0_68 p4))), .val (.ref b2), .val (.ref b5), .val (.long z233_l19), .second, .val (.long z270_l21), .second, .unset] [(.ref b5)])
      refine Fini.st (fun _ k => XS.iloadN X_270.here hx rfl (hb hby at_278) rfl k) ?_
      show Fini p e below s _ _ _ T_270 (mkF m 279 #[.val (.int p0), .val (.int p1), .val (.int (own_s p5 p2 p0)), .val (.int (own_s p5 p3 p1)), .val (.int p4), .val (.int p5), .val (.int (g0_6 p5)), .val (.int (g0_16 p5)), .val (.int z135_l8), .val (.int (g0_39 p4)), .val (.int (g0_48 p4)), .val (.int (g0_58 p4)), .val (.int (g0_68 p4)), .val (.int (own_s p5 (g0_78 p4) (g0_39 p4))), .val (.int (own_s p5 (g0_88 p4) (g0_48 p4))), .val (.int (own_s p5 (g0_98 p4) (g0_58 p4))), .val (.int (own_s p5 (g0_108 p4) (g0_68 p4))), .val (.ref b2), .val (.ref b5), .val (.long z233_l19), .second, .val (.long z270_l21), .second, .unset] [(.int (own_s p5 p3 p1)), (.ref b5)])
      refine Fini.st (fun _ k => XS.aconstNull X_270.here hx rfl (hb hby at_279) k) ?_
      show Fini p e below s _ _ _ T_270 (mkF m 280 #[.val (.int p0), .val (.int p1), .val (.int (own_s p5 p2 p0)), .val (.int (own_s p5 p3 p1)), .val (.int p4), .val (.int p5), .val (.int (g0_6 p5)), .val (.int (g0_16 p5)), .val (.int z135_l8), .val (.int (g0_39 p4)), .val (.int (g0_48 p4)), .val (.int (g0_58 p4)), .val (.int (g0_68 p4)), .val (.int (own_s p5 (g0_78 p4) (g0_39 p4))), .val (.int (own_s p5 (g0_88 p4) (g0_48 p4))), .val (.int (own_s p5 (g0_98 p4) (g0_58 p4))), .val (.int (own_s p5 (g0_108 p4) (g0_68 p4))), .val (.ref b2), .val (.ref b5), .val (.long z233_l19), .second, .val (.long z270_l21), .second, .unset] [.null, (.int (own_s p5 p3 p1)), (.ref b5)])
      refine Fini.st (fun _ k => XS.iload X_270.here hx rfl (hb hby at_280) rfl k) ?_
      show Fini p e below s _ _ _ T_270 (mkF m 282 #[.val (.int p0), .val (.int p1), .val (.int (own_s p5 p2 p0)), .val (.int (own_s p5 p3 p1)), .val (.int p4), .val (.int p5), .val (.int (g0_6 p5)), .val (.int (g0_16 p5)), .val (.int z135_l8), .val (.int (g0_39 p4)), .val (.int (g0_48 p4)), .val (.int (g0_58 p4)), .val (.int (g0_68 p4)), .val (.int (own_s p5 (g0_78 p4) (g0_39 p4))), .val (.int (own_s p5 (g0_88 p4) (g0_48 p4))), .val (.int (own_s p5 (g0_98 p4) (g0_58 p4))), .val (.int (own_s p5 (g0_108 p4) (g0_68 p4))), .val (.ref b2), .val (.ref b5), .val (.long z233_l19), .second, .val (.long z270_l21), .second, .unset] [(.int (own_s p5 (g0_98 p4) (g0_58 p4))), .null, (.int (own_s p5 p3 p1)), (.ref b5)])
      refine Fini.st (fun _ k => XS.i2c X_270.here hx rfl (hb hby at_282) rfl k) ?_
      show Fini p e below s _ _ _ T_270 (mkF m 283 #[.val (.int p0), .val (.int p1), .val (.int (own_s p5 p2 p0)), .val (.int (own_s p5 p3 p1)), .val (.int p4), .val (.int p5), .val (.int (g0_6 p5)), .val (.int (g0_16 p5)), .val (.int z135_l8), .val (.int (g0_39 p4)), .val (.int (g0_48 p4)), .val (.int (g0_58 p4)), .val (.int (g0_68 p4)), .val (.int (own_s p5 (g0_78 p4) (g0_39 p4))), .val (.int (own_s p5 (g0_88 p4) (g0_48 p4))), .val (.int (own_s p5 (g0_98 p4) (g0_58 p4))), .val (.int (own_s p5 (g0_108 p4) (g0_68 p4))), .val (.ref b2), .val (.ref b5), .val (.long z233_l19), .second, .val (.long z270_l21), .second, .unset] [(.int (own_s p5 (g0_98 p4) (g0_58 p4)).toUInt32.toUInt16.toUInt32.toInt32), .null, (.int (own_s p5 p3 p1)), (.ref b5)])
      obtain ⟨v83, T83, L83, X83, hQ83, st83⟩ := callQ X_270 hx hZ hown (hw _ (List.mem_of_getElem? (i := 30) rfl)) (hw _ (List.mem_of_getElem? (i := 31) rfl)) (hw _ (List.mem_of_getElem? (i := 32) rfl)) (hw _ (List.mem_of_getElem? (i := 33) rfl)) (by decide) (rm5 l Z a0 hw [] ((own_s p5 (g0_98 p4) (g0_58 p4)).toUInt32.toUInt16.toUInt32.toInt32) cs h_270 n0 H270_Z H270_D S_cs hcs (own_c (own_ss (p5 := p5) (show small (g0_98 p4) from own_sm _) (show small (g0_58 p4) from own_sm _)))) e_270 (W := 3) (by decide) (by decide) (by decide) (by decide) (g := (mkF m 283 #[.val (.int p0), .val (.int p1), .val (.int (own_s p5 p2 p0)), .val (.int (own_s p5 p3 p1)), .val (.int p4), .val (.int p5), .val (.int (g0_6 p5)), .val (.int (g0_16 p5)), .val (.int z135_l8), .val (.int (g0_39 p4)), .val (.int (g0_48 p4)), .val (.int (g0_58 p4)), .val (.int (g0_68 p4)), .val (.int (own_s p5 (g0_78 p4) (g0_39 p4))), .val (.int (own_s p5 (g0_88 p4) (g0_48 p4))), .val (.int (own_s p5 (g0_98 p4) (g0_58 p4))), .val (.int (own_s p5 (g0_108 p4) (g0_68 p4))), .val (.ref b2), .val (.ref b5), .val (.long z233_l19), .second, .val (.long z270_l21), .second, .unset] [(.int (own_s p5 (g0_98 p4) (g0_58 p4)).toUInt32.toUInt16.toUInt32.toInt32), .null, (.int (own_s p5 p3 p1)), (.ref b5)])) rfl (by rw [hml]; rfl) (argsL := [(.int (own_s p5 (g0_98 p4) (g0_58 p4)).toUInt32.toUInt16.toUInt32.toInt32)]) (rest := [.null, (.int (own_s p5 p3 p1)), (.ref b5)]) rfl (lenOf pd_8 rfl) rfl (by show 2 * 0 + _ ≤ _; exact Nat.le_of_eq rfl) (hb hby at_283)
      obtain ⟨b83, a83, rfl, Nq83, K83, sb83, sa83, gb83, ga83, nb83, Es83, Fv83, Fc83, Fh83, Fz83, Ar83⟩ := hQ83
      have ne_b2_b83 : b2 ≠ b83 := Nat.ne_of_lt (Nat.lt_of_lt_of_le H270_E_b2.lt sb83)
      have ne_b5_b83 : b5 ≠ b83 := Nat.ne_of_lt (Nat.lt_of_lt_of_le H270_E_b5.lt sb83)
      have ne_b2_a83 : b2 ≠ a83 := Nat.ne_of_lt (Nat.lt_of_lt_of_le H270_E_b2.lt sa83)
      have ne_b5_a83 : b5 ≠ a83 := Nat.ne_of_lt (Nat.lt_of_lt_of_le H270_E_b5.lt sa83)
      have N83 := Fr.app N_270 Nq83
      refine Fini.st st83 ?_
      show Fini p e below s _ _ _ T83 (mkF m 286 #[.val (.int p0), .val (.int p1), .val (.int (own_s p5 p2 p0)), .val (.int (own_s p5 p3 p1)), .val (.int p4), .val (.int p5), .val (.int (g0_6 p5)), .val (.int (g0_16 p5)), .val (.int z135_l8), .val (.int (g0_39 p4)), .val (.int (g0_48 p4)), .val (.int (g0_58 p4)), .val (.int (g0_68 p4)), .val (.int (own_s p5 (g0_78 p4) (g0_39 p4))), .val (.int (own_s p5 (g0_88 p4) (g0_48 p4))), .val (.int (own_s p5 (g0_98 p4) (g0_58 p4))), .val (.int (own_s p5 (g0_108 p4) (g0_68 p4))), .val (.ref b2), .val (.ref b5), .val (.long z233_l19), .second, .val (.long z270_l21), .second, .unset] [(.ref b83), .null, (.int (own_s p5 p3 p1)), (.ref b5)])
      refine Fini.st (fun _ k => XS.iload X83.here hx rfl (hb hby at_286) rfl k) ?_
      show Fini p e below s _ _ _ T83 (mkF m 288 #[.val (.int p0), .val (.int p1), .val (.int (own_s p5 p2 p0)), .val (.int (own_s p5 p3 p1)), .val (.int p4), .val (.int p5), .val (.int (g0_6 p5)), .val (.int (g0_16 p5)), .val (.int z135_l8), .val (.int (g0_39 p4)), .val (.int (g0_48 p4)), .val (.int (g0_58 p4)), .val (.int (g0_68 p4)), .val (.int (own_s p5 (g0_78 p4) (g0_39 p4))), .val (.int (own_s p5 (g0_88 p4) (g0_48 p4))), .val (.int (own_s p5 (g0_98 p4) (g0_58 p4))), .val (.int (own_s p5 (g0_108 p4) (g0_68 p4))), .val (.ref b2), .val (.ref b5), .val (.long z233_l19), .second, .val (.long z270_l21), .second, .unset] [(.int (own_s p5 (g0_108 p4) (g0_68 p4))), (.ref b83), .null, (.int (own_s p5 p3 p1)), (.ref b5)])
      refine Fini.st (fun _ k => XS.i2c X83.here hx rfl (hb hby at_288) rfl k) ?_
      show Fini p e below s _ _ _ T83 (mkF m 289 #[.val (.int p0), .val (.int p1), .val (.int (own_s p5 p2 p0)), .val (.int (own_s p5 p3 p1)), .val (.int p4), .val (.int p5), .val (.int (g0_6 p5)), .val (.int (g0_16 p5)), .val (.int z135_l8), .val (.int (g0_39 p4)), .val (.int (g0_48 p4)), .val (.int (g0_58 p4)), .val (.int (g0_68 p4)), .val (.int (own_s p5 (g0_78 p4) (g0_39 p4))), .val (.int (own_s p5 (g0_88 p4) (g0_48 p4))), .val (.int (own_s p5 (g0_98 p4) (g0_58 p4))), .val (.int (own_s p5 (g0_108 p4) (g0_68 p4))), .val (.ref b2), .val (.ref b5), .val (.long z233_l19), .second, .val (.long z270_l21), .second, .unset] [(.int (own_s p5 (g0_108 p4) (g0_68 p4)).toUInt32.toUInt16.toUInt32.toInt32), (.ref b83), .null, (.int (own_s p5 p3 p1)), (.ref b5)])
      have Zs_85 : n0 ≤ T83.heap.size := (Nat.le_trans H270_Z K83.1)
      have Od_86 : Old Z n0 T83.heap := (Old.keep H270_D K83 all0)
      obtain ⟨v84, T84, L84, X84, hQ84, st84⟩ := callQ X83 hx hZ hown (hw _ (List.mem_of_getElem? (i := 30) rfl)) (hw _ (List.mem_of_getElem? (i := 31) rfl)) (hw _ (List.mem_of_getElem? (i := 32) rfl)) (hw _ (List.mem_of_getElem? (i := 33) rfl)) (by decide) (rm5 l Z a0 hw [] ((own_s p5 (g0_108 p4) (g0_68 p4)).toUInt32.toUInt16.toUInt32.toInt32) cs T83.heap n0 Zs_85 Od_86 S_cs hcs (own_c (own_ss (p5 := p5) (show small (g0_108 p4) from own_sm _) (show small (g0_68 p4) from own_sm _)))) rfl (W := 4) (by decide) (by decide) (by decide) (by decide) (g := (mkF m 289 #[.val (.int p0), .val (.int p1), .val (.int (own_s p5 p2 p0)), .val (.int (own_s p5 p3 p1)), .val (.int p4), .val (.int p5), .val (.int (g0_6 p5)), .val (.int (g0_16 p5)), .val (.int z135_l8), .val (.int (g0_39 p4)), .val (.int (g0_48 p4)), .val (.int (g0_58 p4)), .val (.int (g0_68 p4)), .val (.int (own_s p5 (g0_78 p4) (g0_39 p4))), .val (.int (own_s p5 (g0_88 p4) (g0_48 p4))), .val (.int (own_s p5 (g0_98 p4) (g0_58 p4))), .val (.int (own_s p5 (g0_108 p4) (g0_68 p4))), .val (.ref b2), .val (.ref b5), .val (.long z233_l19), .second, .val (.long z270_l21), .second, .unset] [(.int (own_s p5 (g0_108 p4) (g0_68 p4)).toUInt32.toUInt16.toUInt32.toInt32), (.ref b83), .null, (.int (own_s p5 p3 p1)), (.ref b5)])) rfl (by rw [hml]; rfl) (argsL := [(.int (own_s p5 (g0_108 p4) (g0_68 p4)).toUInt32.toUInt16.toUInt32.toInt32)]) (rest := [(.ref b83), .null, (.int (own_s p5 p3 p1)), (.ref b5)]) rfl (lenOf pd_8 rfl) rfl (by show 2 * 0 + _ ≤ _; exact Nat.le_of_eq rfl) (hb hby at_289)
      obtain ⟨b84, a84, rfl, Nq84, K84, sb84, sa84, gb84, ga84, nb84, Es84, Fv84, Fc84, Fh84, Fz84, Ar84⟩ := hQ84
      have Ex_87 : Exa Z T83.heap b2 "com/example/framewire/framewire/bench/Tally" := (H270_E_b2.keep K83)
      have ne_b2_b84 : b2 ≠ b84 := Nat.ne_of_lt (Nat.lt_of_lt_of_le Ex_87.lt sb84)
      have Ex_88 : Exa Z T83.heap b5 "com/example/framewire/framewire/bench/Tally" := (H270_E_b5.keep K83)
      have ne_b5_b84 : b5 ≠ b84 := Nat.ne_of_lt (Nat.lt_of_lt_of_le Ex_88.lt sb84)
      have ne_b83_b84 : b83 ≠ b84 := Nat.ne_of_lt (Nat.lt_of_lt_of_le Es83.lt sb84)
      have ne_a83_b84 : a83 ≠ b84 := Nat.ne_of_lt (Nat.lt_of_lt_of_le Ar83.lt sb84)
      have ne_b2_a84 : b2 ≠ a84 := Nat.ne_of_lt (Nat.lt_of_lt_of_le Ex_87.lt sa84)
      have ne_b5_a84 : b5 ≠ a84 := Nat.ne_of_lt (Nat.lt_of_lt_of_le Ex_88.lt sa84)
      have ne_b83_a84 : b83 ≠ a84 := Nat.ne_of_lt (Nat.lt_of_lt_of_le Es83.lt sa84)
      have ne_a83_a84 : a83 ≠ a84 := Nat.ne_of_lt (Nat.lt_of_lt_of_le Ar83.lt sa84)
      have N84 := Fr.app N83 Nq84
      refine Fini.st st84 ?_
      show Fini p e below s _ _ _ T84 (mkF m 292 #[.val (.int p0), .val (.int p1), .val (.int (own_s p5 p2 p0)), .val (.int (own_s p5 p3 p1)), .val (.int p4), .val (.int p5), .val (.int (g0_6 p5)), .val (.int (g0_16 p5)), .val (.int z135_l8), .val (.int (g0_39 p4)), .val (.int (g0_48 p4)), .val (.int (g0_58 p4)), .val (.int (g0_68 p4)), .val (.int (own_s p5 (g0_78 p4) (g0_39 p4))), .val (.int (own_s p5 (g0_88 p4) (g0_48 p4))), .val (.int (own_s p5 (g0_98 p4) (g0_58 p4))), .val (.int (own_s p5 (g0_108 p4) (g0_68 p4))), .val (.ref b2), .val (.ref b5), .val (.long z233_l19), .second, .val (.long z270_l21), .second, .unset] [(.ref b84), (.ref b83), .null, (.int (own_s p5 p3 p1)), (.ref b5)])
      have Zs_90 : n0 ≤ T84.heap.size := (Nat.le_trans Zs_85 K84.1)
      have Ex_91 : Exa Z T84.heap b5 "com/example/framewire/framewire/bench/Tally" := (Ex_88.keep K84)
      have F_92 : Fld Z T84.heap b5 "com/example/framewire/framewire/bench/Tally" "frames" "J" (.long (own_n1 (g0_16 p5))) := ((H270_F_b5_frames.keep K83 nin0).keep K84 nin0)
      have F_93 : Fld Z T84.heap b5 "com/example/framewire/framewire/bench/Tally" "checksum" "J" (.long z270_l21) := ((H270_F_b5_checksum.keep K83 nin0).keep K84 nin0)
      have Ex_94 : Exa Z T84.heap b83 "java/lang/String" := (Es83.keep K84)
      have F_95 : Fld Z T84.heap b83 "java/lang/String" "value" "[B" (.ref a83) := (Fv83.keep K84 nin0)
      have F_96 : Fld Z T84.heap b83 "java/lang/String" "coder" "B" (.int (0 : Int32)) := (Fc83.keep K84 nin0)
      have F_97 : Fld Z T84.heap b83 "java/lang/String" "hash" "I" (.int (0 : Int32)) := (Fh83.keep K84 nin0)
      have F_98 : Fld Z T84.heap b83 "java/lang/String" "hashIsZero" "Z" (.int (0 : Int32)) := (Fz83.keep K84 nin0)
      have Ar_99 : AryI Z T84.heap a83 .byte (1 : Int32) (own_u ((own_s p5 (g0_98 p4) (g0_58 p4)).toUInt32.toUInt16.toUInt32.toInt32)) := (Ar83.keep K84 nin0)
      have Od_100 : Old Z n0 T84.heap := (Old.keep Od_86 K84 all0)
      obtain ⟨v89, T89, L89, X89, hQ89, st89⟩ := callV X84 hx hZ hown (hw _ (List.mem_of_getElem? (i := 54) rfl)) (hw _ (List.mem_of_getElem? (i := 55) rfl)) (hw _ (List.mem_of_getElem? (i := 57) rfl)) (hw _ (List.mem_of_getElem? (i := 56) rfl)) (hw _ (List.mem_of_getElem? (i := 2) rfl)) (hw _ (List.mem_of_getElem? (i := 58) rfl)) (notFace_of_selects (args := #[]) (mvT hZ (hw _ (List.mem_of_getElem? (i := 57) rfl)))) Ex_91 (by decide) (rm9 l Z a0 hw [] b5 (own_s p5 p3 p1) b83 b84 cs (own_n1 (g0_16 p5)) z270_l21 a83 (own_u ((own_s p5 (g0_98 p4) (g0_58 p4)).toUInt32.toUInt16.toUInt32.toInt32)) a84 (own_u ((own_s p5 (g0_108 p4) (g0_68 p4)).toUInt32.toUInt16.toUInt32.toInt32)) T84.heap n0 Zs_90 Ex_91 F_92 F_93 Ex_94 F_95 F_96 F_97 F_98 Ar_99 Es84 Fv84 Fc84 Fh84 Fz84 Ar84 Od_100 S_cs ge270_b5 gb83 gb84 ne_b5_b83 ne_b5_b84 ne_b83_b84 ne_b83_a84 hcs) rfl (W := 0) (by decide) (by decide) (by decide) (by decide) (g := (mkF m 292 #[.val (.int p0), .val (.int p1), .val (.int (own_s p5 p2 p0)), .val (.int (own_s p5 p3 p1)), .val (.int p4), .val (.int p5), .val (.int (g0_6 p5)), .val (.int (g0_16 p5)), .val (.int z135_l8), .val (.int (g0_39 p4)), .val (.int (g0_48 p4)), .val (.int (g0_58 p4)), .val (.int (g0_68 p4)), .val (.int (own_s p5 (g0_78 p4) (g0_39 p4))), .val (.int (own_s p5 (g0_88 p4) (g0_48 p4))), .val (.int (own_s p5 (g0_98 p4) (g0_58 p4))), .val (.int (own_s p5 (g0_108 p4) (g0_68 p4))), .val (.ref b2), .val (.ref b5), .val (.long z233_l19), .second, .val (.long z270_l21), .second, .unset] [(.ref b84), (.ref b83), .null, (.int (own_s p5 p3 p1)), (.ref b5)])) rfl (by rw [hml]; rfl) (argsL := [(.int (own_s p5 p3 p1)), .null, (.ref b83), (.ref b84)]) (rest := []) rfl (lenOf pd_9 rfl) rfl (by show 2 * 0 + _ ≤ _; exact Nat.le_of_eq rfl) (hb hby at_292)
      obtain ⟨rfl, Nq89, K89, Fr89, Fk89⟩ := hQ89
      rw [own_hx (own_ss (p5 := p5) (show small (g0_98 p4) from own_sm _) (show small (g0_58 p4) from own_sm _)), own_hx (own_ss (p5 := p5) (show small (g0_108 p4) from own_sm _) (show small (g0_68 p4) from own_sm _))] at Fk89
      have N89 := Fr.app N84 Nq89
      have Fq89 : Fld Z T89.heap b5 "com/example/framewire/framewire/bench/Tally" "checksum" "J" (.long (g0_292 p1 p3 p4 p5 z270_l21)) := Fk89
      refine Fini.st st89 ?_
      show Fini p e below s _ _ _ T89 (mkF m 295 #[.val (.int p0), .val (.int p1), .val (.int (own_s p5 p2 p0)), .val (.int (own_s p5 p3 p1)), .val (.int p4), .val (.int p5), .val (.int (g0_6 p5)), .val (.int (g0_16 p5)), .val (.int z135_l8), .val (.int (g0_39 p4)), .val (.int (g0_48 p4)), .val (.int (g0_58 p4)), .val (.int (g0_68 p4)), .val (.int (own_s p5 (g0_78 p4) (g0_39 p4))), .val (.int (own_s p5 (g0_88 p4) (g0_48 p4))), .val (.int (own_s p5 (g0_98 p4) (g0_58 p4))), .val (.int (own_s p5 (g0_108 p4) (g0_68 p4))), .val (.ref b2), .val (.ref b5), .val (.long z233_l19), .second, .val (.long z270_l21), .second, .unset] [])
      refine Fini.st (fun _ k => XS.lload X89.here hx rfl (hb hby at_295) rfl k) ?_
      show Fini p e below s _ _ _ T89 (mkF m 297 #[.val (.int p0), .val (.int p1), .val (.int (own_s p5 p2 p0)), .val (.int (own_s p5 p3 p1)), .val (.int p4), .val (.int p5), .val (.int (g0_6 p5)), .val (.int (g0_16 p5)), .val (.int z135_l8), .val (.int (g0_39 p4)), .val (.int (g0_48 p4)), .val (.int (g0_58 p4)), .val (.int (g0_68 p4)), .val (.int (own_s p5 (g0_78 p4) (g0_39 p4))), .val (.int (own_s p5 (g0_88 p4) (g0_48 p4))), .val (.int (own_s p5 (g0_98 p4) (g0_58 p4))), .val (.int (own_s p5 (g0_108 p4) (g0_68 p4))), .val (.ref b2), .val (.ref b5), .val (.long z233_l19), .second, .val (.long z270_l21), .second, .unset] [(.long z270_l21)])
      refine Fini.st (fun _ k => XS.iloadN X89.here hx rfl (hb hby at_297) rfl k) ?_
      show Fini p e below s _ _ _ T89 (mkF m 298 #[.val (.int p0), .val (.int p1), .val (.int (own_s p5 p2 p0)), .val (.int (own_s p5 p3 p1)), .val (.int p4), .val (.int p5), .val (.int (g0_6 p5)), .val (.int (g0_16 p5)), .val (.int z135_l8), .val (.int (g0_39 p4)), .val (.int (g0_48 p4)), .val (.int (g0_58 p4)), .val (.int (g0_68 p4)), .val (.int (own_s p5 (g0_78 p4) (g0_39 p4))), .val (.int (own_s p5 (g0_88 p4) (g0_48 p4))), .val (.int (own_s p5 (g0_98 p4) (g0_58 p4))), .val (.int (own_s p5 (g0_108 p4) (g0_68 p4))), .val (.ref b2), .val (.ref b5), .val (.long z233_l19), .second, .val (.long z270_l21), .second, .unset] [(.int (own_s p5 p3 p1)), (.long z270_l21)])
      refine Fini.st (fun _ k => XS.iload X89.here hx rfl (hb hby at_298) rfl k) ?_
      show Fini p e below s _ _ _ T89 (mkF m 300 #[.val (.int p0), .val (.int p1), .val (.int (own_s p5 p2 p0)), .val (.int (own_s p5 p3 p1)), .val (.int p4), .val (.int p5), .val (.int (g0_6 p5)), .val (.int (g0_16 p5)), .val (.int z135_l8), .val (.int (g0_39 p4)), .val (.int (g0_48 p4)), .val (.int (g0_58 p4)), .val (.int (g0_68 p4)), .val (.int (own_s p5 (g0_78 p4) (g0_39 p4))), .val (.int (own_s p5 (g0_88 p4) (g0_48 p4))), .val (.int (own_s p5 (g0_98 p4) (g0_58 p4))), .val (.int (own_s p5 (g0_108 p4) (g0_68 p4))), .val (.ref b2), .val (.ref b5), .val (.long z233_l19), .second, .val (.long z270_l21), .second, .unset] [(.int (own_s p5 (g0_98 p4) (g0_58 p4))), (.int (own_s p5 p3 p1)), (.long z270_l21)])
      refine Fini.st (fun _ k => XS.iload X89.here hx rfl (hb hby at_300) rfl k) ?_
      show Fini p e below s _ _ _ T89 (mkF m 302 #[.val (.int p0), .val (.int p1), .val (.int (own_s p5 p2 p0)), .val (.int (own_s p5 p3 p1)), .val (.int p4), .val (.int p5), .val (.int (g0_6 p5)), .val (.int (g0_16 p5)), .val (.int z135_l8), .val (.int (g0_39 p4)), .val (.int (g0_48 p4)), .val (.int (g0_58 p4)), .val (.int (g0_68 p4)), .val (.int (own_s p5 (g0_78 p4) (g0_39 p4))), .val (.int (own_s p5 (g0_88 p4) (g0_48 p4))), .val (.int (own_s p5 (g0_98 p4) (g0_58 p4))), .val (.int (own_s p5 (g0_108 p4) (g0_68 p4))), .val (.ref b2), .val (.ref b5), .val (.long z233_l19), .second, .val (.long z270_l21), .second, .unset] [(.int (own_s p5 (g0_108 p4) (g0_68 p4))), (.int (own_s p5 (g0_98 p4) (g0_58 p4))), (.int (own_s p5 p3 p1)), (.long z270_l21)])
      obtain ⟨T101, X101, e101, st101⟩ := pureS X89 hx hZ hown (hw _ (List.mem_of_getElem? (i := 77) rfl)) (hw _ (List.mem_of_getElem? (i := 78) rfl)) (hw _ (List.mem_of_getElem? (i := 79) rfl)) (hw _ (List.mem_of_getElem? (i := 80) rfl)) (by decide) (rm13 l Z a0 hw [] z270_l21 (own_s p5 p3 p1) (own_s p5 (g0_98 p4) (g0_58 p4)) (own_s p5 (g0_108 p4) (g0_68 p4)) T89.heap) rfl (W := 0) (by decide) (by decide) (by decide) (by decide) (g := (mkF m 302 #[.val (.int p0), .val (.int p1), .val (.int (own_s p5 p2 p0)), .val (.int (own_s p5 p3 p1)), .val (.int p4), .val (.int p5), .val (.int (g0_6 p5)), .val (.int (g0_16 p5)), .val (.int z135_l8), .val (.int (g0_39 p4)), .val (.int (g0_48 p4)), .val (.int (g0_58 p4)), .val (.int (g0_68 p4)), .val (.int (own_s p5 (g0_78 p4) (g0_39 p4))), .val (.int (own_s p5 (g0_88 p4) (g0_48 p4))), .val (.int (own_s p5 (g0_98 p4) (g0_58 p4))), .val (.int (own_s p5 (g0_108 p4) (g0_68 p4))), .val (.ref b2), .val (.ref b5), .val (.long z233_l19), .second, .val (.long z270_l21), .second, .unset] [(.int (own_s p5 (g0_108 p4) (g0_68 p4))), (.int (own_s p5 (g0_98 p4) (g0_58 p4))), (.int (own_s p5 p3 p1)), (.long z270_l21)])) rfl (by rw [hml]; rfl) (argsL := [(.long z270_l21), (.int (own_s p5 p3 p1)), (.int (own_s p5 (g0_98 p4) (g0_58 p4))), (.int (own_s p5 (g0_108 p4) (g0_68 p4)))]) (rest := []) rfl (lenOf pd_10 rfl) rfl (by show 2 * 0 + _ ≤ _; exact Nat.le_of_eq rfl) (hb hby at_302)
      refine Fini.st st101 ?_
      show Fini p e below s _ _ _ T101 (mkF m 305 #[.val (.int p0), .val (.int p1), .val (.int (own_s p5 p2 p0)), .val (.int (own_s p5 p3 p1)), .val (.int p4), .val (.int p5), .val (.int (g0_6 p5)), .val (.int (g0_16 p5)), .val (.int z135_l8), .val (.int (g0_39 p4)), .val (.int (g0_48 p4)), .val (.int (g0_58 p4)), .val (.int (g0_68 p4)), .val (.int (own_s p5 (g0_78 p4) (g0_39 p4))), .val (.int (own_s p5 (g0_88 p4) (g0_48 p4))), .val (.int (own_s p5 (g0_98 p4) (g0_58 p4))), .val (.int (own_s p5 (g0_108 p4) (g0_68 p4))), .val (.ref b2), .val (.ref b5), .val (.long z233_l19), .second, .val (.long z270_l21), .second, .unset] [(.long (f13 z270_l21 (own_s p5 p3 p1) (own_s p5 (g0_98 p4) (g0_58 p4)) (own_s p5 (g0_108 p4) (g0_68 p4))))])
      refine Fini.st (fun _ k => XS.lstore X101.here hx rfl (hb hby at_305) rfl (l' := #[.val (.int p0), .val (.int p1), .val (.int (own_s p5 p2 p0)), .val (.int (own_s p5 p3 p1)), .val (.int p4), .val (.int p5), .val (.int (g0_6 p5)), .val (.int (g0_16 p5)), .val (.int z135_l8), .val (.int (g0_39 p4)), .val (.int (g0_48 p4)), .val (.int (g0_58 p4)), .val (.int (g0_68 p4)), .val (.int (own_s p5 (g0_78 p4) (g0_39 p4))), .val (.int (own_s p5 (g0_88 p4) (g0_48 p4))), .val (.int (own_s p5 (g0_98 p4) (g0_58 p4))), .val (.int (own_s p5 (g0_108 p4) (g0_68 p4))), .val (.ref b2), .val (.ref b5), .val (.long z233_l19), .second, .val (.long (g0_292 p1 p3 p4 p5 z270_l21)), .second, .unset]) rfl k) ?_
      show Fini p e below s _ _ _ T101 (mkF m 307 #[.val (.int p0), .val (.int p1), .val (.int (own_s p5 p2 p0)), .val (.int (own_s p5 p3 p1)), .val (.int p4), .val (.int p5), .val (.int (g0_6 p5)), .val (.int (g0_16 p5)), .val (.int z135_l8), .val (.int (g0_39 p4)), .val (.int (g0_48 p4)), .val (.int (g0_58 p4)), .val (.int (g0_68 p4)), .val (.int (own_s p5 (g0_78 p4) (g0_39 p4))), .val (.int (own_s p5 (g0_88 p4) (g0_48 p4))), .val (.int (own_s p5 (g0_98 p4) (g0_58 p4))), .val (.int (own_s p5 (g0_108 p4) (g0_68 p4))), .val (.ref b2), .val (.ref b5), .val (.long z233_l19), .second, .val (.long (g0_292 p1 p3 p4 p5 z270_l21)), .second, .unset] [])
      have Fn102 : Fld Z T89.heap b5 "com/example/framewire/framewire/bench/Tally" "frames" "J" (.long (own_n2 (g0_16 p5))) := by rw [show own_n2 (g0_16 p5) = ((own_n1 (g0_16 p5)) + (1 : Int64)) from if_neg c81]; exact Fr89
      have Od_112 : Old Z n0 T89.heap := (Old.keep Od_100 K89 (allS (P := fun x => n0 ≤ x) ge270_b5 (allS (P := fun x => n0 ≤ x) gb83 (allS (P := fun x => n0 ≤ x) gb84 all0))))
      have Zs_113 : n0 ≤ T89.heap.size := (Nat.le_trans Zs_90 K89.1)
      have Ex_114 : Exa Z T89.heap b2 "com/example/framewire/framewire/bench/Tally" := ((Ex_87.keep K84).keep K89)
      have F_115 : Fld Z T89.heap b2 "com/example/framewire/framewire/bench/Tally" "frames" "J" (.long (own_n2 (g0_6 p5))) := (((H270_F_b2_frames.keep K83 nin0).keep K84 nin0).keep K89 (ninS ne270_b2_b5 (ninS ne_b2_b83 (ninS ne_b2_b84 nin0))))
      have F_116 : Fld Z T89.heap b2 "com/example/framewire/framewire/bench/Tally" "checksum" "J" (.long z233_l19) := (((H270_F_b2_checksum.keep K83 nin0).keep K84 nin0).keep K89 (ninS ne270_b2_b5 (ninS ne_b2_b83 (ninS ne_b2_b84 nin0))))
      have Ex_117 : Exa Z T89.heap b5 "com/example/framewire/framewire/bench/Tally" := (Ex_91.keep K89)
      exact B307 T101 _ _ (X101.more (cells' := 18) (slots' := 44) (by decide) (by decide)) e101 b2 b5 (g0_292 p1 p3 p4 p5 z270_l21) z135_l8 z233_l19 N89 Od_112 H270_S_java_lang_String_COMPACT_STRINGS H270_S_java_lang_Integer_IntegerCache_high H270_S_java_lang_Integer_IntegerCache_cache Zs_113 Ex_114 F_115 F_116 Ex_117 Fn102 Fq89 ne270_b2_b5 ge270_b2 ge270_b5
  have B233 : ∀ (T_233 : State) (h_233 : Heap) (locs : List Loc) (X_233 : Stand p l e room_1 s m #[(.int p0), (.int p1), (.int p2), (.int p3), (.int p4), (.int p5)] below meth c T_233 locs 10 24) (e_233 : T_233.heap = h_233) (b2 : Addr) (b5 : Addr) (z233_l19 : Int64) (z135_l8 : Int32) (N_233 : Fr n0 locs) (H233_D : Old Z n0 h_233) (H233_S_java_lang_String_COMPACT_STRINGS : Sta Z Z.heap "java/lang/String" "COMPACT_STRINGS" "Z" (.int cs)) (H233_S_java_lang_Integer_IntegerCache_high : Sta Z Z.heap "java/lang/Integer$IntegerCache" "high" "I" (.int (127 : Int32))) (H233_S_java_lang_Integer_IntegerCache_cache : Sta Z Z.heap "java/lang/Integer$IntegerCache" "cache" "[Ljava/lang/Integer;" (.ref ca)) (H233_Z : n0 ≤ h_233.size) (H233_E_b2 : Exa Z h_233 b2 "com/example/framewire/framewire/bench/Tally") (H233_F_b2_frames : Fld Z h_233 b2 "com/example/framewire/framewire/bench/Tally" "frames" "J" (.long (own_n2 (g0_6 p5)))) (H233_F_b2_checksum : Fld Z h_233 b2 "com/example/framewire/framewire/bench/Tally" "checksum" "J" (.long z233_l19)) (H233_E_b5 : Exa Z h_233 b5 "com/example/framewire/framewire/bench/Tally") (H233_F_b5_frames : Fld Z h_233 b5 "com/example/framewire/framewire/bench/Tally" "frames" "J" (.long (0 : Int64))) (H233_F_b5_checksum : Fld Z h_233 b5 "com/example/framewire/framewire/bench/Tally" "checksum" "J" (.long (0 : Int64))) (ne233_b2_b5 : b2 ≠ b5) (ge233_b2 : n0 ≤ b2) (ge233_b5 : n0 ≤ b5), Fini p e below s (fun v h' L => v = some (.int 1) ∧ Fr n0 L) (Room.cells room_1) (Room.slots room_1) T_233 (mkF m 233 #[.val (.int p0), .val (.int p1), .val (.int (own_s p5 p2 p0)), .val (.int (own_s p5 p3 p1)), .val (.int p4), .val (.int p5), .val (.int (g0_6 p5)), .val (.int (g0_16 p5)), .val (.int z135_l8), .val (.int (g0_39 p4)), .val (.int (g0_48 p4)), .val (.int (g0_58 p4)), .val (.int (g0_68 p4)), .val (.int (own_s p5 (g0_78 p4) (g0_39 p4))), .val (.int (own_s p5 (g0_88 p4) (g0_48 p4))), .val (.int (own_s p5 (g0_98 p4) (g0_58 p4))), .val (.int (own_s p5 (g0_108 p4) (g0_68 p4))), .val (.ref b2), .val (.ref b5), .val (.long z233_l19), .second, .val (.long (0 : Int64)), .second, .unset] []) := by
    intro T_233 h_233 locs  X_233 e_233  b2 b5 z233_l19 z135_l8 N_233 H233_D H233_S_java_lang_String_COMPACT_STRINGS H233_S_java_lang_Integer_IntegerCache_high H233_S_java_lang_Integer_IntegerCache_cache H233_Z H233_E_b2 H233_F_b2_frames H233_F_b2_checksum H233_E_b5 H233_F_b5_frames H233_F_b5_checksum ne233_b2_b5 ge233_b2 ge233_b5
    refine Fini.st (fun _ k => XS.iload X_233.here hx rfl (hb hby at_233) rfl k) ?_
    show Fini p e below s _ _ _ T_233 (mkF m 235 #[.val (.int p0), .val (.int p1), .val (.int (own_s p5 p2 p0)), .val (.int (own_s p5 p3 p1)), .val (.int p4), .val (.int p5), .val (.int (g0_6 p5)), .val (.int (g0_16 p5)), .val (.int z135_l8), .val (.int (g0_39 p4)), .val (.int (g0_48 p4)), .val (.int (g0_58 p4)), .val (.int (g0_68 p4)), .val (.int (own_s p5 (g0_78 p4) (g0_39 p4))), .val (.int (own_s p5 (g0_88 p4) (g0_48 p4))), .val (.int (own_s p5 (g0_98 p4) (g0_58 p4))), .val (.int (own_s p5 (g0_108 p4) (g0_68 p4))), .val (.ref b2), .val (.ref b5), .val (.long z233_l19), .second, .val (.long (0 : Int64)), .second, .unset] [(.int (g0_16 p5))])
    refine Fini.st (fun _ k => XS.iconst X_233.here hx rfl (hb hby at_235) k) ?_
    show Fini p e below s _ _ _ T_233 (mkF m 236 #[.val (.int p0), .val (.int p1), .val (.int (own_s p5 p2 p0)), .val (.int (own_s p5 p3 p1)), .val (.int p4), .val (.int p5), .val (.int (g0_6 p5)), .val (.int (g0_16 p5)), .val (.int z135_l8), .val (.int (g0_39 p4)), .val (.int (g0_48 p4)), .val (.int (g0_58 p4)), .val (.int (g0_68 p4)), .val (.int (own_s p5 (g0_78 p4) (g0_39 p4))), .val (.int (own_s p5 (g0_88 p4) (g0_48 p4))), .val (.int (own_s p5 (g0_98 p4) (g0_58 p4))), .val (.int (own_s p5 (g0_108 p4) (g0_68 p4))), .val (.ref b2), .val (.ref b5), .val (.long z233_l19), .second, .val (.long (0 : Int64)), .second, .unset] [(.int (1 : Int32)), (.int (g0_16 p5))])
    by_cases c59 : (g0_16 p5) < (1 : Int32)
    · skip
      refine Fini.st (fun _ k => XS.icmpYes X_233.here hx rfl (pc0 := 236) (pc' := 270) rfl (hb hby at_236) rfl (XT.ii_lt_t c59) (by decide) (by decide) k) ?_
      show Fini p e below s _ _ _ T_233 (mkF m 270 #[.val (.int p0), .val (.int p1), .val (.int (own_s p5 p2 p0)), .val (.int (own_s p5 p3 p1)), .val (.int p4), .val (.int p5), .val (.int (g0_6 p5)), .val (.int (g0_16 p5)), .val (.int z135_l8), .val (.int (g0_39 p4)), .val (.int (g0_48 p4)), .val (.int (g0_58 p4)), .val (.int (g0_68 p4)), .val (.int (own_s p5 (g0_78 p4) (g0_39 p4))), .val (.int (own_s p5 (g0_88 p4) (g0_48 p4))), .val (.int (own_s p5 (g0_98 p4) (g0_58 p4))), .val (.int (own_s p5 (g0_108 p4) (g0_68 p4))), .val (.ref b2), .val (.ref b5), .val (.long z233_l19), .second, .val (.long (0 : Int64)), .second, .unset] [])
      have Fn60 : Fld Z h_233 b5 "com/example/framewire/framewire/bench/Tally" "frames" "J" (.long (own_n1 (g0_16 p5))) := by rw [show own_n1 (g0_16 p5) = (0 : Int64) from if_pos c59]; exact H233_F_b5_frames
      exact B270 T_233 _ _ (X_233.more (cells' := 14) (slots' := 34) (by decide) (by decide)) e_233 b2 b5 (0 : Int64) z135_l8 z233_l19 N_233 H233_D H233_S_java_lang_String_COMPACT_STRINGS H233_S_java_lang_Integer_IntegerCache_high H233_S_java_lang_Integer_IntegerCache_cache H233_Z H233_E_b2 H233_F_b2_frames H233_F_b2_checksum H233_E_b5 Fn60 H233_F_b5_checksum ne233_b2_b5 ge233_b2 ge233_b5
    · skip
      refine Fini.st (fun _ k => XS.icmpNo X_233.here hx rfl (hb hby at_236) rfl (XT.ii_lt_f c59) k) ?_
      show Fini p e below s _ _ _ T_233 (mkF m 239 #[.val (.int p0), .val (.int p1), .val (.int (own_s p5 p2 p0)), .val (.int (own_s p5 p3 p1)), .val (.int p4), .val (.int p5), .val (.int (g0_6 p5)), .val (.int (g0_16 p5)), .val (.int z135_l8), .val (.int (g0_39 p4)), .val (.int (g0_48 p4)), .val (.int (g0_58 p4)), .val (.int (g0_68 p4)), .val (.int (own_s p5 (g0_78 p4) (g0_39 p4))), .val (.int (own_s p5 (g0_88 p4) (g0_48 p4))), .val (.int (own_s p5 (g0_98 p4) (g0_58 p4))), .val (.int (own_s p5 (g0_108 p4) (g0_68 p4))), .val (.ref b2), .val (.ref b5), .val (.long z233_l19), .second, .val (.long (0 : Int64)), .second, .unset] [])
      refine Fini.st (fun _ k => XS.aload X_233.here hx rfl (hb hby at_239) rfl rfl k) ?_
      show Fini p e below s _ _ _ T_233 (mkF m 241 #[.val (.int p0), .val (.int p1), .val (.int (own_s p5 p2 p0)), .val (.int (own_s p5 p3 p1)), .val (.int p4), .val (.int p5), .val (.int (g0_6 p5)), .val (.int (g0_16 p5)), .val (.int z135_l8), .val (.int (g0_39 p4)), .val (.int (g0_48 p4)), .val (.int (g0_58 p4)), .val (.int (g0_68 p4)), .val (.int (own_s p5 (g0_78 p4) (g0_39 p4))), .val (.int (own_s p5 (g0_88 p4) (g0_48 p4))), .val (.int (own_s p5 (g0_98 p4) (g0_58 p4))), .val (.int (own_s p5 (g0_108 p4) (g0_68 p4))), .val (.ref b2), .val (.ref b5), .val (.long z233_l19), .second, .val (.long (0 : Int64)), .second, .unset] [(.ref b5)])
      refine Fini.st (fun _ k => XS.iloadN X_233.here hx rfl (hb hby at_241) rfl k) ?_
      show Fini p e below s _ _ _ T_233 (mkF m 242 #[.val (.int p0), .val (.int p1), .val (.int (own_s p5 p2 p0)), .val (.int (own_s p5 p3 p1)), .val (.int p4), .val (.int p5), .val (.int (g0_6 p5)), .val (.int (g0_16 p5)), .val (.int z135_l8), .val (.int (g0_39 p4)), .val (.int (g0_48 p4)), .val (.int (g0_58 p4)), .val (.int (g0_68 p4)), .val (.int (own_s p5 (g0_78 p4) (g0_39 p4))), .val (.int (own_s p5 (g0_88 p4) (g0_48 p4))), .val (.int (own_s p5 (g0_98 p4) (g0_58 p4))), .val (.int (own_s p5 (g0_108 p4) (g0_68 p4))), .val (.ref b2), .val (.ref b5), .val (.long z233_l19), .second, .val (.long (0 : Int64)), .second, .unset] [(.int (own_s p5 p2 p0)), (.ref b5)])
      refine Fini.st (fun _ k => XS.aconstNull X_233.here hx rfl (hb hby at_242) k) ?_
      show Fini p e below s _ _ _ T_233 (mkF m 243 #[.val (.int p0), .val (.int p1), .val (.int (own_s p5 p2 p0)), .val (.int (own_s p5 p3 p1)), .val (.int p4), .val (.int p5), .val (.int (g0_6 p5)), .val (.int (g0_16 p5)), .val (.int z135_l8), .val (.int (g0_39 p4)), .val (.int (g0_48 p4)), .val (.int (g0_58 p4)), .val (.int (g0_68 p4)), .val (.int (own_s p5 (g0_78 p4) (g0_39 p4))), .val (.int (own_s p5 (g0_88 p4) (g0_48 p4))), .val (.int (own_s p5 (g0_98 p4) (g0_58 p4))), .val (.int (own_s p5 (g0_108 p4) (g0_68 p4))), .val (.ref b2), .val (.ref b5), .val (.long z233_l19), .second, .val (.long (0 : Int64)), .second, .unset] [.null, (.int (own_s p5 p2 p0)), (.ref b5)])
      refine Fini.st (fun _ k => XS.iload X_233.here hx rfl (hb hby at_243) rfl k) ?_
      show Fini p e below s _ _ _ T_233 (mkF m 245 #[.val (.int p0), .val (.int p1), .val (.int (own_s p5 p2 p0)), .val (.int (own_s p5 p3 p1)), .val (.int p4), .val (.int p5), .val (.int (g0_6 p5)), .val (.int (g0_16 p5)), .val (.int z135_l8), .val (.int (g0_39 p4)), .val (.int (g0_48 p4)), .val (.int (g0_58 p4)), .val (.int (g0_68 p4)), .val (.int (own_s p5 (g0_78 p4) (g0_39 p4))), .val (.int (own_s p5 (g0_88 p4) (g0_48 p4))), .val (.int (own_s p5 (g0_98 p4) (g0_58 p4))), .val (.int (own_s p5 (g0_108 p4) (g0_68 p4))), .val (.ref b2), .val (.ref b5), .val (.long z233_l19), .second, .val (.long (0 : Int64)), .second, .unset] [(.int (own_s p5 (g0_78 p4) (g0_39 p4))), .null, (.int (own_s p5 p2 p0)), (.ref b5)])
      refine Fini.st (fun _ k => XS.i2c X_233.here hx rfl (hb hby at_245) rfl k) ?_
      show Fini p e below s _ _ _ T_233 (mkF m 246 #[.val (.int p0), .val (.int p1), .val (.int (own_s p5 p2 p0)), .val (.int (own_s p5 p3 p1)), .val (.int p4), .val (.int p5), .val (.int (g0_6 p5)), .val (.int (g0_16 p5)), .val (.int z135_l8), .val (.int (g0_39 p4)), .val (.int (g0_48 p4)), .val (.int (g0_58 p4)), .val (.int (g0_68 p4)), .val (.int (own_s p5 (g0_78 p4) (g0_39 p4))), .val (.int (own_s p5 (g0_88 p4) (g0_48 p4))), .val (.int (own_s p5 (g0_98 p4) (g0_58 p4))), .val (.int (own_s p5 (g0_108 p4) (g0_68 p4))), .val (.ref b2), .val (.ref b5), .val (.long z233_l19), .second, .val (.long (0 : Int64)), .second, .unset] [(.int (own_s p5 (g0_78 p4) (g0_39 p4)).toUInt32.toUInt16.toUInt32.toInt32), .null, (.int (own_s p5 p2 p0)), (.ref b5)])
      obtain ⟨v61, T61, L61, X61, hQ61, st61⟩ := callQ X_233 hx hZ hown (hw _ (List.mem_of_getElem? (i := 30) rfl)) (hw _ (List.mem_of_getElem? (i := 31) rfl)) (hw _ (List.mem_of_getElem? (i := 32) rfl)) (hw _ (List.mem_of_getElem? (i := 33) rfl)) (by decide) (rm5 l Z a0 hw [] ((own_s p5 (g0_78 p4) (g0_39 p4)).toUInt32.toUInt16.toUInt32.toInt32) cs h_233 n0 H233_Z H233_D S_cs hcs (own_c (own_ss (p5 := p5) (show small (g0_78 p4) from own_sm _) (show small (g0_39 p4) from own_sm _)))) e_233 (W := 3) (by decide) (by decide) (by decide) (by decide) (g := (mkF m 246 #[.val (.int p0), .val (.int p1), .val (.int (own_s p5 p2 p0)), .val (.int (own_s p5 p3 p1)), .val (.int p4), .val (.int p5), .val (.int (g0_6 p5)), .val (.int (g0_16 p5)), .val (.int z135_l8), .val (.int (g0_39 p4)), .val (.int (g0_48 p4)), .val (.int (g0_58 p4)), .val (.int (g0_68 p4)), .val (.int (own_s p5 (g0_78 p4) (g0_39 p4))), .val (.int (own_s p5 (g0_88 p4) (g0_48 p4))), .val (.int (own_s p5 (g0_98 p4) (g0_58 p4))), .val (.int (own_s p5 (g0_108 p4) (g0_68 p4))), .val (.ref b2), .val (.ref b5), .val (.long z233_l19), .second, .val (.long (0 : Int64)), .second, .unset] [(.int (own_s p5 (g0_78 p4) (g0_39 p4)).toUInt32.toUInt16.toUInt32.toInt32), .null, (.int (own_s p5 p2 p0)), (.ref b5)])) rfl (by rw [hml]; rfl) (argsL := [(.int (own_s p5 (g0_78 p4) (g0_39 p4)).toUInt32.toUInt16.toUInt32.toInt32)]) (rest := [.null, (.int (own_s p5 p2 p0)), (.ref b5)]) rfl (lenOf pd_8 rfl) rfl (by show 2 * 0 + _ ≤ _; exact Nat.le_of_eq rfl) (hb hby at_246)
      obtain ⟨b61, a61, rfl, Nq61, K61, sb61, sa61, gb61, ga61, nb61, Es61, Fv61, Fc61, Fh61, Fz61, Ar61⟩ := hQ61
      have ne_b2_b61 : b2 ≠ b61 := Nat.ne_of_lt (Nat.lt_of_lt_of_le H233_E_b2.lt sb61)
      have ne_b5_b61 : b5 ≠ b61 := Nat.ne_of_lt (Nat.lt_of_lt_of_le H233_E_b5.lt sb61)
      have ne_b2_a61 : b2 ≠ a61 := Nat.ne_of_lt (Nat.lt_of_lt_of_le H233_E_b2.lt sa61)
      have ne_b5_a61 : b5 ≠ a61 := Nat.ne_of_lt (Nat.lt_of_lt_of_le H233_E_b5.lt sa61)
      have N61 := Fr.app N_233 Nq61
      refine Fini.st st61 ?_
      show Fini p e below s _ _ _ T61 (mkF m 249 #[.val (.int p0), .val (.int p1), .val (.int (own_s p5 p2 p0)), .val (.int (own_s p5 p3 p1)), .val (.int p4), .val (.int p5), .val (.int (g0_6 p5)), .val (.int (g0_16 p5)), .val (.int z135_l8), .val (.int (g0_39 p4)), .val (.int (g0_48 p4)), .val (.int (g0_58 p4)), .val (.int (g0_68 p4)), .val (.int (own_s p5 (g0_78 p4) (g0_39 p4))), .val (.int (own_s p5 (g0_88 p4) (g0_48 p4))), .val (.int (own_s p5 (g0_98 p4) (g0_58 p4))), .val (.int (own_s p5 (g0_108 p4) (g0_68 p4))), .val (.ref b2), .val (.ref b5), .val (.long z233_l19), .second, .val (.long (0 : Int64)), .second, .unset] [(.ref b61), .null, (.int (own_s p5 p2 p0)), (.ref b5)])
      refine Fini.st (fun _ k => XS.iload X61.here hx rfl (hb hby at_249) rfl k) ?_
      show Fini p e below s _ _ _ T61 (mkF m 251 #[.val (.int p0), .val (.int p1), .val (.int (own_s p5 p2 p0)), .val (.int (own_s p5 p3 p1)), .val (.int p4), .val (.int p5), .val (.int (g0_6 p5)), .val (.int (g0_16 p5)), .val (.int z135_l8), .val (.int (g0_39 p4)), .val (.int (g0_48 p4)), .val (.int (g0_58 p4)), .val (.int (g0_68 p4)), .val (.int (own_s p5 (g0_78 p4) (g0_39 p4))), .val (.int (own_s p5 (g0_88 p4) (g0_48 p4))), .val (.int (own_s p5 (g0_98 p4) (g0_58 p4))), .val (.int (own_s p5 (g0_108 p4) (g0_68 p4))), .val (.ref b2), .val (.ref b5), .val (.long z233_l19), .second, .val (.long (0 : Int64)), .second, .unset] [(.int (own_s p5 (g0_88 p4) (g0_48 p4))), (.ref b61), .null, (.int (own_s p5 p2 p0)), (.ref b5)])
      refine Fini.st (fun _ k => XS.i2c X61.here hx rfl (hb hby at_251) rfl k) ?_
      show Fini p e below s _ _ _ T61 (mkF m 252 #[.val (.int p0), .val (.int p1), .val (.int (own_s p5 p2 p0)), .val (.int (own_s p5 p3 p1)), .val (.int p4), .val (.int p5), .val (.int (g0_6 p5)), .val (.int (g0_16 p5)), .val (.int z135_l8), .val (.int (g0_39 p4)), .val (.int (g0_48 p4)), .val (.int (g0_58 p4)), .val (.int (g0_68 p4)), .val (.int (own_s p5 (g0_78 p4) (g0_39 p4))), .val (.int (own_s p5 (g0_88 p4) (g0_48 p4))), .val (.int (own_s p5 (g0_98 p4) (g0_58 p4))), .val (.int (own_s p5 (g0_108 p4) (g0_68 p4))), .val (.ref b2), .val (.ref b5), .val (.long z233_l19), .second, .val (.long (0 : Int64)), .second, .unset] [(.int (own_s p5 (g0_88 p4) (g0_48 p4)).toUInt32.toUInt16.toUInt32.toInt32), (.ref b61), .null, (.int (own_s p5 p2 p0)), (.ref b5)])
      have Zs_63 : n0 ≤ T61.heap.size := (Nat.le_trans H233_Z K61.1)
      have Od_64 : Old Z n0 T61.heap := (Old.keep H233_D K61 all0)
      obtain ⟨v62, T62, L62, X62, hQ62, st62⟩ := callQ X61 hx hZ hown (hw _ (List.mem_of_getElem? (i := 30) rfl)) (hw _ (List.mem_of_getElem? (i := 31) rfl)) (hw _ (List.mem_of_getElem? (i := 32) rfl)) (hw _ (List.mem_of_getElem? (i := 33) rfl)) (by decide) (rm5 l Z a0 hw [] ((own_s p5 (g0_88 p4) (g0_48 p4)).toUInt32.toUInt16.toUInt32.toInt32) cs T61.heap n0 Zs_63 Od_64 S_cs hcs (own_c (own_ss (p5 := p5) (show small (g0_88 p4) from own_sm _) (show small (g0_48 p4) from own_sm _)))) rfl (W := 4) (by decide) (by decide) (by decide) (by decide) (g := (mkF m 252 #[.val (.int p0), .val (.int p1), .val (.int (own_s p5 p2 p0)), .val (.int (own_s p5 p3 p1)), .val (.int p4), .val (.int p5), .val (.int (g0_6 p5)), .val (.int (g0_16 p5)), .val (.int z135_l8), .val (.int (g0_39 p4)), .val (.int (g0_48 p4)), .val (.int (g0_58 p4)), .val (.int (g0_68 p4)), .val (.int (own_s p5 (g0_78 p4) (g0_39 p4))), .val (.int (own_s p5 (g0_88 p4) (g0_48 p4))), .val (.int (own_s p5 (g0_98 p4) (g0_58 p4))), .val (.int (own_s p5 (g0_108 p4) (g0_68 p4))), .val (.ref b2), .val (.ref b5), .val (.long z233_l19), .second, .val (.long (0 : Int64)), .second, .unset] [(.int (own_s p5 (g0_88 p4) (g0_48 p4)).toUInt32.toUInt16.toUInt32.toInt32), (.ref b61), .null, (.int (own_s p5 p2 p0)), (.ref b5)])) rfl (by rw [hml]; rfl) (argsL := [(.int (own_s p5 (g0_88 p4) (g0_48 p4)).toUInt32.toUInt16.toUInt32.toInt32)]) (rest := [(.ref b61), .null, (.int (own_s p5 p2 p0)), (.ref b5)]) rfl (lenOf pd_8 rfl) rfl (by show 2 * 0 + _ ≤ _; exact Nat.le_of_eq rfl) (hb hby at_252)
      obtain ⟨b62, a62, rfl, Nq62, K62, sb62, sa62, gb62, ga62, nb62, Es62, Fv62, Fc62, Fh62, Fz62, Ar62⟩ := hQ62
      have Ex_65 : Exa Z T61.heap b2 "com/example/framewire/framewire/bench/Tally" := (H233_E_b2.keep K61)
      have ne_b2_b62 : b2 ≠ b62 := Nat.ne_of_lt (Nat.lt_of_lt_of_le Ex_65.lt sb62)
      have Ex_66 : Exa Z T61.heap b5 "com/example/framewire/framewire/bench/Tally" := (H233_E_b5.keep K61)
      have ne_b5_b62 : b5 ≠ b62 := Nat.ne_of_lt (Nat.lt_of_lt_of_le Ex_66.lt sb62)
      have ne_b61_b62 : b61 ≠ b62 := Nat.ne_of_lt (Nat.lt_of_lt_of_le Es61.lt sb62)
      have ne_a61_b62 : a61 ≠ b62 := Nat.ne_of_lt (Nat.lt_of_lt_of_le Ar61.lt sb62)
      have ne_b2_a62 : b2 ≠ a62 := Nat.ne_of_lt (Nat.lt_of_lt_of_le Ex_65.lt sa62)
      have ne_b5_a62 : b5 ≠ a62 := Nat.ne_of_lt (Nat.lt_of_lt_of_le Ex_66.lt sa62)
      have ne_b61_a62 : b61 ≠ a62 := Nat.ne_of_lt (Nat.lt_of_lt_of_le Es61.lt sa62)
      have ne_a61_a62 : a61 ≠ a62 := Nat.ne_of_lt (Nat.lt_of_lt_of_le Ar61.lt sa62)
      have N62 := Fr.app N61 Nq62
      refine Fini.st st62 ?_
      show Fini p e below s _ _ _ T62 (mkF m 255 #[.val (.int p0), .val (.int p1), .val (.int (own_s p5 p2 p0)), .val (.int (own_s p5 p3 p1)), .val (.int p4), .val (.int p5), .val (.int (g0_6 p5)), .val (.int (g0_16 p5)), .val (.int z135_l8), .val (.int (g0_39 p4)), .val (.int (g0_48 p4)), .val (.int (g0_58 p4)), .val (.int (g0_68 p4)), .val (.int (own_s p5 (g0_78 p4) (g0_39 p4))), .val (.int (own_s p5 (g0_88 p4) (g0_48 p4))), .val (.int (own_s p5 (g0_98 p4) (g0_58 p4))), .val (.int (own_s p5 (g0_108 p4) (g0_68 p4))), .val (.ref b2), .val (.ref b5), .val (.long z233_l19), .second, .val (.long (0 : Int64)), .second, .unset] [(.ref b62), (.ref b61), .null, (.int (own_s p5 p2 p0)), (.ref b5)])
      have Zs_68 : n0 ≤ T62.heap.size := (Nat.le_trans Zs_63 K62.1)
      have Ex_69 : Exa Z T62.heap b5 "com/example/framewire/framewire/bench/Tally" := (Ex_66.keep K62)
      have F_70 : Fld Z T62.heap b5 "com/example/framewire/framewire/bench/Tally" "frames" "J" (.long (0 : Int64)) := ((H233_F_b5_frames.keep K61 nin0).keep K62 nin0)
      have F_71 : Fld Z T62.heap b5 "com/example/framewire/framewire/bench/Tally" "checksum" "J" (.long (0 : Int64)) := ((H233_F_b5_checksum.keep K61 nin0).keep K62 nin0)
      have Ex_72 : Exa Z T62.heap b61 "java/lang/String" := (Es61.keep K62)
      have F_73 : Fld Z T62.heap b61 "java/lang/String" "value" "[B" (.ref a61) := (Fv61.keep K62 nin0)
      have F_74 : Fld Z T62.heap b61 "java/lang/String" "coder" "B" (.int (0 : Int32)) := (Fc61.keep K62 nin0)
      have F_75 : Fld Z T62.heap b61 "java/lang/String" "hash" "I" (.int (0 : Int32)) := (Fh61.keep K62 nin0)
      have F_76 : Fld Z T62.heap b61 "java/lang/String" "hashIsZero" "Z" (.int (0 : Int32)) := (Fz61.keep K62 nin0)
      have Ar_77 : AryI Z T62.heap a61 .byte (1 : Int32) (own_u ((own_s p5 (g0_78 p4) (g0_39 p4)).toUInt32.toUInt16.toUInt32.toInt32)) := (Ar61.keep K62 nin0)
      have Od_78 : Old Z n0 T62.heap := (Old.keep Od_64 K62 all0)
      obtain ⟨v67, T67, L67, X67, hQ67, st67⟩ := callV X62 hx hZ hown (hw _ (List.mem_of_getElem? (i := 54) rfl)) (hw _ (List.mem_of_getElem? (i := 55) rfl)) (hw _ (List.mem_of_getElem? (i := 57) rfl)) (hw _ (List.mem_of_getElem? (i := 56) rfl)) (hw _ (List.mem_of_getElem? (i := 2) rfl)) (hw _ (List.mem_of_getElem? (i := 58) rfl)) (notFace_of_selects (args := #[]) (mvT hZ (hw _ (List.mem_of_getElem? (i := 57) rfl)))) Ex_69 (by decide) (rm9 l Z a0 hw [] b5 (own_s p5 p2 p0) b61 b62 cs (0 : Int64) (0 : Int64) a61 (own_u ((own_s p5 (g0_78 p4) (g0_39 p4)).toUInt32.toUInt16.toUInt32.toInt32)) a62 (own_u ((own_s p5 (g0_88 p4) (g0_48 p4)).toUInt32.toUInt16.toUInt32.toInt32)) T62.heap n0 Zs_68 Ex_69 F_70 F_71 Ex_72 F_73 F_74 F_75 F_76 Ar_77 Es62 Fv62 Fc62 Fh62 Fz62 Ar62 Od_78 S_cs ge233_b5 gb61 gb62 ne_b5_b61 ne_b5_b62 ne_b61_b62 ne_b61_a62 hcs) rfl (W := 0) (by decide) (by decide) (by decide) (by decide) (g := (mkF m 255 #[.val (.int p0), .val (.int p1), .val (.int (own_s p5 p2 p0)), .val (.int (own_s p5 p3 p1)), .val (.int p4), .val (.int p5), .val (.int (g0_6 p5)), .val (.int (g0_16 p5)), .val (.int z135_l8), .val (.int (g0_39 p4)), .val (.int (g0_48 p4)), .val (.int (g0_58 p4)), .val (.int (g0_68 p4)), .val (.int (own_s p5 (g0_78 p4) (g0_39 p4))), .val (.int (own_s p5 (g0_88 p4) (g0_48 p4))), .val (.int (own_s p5 (g0_98 p4) (g0_58 p4))), .val (.int (own_s p5 (g0_108 p4) (g0_68 p4))), .val (.ref b2), .val (.ref b5), .val (.long z233_l19), .second, .val (.long (0 : Int64)), .second, .unset] [(.ref b62), (.ref b61), .null, (.int (own_s p5 p2 p0)), (.ref b5)])) rfl (by rw [hml]; rfl) (argsL := [(.int (own_s p5 p2 p0)), .null, (.ref b61), (.ref b62)]) (rest := []) rfl (lenOf pd_9 rfl) rfl (by show 2 * 0 + _ ≤ _; exact Nat.le_of_eq rfl) (hb hby at_255)
      obtain ⟨rfl, Nq67, K67, Fr67, Fk67⟩ := hQ67
      rw [own_hx (own_ss (p5 := p5) (show small (g0_78 p4) from own_sm _) (show small (g0_39 p4) from own_sm _)), own_hx (own_ss (p5 := p5) (show small (g0_88 p4) from own_sm _) (show small (g0_48 p4) from own_sm _))] at Fk67
      have N67 := Fr.app N62 Nq67
      have Fq67 : Fld Z T67.heap b5 "com/example/framewire/framewire/bench/Tally" "checksum" "J" (.long (g0_255 p0 p2 p4 p5)) := Fk67
      refine Fini.st st67 ?_
      show Fini p e below s _ _ _ T67 (mkF m 258 #[.val (.int p0), .val (.int p1), .val (.int (own_s p5 p2 p0)), .val (.int (own_s p5 p3 p1)), .val (.int p4), .val (.int p5), .val (.int (g0_6 p5)), .val (.int (g0_16 p5)), .val (.int z135_l8), .val (.int (g0_39 p4)), .val (.int (g0_48 p4)), .val (.int (g0_58 p4)), .val (.int (g0_68 p4)), .val (.int (own_s p5 (g0_78 p4) (g0_39 p4))), .val (.int (own_s p5 (g0_88 p4) (g0_48 p4))), .val (.int (own_s p5 (g0_98 p4) (g0_58 p4))), .val (.int (own_s p5 (g0_108 p4) (g0_68 p4))), .val (.ref b2), .val (.ref b5), .val (.long z233_l19), .second, .val (.long (0 : Int64)), .second, .unset] [])
      refine Fini.st (fun _ k => XS.lload X67.here hx rfl (hb hby at_258) rfl k) ?_
      show Fini p e below s _ _ _ T67 (mkF m 260 #[.val (.int p0), .val (.int p1), .val (.int (own_s p5 p2 p0)), .val (.int (own_s p5 p3 p1)), .val (.int p4), .val (.int p5), .val (.int (g0_6 p5)), .val (.int (g0_16 p5)), .val (.int z135_l8), .val (.int (g0_39 p4)), .val (.int (g0_48 p4)), .val (.int (g0_58 p4)), .val (.int (g0_68 p4)), .val (.int (own_s p5 (g0_78 p4) (g0_39 p4))), .val (.int (own_s p5 (g0_88 p4) (g0_48 p4))), .val (.int (own_s p5 (g0_98 p4) (g0_58 p4))), .val (.int (own_s p5 (g0_108 p4) (g0_68 p4))), .val (.ref b2), .val (.ref b5), .val (.long z233_l19), .second, .val (.long (0 : Int64)), .second, .unset] [(.long (0 : Int64))])
      refine Fini.st (fun _ k => XS.iloadN X67.here hx rfl (hb hby at_260) rfl k) ?_
      show Fini p e below s _ _ _ T67 (mkF m 261 #[.val (.int p0), .val (.int p1), .val (.int (own_s p5 p2 p0)), .val (.int (own_s p5 p3 p1)), .val (.int p4), .val (.int p5), .val (.int (g0_6 p5)), .val (.int (g0_16 p5)), .val (.int z135_l8), .val (.int (g0_39 p4)), .val (.int (g0_48 p4)), .val (.int (g0_58 p4)), .val (.int (g0_68 p4)), .val (.int (own_s p5 (g0_78 p4) (g0_39 p4))), .val (.int (own_s p5 (g0_88 p4) (g0_48 p4))), .val (.int (own_s p5 (g0_98 p4) (g0_58 p4))), .val (.int (own_s p5 (g0_108 p4) (g0_68 p4))), .val (.ref b2), .val (.ref b5), .val (.long z233_l19), .second, .val (.long (0 : Int64)), .second, .unset] [(.int (own_s p5 p2 p0)), (.long (0 : Int64))])
      refine Fini.st (fun _ k => XS.iload X67.here hx rfl (hb hby at_261) rfl k) ?_
      show Fini p e below s _ _ _ T67 (mkF m 263 #[.val (.int p0), .val (.int p1), .val (.int (own_s p5 p2 p0)), .val (.int (own_s p5 p3 p1)), .val (.int p4), .val (.int p5), .val (.int (g0_6 p5)), .val (.int (g0_16 p5)), .val (.int z135_l8), .val (.int (g0_39 p4)), .val (.int (g0_48 p4)), .val (.int (g0_58 p4)), .val (.int (g0_68 p4)), .val (.int (own_s p5 (g0_78 p4) (g0_39 p4))), .val (.int (own_s p5 (g0_88 p4) (g0_48 p4))), .val (.int (own_s p5 (g0_98 p4) (g0_58 p4))), .val (.int (own_s p5 (g0_108 p4) (g0_68 p4))), .val (.ref b2), .val (.ref b5), .val (.long z233_l19), .second, .val (.long (0 : Int64)), .second, .unset] [(.int (own_s p5 (g0_78 p4) (g0_39 p4))), (.int (own_s p5 p2 p0)), (.long (0 : Int64))])
      refine Fini.st (fun _ k => XS.iload X67.here hx rfl (hb hby at_263) rfl k) ?_
      show Fini p e below s _ _ _ T67 (mkF m 265 #[.val (.int p0), .val (.int p1), .val (.int (own_s p5 p2 p0)), .val (.int (own_s p5 p3 p1)), .val (.int p4), .val (.int p5), .val (.int (g0_6 p5)), .val (.int (g0_16 p5)), .val (.int z135_l8), .val (.int (g0_39 p4)), .val (.int (g0_48 p4)), .val (.int (g0_58 p4)), .val (.int (g0_68 p4)), .val (.int (own_s p5 (g0_78 p4) (g0_39 p4))), .val (.int (own_s p5 (g0_88 p4) (g0_48 p4))), .val (.int (own_s p5 (g0_98 p4) (g0_58 p4))), .val (.int (own_s p5 (g0_108 p4) (g0_68 p4))), .val (.ref b2), .val (.ref b5), .val (.long z233_l19), .second, .val (.long (0 : Int64)), .second, .unset] [(.int (own_s p5 (g0_88 p4) (g0_48 p4))), (.int (own_s p5 (g0_78 p4) (g0_39 p4))), (.int (own_s p5 p2 p0)), (.long (0 : Int64))])
      obtain ⟨T79, X79, e79, st79⟩ := pureS X67 hx hZ hown (hw _ (List.mem_of_getElem? (i := 77) rfl)) (hw _ (List.mem_of_getElem? (i := 78) rfl)) (hw _ (List.mem_of_getElem? (i := 79) rfl)) (hw _ (List.mem_of_getElem? (i := 80) rfl)) (by decide) (rm13 l Z a0 hw [] (0 : Int64) (own_s p5 p2 p0) (own_s p5 (g0_78 p4) (g0_39 p4)) (own_s p5 (g0_88 p4) (g0_48 p4)) T67.heap) rfl (W := 0) (by decide) (by decide) (by decide) (by decide) (g := (mkF m 265 #[.val (.int p0), .val (.int p1), .val (.int (own_s p5 p2 p0)), .val (.int (own_s p5 p3 p1)), .val (.int p4), .val (.int p5), .val (.int (g0_6 p5)), .val (.int (g0_16 p5)), .val (.int z135_l8), .val (.int (g0_39 p4)), .val (.int (g0_48 p4)), .val (.int (g0_58 p4)), .val (.int (g0_68 p4)), .val (.int (own_s p5 (g0_78 p4) (g0_39 p4))), .val (.int (own_s p5 (g0_88 p4) (g0_48 p4))), .val (.int (own_s p5 (g0_98 p4) (g0_58 p4))), .val (.int (own_s p5 (g0_108 p4) (g0_68 p4))), .val (.ref b2), .val (.ref b5), .val (.long z233_l19), .second, .val (.long (0 : Int64)), .second, .unset] [(.int (own_s p5 (g0_88 p4) (g0_48 p4))), (.int (own_s p5 (g0_78 p4) (g0_39 p4))), (.int (own_s p5 p2 p0)), (.long (0 : Int64))])) rfl (by rw [hml]; rfl) (argsL := [(.long (0 : Int64)), (.int (own_s p5 p2 p0)), (.int (own_s p5 (g0_78 p4) (g0_39 p4))), (.int (own_s p5 (g0_88 p4) (g0_48 p4)))]) (rest := []) rfl (lenOf pd_10 rfl) rfl (by show 2 * 0 + _ ≤ _; exact Nat.le_of_eq rfl) (hb hby at_265)
      refine Fini.st st79 ?_
      show Fini p e below s _ _ _ T79 (mkF m 268 #[.val (.int p0), .val (.int p1), .val (.int (own_s p5 p2 p0)), .val (.int (own_s p5 p3 p1)), .val (.int p4), .val (.int p5), .val (.int (g0_6 p5)), .val (.int (g0_16 p5)), .val (.int z135_l8), .val (.int (g0_39 p4)), .val (.int (g0_48 p4)), .val (.int (g0_58 p4)), .val (.int (g0_68 p4)), .val (.int (own_s p5 (g0_78 p4) (g0_39 p4))), .val (.int (own_s p5 (g0_88 p4) (g0_48 p4))), .val (.int (own_s p5 (g0_98 p4) (g0_58 p4))), .val (.int (own_s p5 (g0_108 p4) (g0_68 p4))), .val (.ref b2), .val (.ref b5), .val (.long z233_l19), .second, .val (.long (0 : Int64)), .second, .unset] [(.long (f13 (0 : Int64) (own_s p5 p2 p0) (own_s p5 (g0_78 p4) (g0_39 p4)) (own_s p5 (g0_88 p4) (g0_48 p4))))])
      refine Fini.st (fun _ k => XS.lstore X79.here hx rfl (hb hby at_268) rfl (l' := #[.val (.int p0), .val (.int p1), .val (.int (own_s p5 p2 p0)), .val (.int (own_s p5 p3 p1)), .val (.int p4), .val (.int p5), .val (.int (g0_6 p5)), .val (.int (g0_16 p5)), .val (.int z135_l8), .val (.int (g0_39 p4)), .val (.int (g0_48 p4)), .val (.int (g0_58 p4)), .val (.int (g0_68 p4)), .val (.int (own_s p5 (g0_78 p4) (g0_39 p4))), .val (.int (own_s p5 (g0_88 p4) (g0_48 p4))), .val (.int (own_s p5 (g0_98 p4) (g0_58 p4))), .val (.int (own_s p5 (g0_108 p4) (g0_68 p4))), .val (.ref b2), .val (.ref b5), .val (.long z233_l19), .second, .val (.long (g0_255 p0 p2 p4 p5)), .second, .unset]) rfl k) ?_
      show Fini p e below s _ _ _ T79 (mkF m 270 #[.val (.int p0), .val (.int p1), .val (.int (own_s p5 p2 p0)), .val (.int (own_s p5 p3 p1)), .val (.int p4), .val (.int p5), .val (.int (g0_6 p5)), .val (.int (g0_16 p5)), .val (.int z135_l8), .val (.int (g0_39 p4)), .val (.int (g0_48 p4)), .val (.int (g0_58 p4)), .val (.int (g0_68 p4)), .val (.int (own_s p5 (g0_78 p4) (g0_39 p4))), .val (.int (own_s p5 (g0_88 p4) (g0_48 p4))), .val (.int (own_s p5 (g0_98 p4) (g0_58 p4))), .val (.int (own_s p5 (g0_108 p4) (g0_68 p4))), .val (.ref b2), .val (.ref b5), .val (.long z233_l19), .second, .val (.long (g0_255 p0 p2 p4 p5)), .second, .unset] [])
      have Fn80 : Fld Z T67.heap b5 "com/example/framewire/framewire/bench/Tally" "frames" "J" (.long (own_n1 (g0_16 p5))) := by rw [show own_n1 (g0_16 p5) = ((0 : Int64) + (1 : Int64)) from if_neg c59]; exact Fr67
      have Od_118 : Old Z n0 T67.heap := (Old.keep Od_78 K67 (allS (P := fun x => n0 ≤ x) ge233_b5 (allS (P := fun x => n0 ≤ x) gb61 (allS (P := fun x => n0 ≤ x) gb62 all0))))
      have Zs_119 : n0 ≤ T67.heap.size := (Nat.le_trans Zs_68 K67.1)
      have Ex_120 : Exa Z T67.heap b2 "com/example/framewire/framewire/bench/Tally" := ((Ex_65.keep K62).keep K67)
      have F_121 : Fld Z T67.heap b2 "com/example/framewire/framewire/bench/Tally" "frames" "J" (.long (own_n2 (g0_6 p5))) := (((H233_F_b2_frames.keep K61 nin0).keep K62 nin0).keep K67 (ninS ne233_b2_b5 (ninS ne_b2_b61 (ninS ne_b2_b62 nin0))))
      have F_122 : Fld Z T67.heap b2 "com/example/framewire/framewire/bench/Tally" "checksum" "J" (.long z233_l19) := (((H233_F_b2_checksum.keep K61 nin0).keep K62 nin0).keep K67 (ninS ne233_b2_b5 (ninS ne_b2_b61 (ninS ne_b2_b62 nin0))))
      have Ex_123 : Exa Z T67.heap b5 "com/example/framewire/framewire/bench/Tally" := (Ex_69.keep K67)
      exact B270 T79 _ _ (X79.more (cells' := 14) (slots' := 34) (by decide) (by decide)) e79 b2 b5 (g0_255 p0 p2 p4 p5) z135_l8 z233_l19 N67 Od_118 H233_S_java_lang_String_COMPACT_STRINGS H233_S_java_lang_Integer_IntegerCache_high H233_S_java_lang_Integer_IntegerCache_cache Zs_119 Ex_120 F_121 F_122 Ex_123 Fn80 Fq67 ne233_b2_b5 ge233_b2 ge233_b5
  have B196 : ∀ (T_196 : State) (h_196 : Heap) (locs : List Loc) (X_196 : Stand p l e room_1 s m #[(.int p0), (.int p1), (.int p2), (.int p3), (.int p4), (.int p5)] below meth c T_196 locs 6 14) (e_196 : T_196.heap = h_196) (b2 : Addr) (b5 : Addr) (z196_l19 : Int64) (z135_l8 : Int32) (N_196 : Fr n0 locs) (H196_D : Old Z n0 h_196) (H196_S_java_lang_String_COMPACT_STRINGS : Sta Z Z.heap "java/lang/String" "COMPACT_STRINGS" "Z" (.int cs)) (H196_S_java_lang_Integer_IntegerCache_high : Sta Z Z.heap "java/lang/Integer$IntegerCache" "high" "I" (.int (127 : Int32))) (H196_S_java_lang_Integer_IntegerCache_cache : Sta Z Z.heap "java/lang/Integer$IntegerCache" "cache" "[Ljava/lang/Integer;" (.ref ca)) (H196_Z : n0 ≤ h_196.size) (H196_E_b2 : Exa Z h_196 b2 "com/example/framewire/framewire/bench/Tally") (H196_F_b2_frames : Fld Z h_196 b2 "com/example/framewire/framewire/bench/Tally" "frames" "J" (.long (own_n1 (g0_6 p5)))) (H196_F_b2_checksum : Fld Z h_196 b2 "com/example/framewire/framewire/bench/Tally" "checksum" "J" (.long z196_l19)) (H196_E_b5 : Exa Z h_196 b5 "com/example/framewire/framewire/bench/Tally") (H196_F_b5_frames : Fld Z h_196 b5 "com/example/framewire/framewire/bench/Tally" "frames" "J" (.long (0 : Int64))) (H196_F_b5_checksum : Fld Z h_196 b5 "com/example/framewire/framewire/bench/Tally" "checksum" "J" (.long (0 : Int64))) (ne196_b2_b5 : b2 ≠ b5) (ge196_b2 : n0 ≤ b2) (ge196_b5 : n0 ≤ b5), Fini p e below s (fun v h' L => v = some (.int 1) ∧ Fr n0 L) (Room.cells room_1) (Room.slots room_1) T_196 (mkF m 196 #[.val (.int p0), .val (.int p1), .val (.int (own_s p5 p2 p0)), .val (.int (own_s p5 p3 p1)), .val (.int p4), .val (.int p5), .val (.int (g0_6 p5)), .val (.int (g0_16 p5)), .val (.int z135_l8), .val (.int (g0_39 p4)), .val (.int (g0_48 p4)), .val (.int (g0_58 p4)), .val (.int (g0_68 p4)), .val (.int (own_s p5 (g0_78 p4) (g0_39 p4))), .val (.int (own_s p5 (g0_88 p4) (g0_48 p4))), .val (.int (own_s p5 (g0_98 p4) (g0_58 p4))), .val (.int (own_s p5 (g0_108 p4) (g0_68 p4))), .val (.ref b2), .val (.ref b5), .val (.long z196_l19), .second, .val (.long (0 : Int64)), .second, .unset] []) := by
    intro T_196 h_196 locs  X_196 e_196  b2 b5 z196_l19 z135_l8 N_196 H196_D H196_S_java_lang_String_COMPACT_STRINGS H196_S_java_lang_Integer_IntegerCache_high H196_S_java_lang_Integer_IntegerCache_cache H196_Z H196_E_b2 H196_F_b2_frames H196_F_b2_checksum H196_E_b5 H196_F_b5_frames H196_F_b5_checksum ne196_b2_b5 ge196_b2 ge196_b5
    refine Fini.st (fun _ k => XS.iload X_196.here hx rfl (hb hby at_196) rfl k) ?_
    show Fini p e below s _ _ _ T_196 (mkF m 198 #[.val (.int p0), .val (.int p1), .val (.int (own_s p5 p2 p0)), .val (.int (own_s p5 p3 p1)), .val (.int p4), .val (.int p5), .val (.int (g0_6 p5)), .val (.int (g0_16 p5)), .val (.int z135_l8), .val (.int (g0_39 p4)), .val (.int (g0_48 p4)), .val (.int (g0_58 p4)), .val (.int (g0_68 p4)), .val (.int (own_s p5 (g0_78 p4) (g0_39 p4))), .val (.int (own_s p5 (g0_88 p4) (g0_48 p4))), .val (.int (own_s p5 (g0_98 p4) (g0_58 p4))), .val (.int (own_s p5 (g0_108 p4) (g0_68 p4))), .val (.ref b2), .val (.ref b5), .val (.long z196_l19), .second, .val (.long (0 : Int64)), .second, .unset] [(.int (g0_6 p5))])
    refine Fini.st (fun _ k => XS.iconst X_196.here hx rfl (hb hby at_198) k) ?_
    show Fini p e below s _ _ _ T_196 (mkF m 199 #[.val (.int p0), .val (.int p1), .val (.int (own_s p5 p2 p0)), .val (.int (own_s p5 p3 p1)), .val (.int p4), .val (.int p5), .val (.int (g0_6 p5)), .val (.int (g0_16 p5)), .val (.int z135_l8), .val (.int (g0_39 p4)), .val (.int (g0_48 p4)), .val (.int (g0_58 p4)), .val (.int (g0_68 p4)), .val (.int (own_s p5 (g0_78 p4) (g0_39 p4))), .val (.int (own_s p5 (g0_88 p4) (g0_48 p4))), .val (.int (own_s p5 (g0_98 p4) (g0_58 p4))), .val (.int (own_s p5 (g0_108 p4) (g0_68 p4))), .val (.ref b2), .val (.ref b5), .val (.long z196_l19), .second, .val (.long (0 : Int64)), .second, .unset] [(.int (2 : Int32)), (.int (g0_6 p5))])
    by_cases c37 : (g0_6 p5) < (2 : Int32)
    · skip
      refine Fini.st (fun _ k => XS.icmpYes X_196.here hx rfl (pc0 := 199) (pc' := 233) rfl (hb hby at_199) rfl (XT.ii_lt_t c37) (by decide) (by decide) k) ?_
      show Fini p e below s _ _ _ T_196 (mkF m 233 #[.val (.int p0), .val (.int p1), .val (.int (own_s p5 p2 p0)), .val (.int (own_s p5 p3 p1)), .val (.int p4), .val (.int p5), .val (.int (g0_6 p5)), .val (.int (g0_16 p5)), .val (.int z135_l8), .val (.int (g0_39 p4)), .val (.int (g0_48 p4)), .val (.int (g0_58 p4)), .val (.int (g0_68 p4)), .val (.int (own_s p5 (g0_78 p4) (g0_39 p4))), .val (.int (own_s p5 (g0_88 p4) (g0_48 p4))), .val (.int (own_s p5 (g0_98 p4) (g0_58 p4))), .val (.int (own_s p5 (g0_108 p4) (g0_68 p4))), .val (.ref b2), .val (.ref b5), .val (.long z196_l19), .second, .val (.long (0 : Int64)), .second, .unset] [])
      have Fn38 : Fld Z h_196 b2 "com/example/framewire/framewire/bench/Tally" "frames" "J" (.long (own_n2 (g0_6 p5))) := by rw [show own_n2 (g0_6 p5) = (own_n1 (g0_6 p5)) from if_pos c37]; exact H196_F_b2_frames
      exact B233 T_196 _ _ (X_196.more (cells' := 10) (slots' := 24) (by decide) (by decide)) e_196 b2 b5 z196_l19 z135_l8 N_196 H196_D H196_S_java_lang_String_COMPACT_STRINGS H196_S_java_lang_Integer_IntegerCache_high H196_S_java_lang_Integer_IntegerCache_cache H196_Z H196_E_b2 Fn38 H196_F_b2_checksum H196_E_b5 H196_F_b5_frames H196_F_b5_checksum ne196_b2_b5 ge196_b2 ge196_b5
    · skip
      refine Fini.st (fun _ k => XS.icmpNo X_196.here hx rfl (hb hby at_199) rfl (XT.ii_lt_f c37) k) ?_
      show Fini p e below s _ _ _ T_196 (mkF m 202 #[.val (.int p0), .val (.int p1), .val (.int (own_s p5 p2 p0)), .val (.int (own_s p5 p3 p1)), .val (.int p4), .val (.int p5), .val (.int (g0_6 p5)), .val (.int (g0_16 p5)), .val (.int z135_l8), .val (.int (g0_39 p4)), .val (.int (g0_48 p4)), .val (.int (g0_58 p4)), .val (.int (g0_68 p4)), .val (.int (own_s p5 (g0_78 p4) (g0_39 p4))), .val (.int (own_s p5 (g0_88 p4) (g0_48 p4))), .val (.int (own_s p5 (g0_98 p4) (g0_58 p4))), .val (.int (own_s p5 (g0_108 p4) (g0_68 p4))), .val (.ref b2), .val (.ref b5), .val (.long z196_l19), .second, .val (.long (0 : Int64)), .second, .unset] [])
      refine Fini.st (fun _ k => XS.aload X_196.here hx rfl (hb hby at_202) rfl rfl k) ?_
      show Fini p e below s _ _ _ T_196 (mkF m 204 #[.val (.int p0), .val (.int p1), .val (.int (own_s p5 p2 p0)), .val (.int (own_s p5 p3 p1)), .val (.int p4), .val (.int p5), .val (.int (g0_6 p5)), .val (.int (g0_16 p5)), .val (.int z135_l8), .val (.int (g0_39 p4)), .val (.int (g0_48 p4)), .val (.int (g0_58 p4)), .val (.int (g0_68 p4)), .val (.int (own_s p5 (g0_78 p4) (g0_39 p4))), .val (.int (own_s p5 (g0_88 p4) (g0_48 p4))), .val (.int (own_s p5 (g0_98 p4) (g0_58 p4))), .val (.int (own_s p5 (g0_108 p4) (g0_68 p4))), .val (.ref b2), .val (.ref b5), .val (.long z196_l19), .second, .val (.long (0 : Int64)), .second, .unset] [(.ref b2)])
      refine Fini.st (fun _ k => XS.iloadN X_196.here hx rfl (hb hby at_204) rfl k) ?_
      show Fini p e below s _ _ _ T_196 (mkF m 205 #[.val (.int p0), .val (.int p1), .val (.int (own_s p5 p2 p0)), .val (.int (own_s p5 p3 p1)), .val (.int p4), .val (.int p5), .val (.int (g0_6 p5)), .val (.int (g0_16 p5)), .val (.int z135_l8), .val (.int (g0_39 p4)), .val (.int (g0_48 p4)), .val (.int (g0_58 p4)), .val (.int (g0_68 p4)), .val (.int (own_s p5 (g0_78 p4) (g0_39 p4))), .val (.int (own_s p5 (g0_88 p4) (g0_48 p4))), .val (.int (own_s p5 (g0_98 p4) (g0_58 p4))), .val (.int (own_s p5 (g0_108 p4) (g0_68 p4))), .val (.ref b2), .val (.ref b5), .val (.long z196_l19), .second, .val (.long (0 : Int64)), .second, .unset] [(.int p1), (.ref b2)])
      refine Fini.st (fun _ k => XS.aconstNull X_196.here hx rfl (hb hby at_205) k) ?_
      show Fini p e below s _ _ _ T_196 (mkF m 206 #[.val (.int p0), .val (.int p1), .val (.int (own_s p5 p2 p0)), .val (.int (own_s p5 p3 p1)), .val (.int p4), .val (.int p5), .val (.int (g0_6 p5)), .val (.int (g0_16 p5)), .val (.int z135_l8), .val (.int (g0_39 p4)), .val (.int (g0_48 p4)), .val (.int (g0_58 p4)), .val (.int (g0_68 p4)), .val (.int (own_s p5 (g0_78 p4) (g0_39 p4))), .val (.int (own_s p5 (g0_88 p4) (g0_48 p4))), .val (.int (own_s p5 (g0_98 p4) (g0_58 p4))), .val (.int (own_s p5 (g0_108 p4) (g0_68 p4))), .val (.ref b2), .val (.ref b5), .val (.long z196_l19), .second, .val (.long (0 : Int64)), .second, .unset] [.null, (.int p1), (.ref b2)])
      refine Fini.st (fun _ k => XS.iload X_196.here hx rfl (hb hby at_206) rfl k) ?_
      show Fini p e below s _ _ _ T_196 (mkF m 208 #[.val (.int p0), .val (.int p1), .val (.int (own_s p5 p2 p0)), .val (.int (own_s p5 p3 p1)), .val (.int p4), .val (.int p5), .val (.int (g0_6 p5)), .val (.int (g0_16 p5)), .val (.int z135_l8), .val (.int (g0_39 p4)), .val (.int (g0_48 p4)), .val (.int (g0_58 p4)), .val (.int (g0_68 p4)), .val (.int (own_s p5 (g0_78 p4) (g0_39 p4))), .val (.int (own_s p5 (g0_88 p4) (g0_48 p4))), .val (.int (own_s p5 (g0_98 p4) (g0_58 p4))), .val (.int (own_s p5 (g0_108 p4) (g0_68 p4))), .val (.ref b2), .val (.ref b5), .val (.long z196_l19), .second, .val (.long (0 : Int64)), .second, .unset] [(.int (g0_58 p4)), .null, (.int p1), (.ref b2)])
      refine Fini.st (fun _ k => XS.i2c X_196.here hx rfl (hb hby at_208) rfl k) ?_
      show Fini p e below s _ _ _ T_196 (mkF m 209 #[.val (.int p0), .val (.int p1), .val (.int (own_s p5 p2 p0)), .val (.int (own_s p5 p3 p1)), .val (.int p4), .val (.int p5), .val (.int (g0_6 p5)), .val (.int (g0_16 p5)), .val (.int z135_l8), .val (.int (g0_39 p4)), .val (.int (g0_48 p4)), .val (.int (g0_58 p4)), .val (.int (g0_68 p4)), .val (.int (own_s p5 (g0_78 p4) (g0_39 p4))), .val (.int (own_s p5 (g0_88 p4) (g0_48 p4))), .val (.int (own_s p5 (g0_98 p4) (g0_58 p4))), .val (.int (own_s p5 (g0_108 p4) (g0_68 p4))), .val (.ref b2), .val (.ref b5), .val (.long z196_l19), .second, .val (.long (0 : Int64)), .second, .unset] [(.int (g0_58 p4).toUInt32.toUInt16.toUInt32.toInt32), .null, (.int p1), (.ref b2)])
      obtain ⟨v39, T39, L39, X39, hQ39, st39⟩ := callQ X_196 hx hZ hown (hw _ (List.mem_of_getElem? (i := 30) rfl)) (hw _ (List.mem_of_getElem? (i := 31) rfl)) (hw _ (List.mem_of_getElem? (i := 32) rfl)) (hw _ (List.mem_of_getElem? (i := 33) rfl)) (by decide) (rm5 l Z a0 hw [] ((g0_58 p4).toUInt32.toUInt16.toUInt32.toInt32) cs h_196 n0 H196_Z H196_D S_cs hcs (own_c (show small (g0_58 p4) from own_sm _))) e_196 (W := 3) (by decide) (by decide) (by decide) (by decide) (g := (mkF m 209 #[.val (.int p0), .val (.int p1), .val (.int (own_s p5 p2 p0)), .val (.int (own_s p5 p3 p1)), .val (.int p4), .val (.int p5), .val (.int (g0_6 p5)), .val (.int (g0_16 p5)), .val (.int z135_l8), .val (.int (g0_39 p4)), .val (.int (g0_48 p4)), .val (.int (g0_58 p4)), .val (.int (g0_68 p4)), .val (.int (own_s p5 (g0_78 p4) (g0_39 p4))), .val (.int (own_s p5 (g0_88 p4) (g0_48 p4))), .val (.int (own_s p5 (g0_98 p4) (g0_58 p4))), .val (.int (own_s p5 (g0_108 p4) (g0_68 p4))), .val (.ref b2), .val (.ref b5), .val (.long z196_l19), .second, .val (.long (0 : Int64)), .second, .unset] [(.int (g0_58 p4).toUInt32.toUInt16.toUInt32.toInt32), .null, (.int p1), (.ref b2)])) rfl (by rw [hml]; rfl) (argsL := [(.int (g0_58 p4).toUInt32.toUInt16.toUInt32.toInt32)]) (rest := [.null, (.int p1), (.ref b2)]) rfl (lenOf pd_8 rfl) rfl (by show 2 * 0 + _ ≤ _; exact Nat.le_of_eq rfl) (hb hby at_209)
      obtain ⟨b39, a39, rfl, Nq39, K39, sb39, sa39, gb39, ga39, nb39, Es39, Fv39, Fc39, Fh39, Fz39, Ar39⟩ := hQ39
      have ne_b2_b39 : b2 ≠ b39 := Nat.ne_of_lt (Nat.lt_of_lt_of_le H196_E_b2.lt sb39)
      have ne_b5_b39 : b5 ≠ b39 := Nat.ne_of_lt (Nat.lt_of_lt_of_le H196_E_b5.lt sb39)
      have ne_b2_a39 : b2 ≠ a39 := Nat.ne_of_lt (Nat.lt_of_lt_of_le H196_E_b2.lt sa39)
      have ne_b5_a39 : b5 ≠ a39 := Nat.ne_of_lt (Nat.lt_of_lt_of_le H196_E_b5.lt sa39)
      have N39 := Fr.app N_196 Nq39
      refine Fini.st st39 ?_
      show Fini p e below s _ _ _ T39 (mkF m 212 #[.val (.int p0), .val (.int p1), .val (.int (own_s p5 p2 p0)), .val (.int (own_s p5 p3 p1)), .val (.int p4), .val (.int p5), .val (.int (g0_6 p5)), .val (.int (g0_16 p5)), .val (.int z135_l8), .val (.int (g0_39 p4)), .val (.int (g0_48 p4)), .val (.int (g0_58 p4)), .val (.int (g0_68 p4)), .val (.int (own_s p5 (g0_78 p4) (g0_39 p4))), .val (.int (own_s p5 (g0_88 p4) (g0_48 p4))), .val (.int (own_s p5 (g0_98 p4) (g0_58 p4))), .val (.int (own_s p5 (g0_108 p4) (g0_68 p4))), .val (.ref b2), .val (.ref b5), .val (.long z196_l19), .second, .val (.long (0 : Int64)), .second, .unset] [(.ref b39), .null, (.int p1), (.ref b2)])
      refine Fini.st (fun _ k => XS.iload X39.here hx rfl (hb hby at_212) rfl k) ?_
      show Fini p e below s _ _ _ T39 (mkF m 214 #[.val (.int p0), .val (.int p1), .val (.int (own_s p5 p2 p0)), .val (.int (own_s p5 p3 p1)), .val (.int p4), .val (.int p5), .val (.int (g0_6 p5)), .val (.int (g0_16 p5)), .val (.int z135_l8), .val (.int (g0_39 p4)), .val (.int (g0_48 p4)), .val (.int (g0_58 p4)), .val (.int (g0_68 p4)), .val (.int (own_s p5 (g0_78 p4) (g0_39 p4))), .val (.int (own_s p5 (g0_88 p4) (g0_48 p4))), .val (.int (own_s p5 (g0_98 p4) (g0_58 p4))), .val (.int (own_s p5 (g0_108 p4) (g0_68 p4))), .val (.ref b2), .val (.ref b5), .val (.long z196_l19), .second, .val (.long (0 : Int64)), .second, .unset] [(.int (g0_68 p4)), (.ref b39), .null, (.int p1), (.ref b2)])
      refine Fini.st (fun _ k => XS.i2c X39.here hx rfl (hb hby at_214) rfl k) ?_
      show Fini p e below s _ _ _ T39 (mkF m 215 #[.val (.int p0), .val (.int p1), .val (.int (own_s p5 p2 p0)), .val (.int (own_s p5 p3 p1)), .val (.int p4), .val (.int p5), .val (.int (g0_6 p5)), .val (.int (g0_16 p5)), .val (.int z135_l8), .val (.int (g0_39 p4)), .val (.int (g0_48 p4)), .val (.int (g0_58 p4)), .val (.int (g0_68 p4)), .val (.int (own_s p5 (g0_78 p4) (g0_39 p4))), .val (.int (own_s p5 (g0_88 p4) (g0_48 p4))), .val (.int (own_s p5 (g0_98 p4) (g0_58 p4))), .val (.int (own_s p5 (g0_108 p4) (g0_68 p4))), .val (.ref b2), .val (.ref b5), .val (.long z196_l19), .second, .val (.long (0 : Int64)), .second, .unset] [(.int (g0_68 p4).toUInt32.toUInt16.toUInt32.toInt32), (.ref b39), .null, (.int p1), (.ref b2)])
      have Zs_41 : n0 ≤ T39.heap.size := (Nat.le_trans H196_Z K39.1)
      have Od_42 : Old Z n0 T39.heap := (Old.keep H196_D K39 all0)
      obtain ⟨v40, T40, L40, X40, hQ40, st40⟩ := callQ X39 hx hZ hown (hw _ (List.mem_of_getElem? (i := 30) rfl)) (hw _ (List.mem_of_getElem? (i := 31) rfl)) (hw _ (List.mem_of_getElem? (i := 32) rfl)) (hw _ (List.mem_of_getElem? (i := 33) rfl)) (by decide) (rm5 l Z a0 hw [] ((g0_68 p4).toUInt32.toUInt16.toUInt32.toInt32) cs T39.heap n0 Zs_41 Od_42 S_cs hcs (own_c (show small (g0_68 p4) from own_sm _))) rfl (W := 4) (by decide) (by decide) (by decide) (by decide) (g := (mkF m 215 #[.val (.int p0), .val (.int p1), .val (.int (own_s p5 p2 p0)), .val (.int (own_s p5 p3 p1)), .val (.int p4), .val (.int p5), .val (.int (g0_6 p5)), .val (.int (g0_16 p5)), .val (.int z135_l8), .val (.int (g0_39 p4)), .val (.int (g0_48 p4)), .val (.int (g0_58 p4)), .val (.int (g0_68 p4)), .val (.int (own_s p5 (g0_78 p4) (g0_39 p4))), .val (.int (own_s p5 (g0_88 p4) (g0_48 p4))), .val (.int (own_s p5 (g0_98 p4) (g0_58 p4))), .val (.int (own_s p5 (g0_108 p4) (g0_68 p4))), .val (.ref b2), .val (.ref b5), .val (.long z196_l19), .second, .val (.long (0 : Int64)), .second, .unset] [(.int (g0_68 p4).toUInt32.toUInt16.toUInt32.toInt32), (.ref b39), .null, (.int p1), (.ref b2)])) rfl (by rw [hml]; rfl) (argsL := [(.int (g0_68 p4).toUInt32.toUInt16.toUInt32.toInt32)]) (rest := [(.ref b39), .null, (.int p1), (.ref b2)]) rfl (lenOf pd_8 rfl) rfl (by show 2 * 0 + _ ≤ _; exact Nat.le_of_eq rfl) (hb hby at_215)
      obtain ⟨b40, a40, rfl, Nq40, K40, sb40, sa40, gb40, ga40, nb40, Es40, Fv40, Fc40, Fh40, Fz40, Ar40⟩ := hQ40
      have Ex_43 : Exa Z T39.heap b2 "com/example/framewire/framewire/bench/Tally" := (H196_E_b2.keep K39)
      have ne_b2_b40 : b2 ≠ b40 := Nat.ne_of_lt (Nat.lt_of_lt_of_le Ex_43.lt sb40)
      have Ex_44 : Exa Z T39.heap b5 "com/example/framewire/framewire/bench/Tally" := (H196_E_b5.keep K39)
      have ne_b5_b40 : b5 ≠ b40 := Nat.ne_of_lt (Nat.lt_of_lt_of_le Ex_44.lt sb40)
      have ne_b39_b40 : b39 ≠ b40 := Nat.ne_of_lt (Nat.lt_of_lt_of_le Es39.lt sb40)
      have ne_a39_b40 : a39 ≠ b40 := Nat.ne_of_lt (Nat.lt_of_lt_of_le Ar39.lt sb40)
      have ne_b2_a40 : b2 ≠ a40 := Nat.ne_of_lt (Nat.lt_of_lt_of_le Ex_43.lt sa40)
      have ne_b5_a40 : b5 ≠ a40 := Nat.ne_of_lt (Nat.lt_of_lt_of_le Ex_44.lt sa40)
      have ne_b39_a40 : b39 ≠ a40 := Nat.ne_of_lt (Nat.lt_of_lt_of_le Es39.lt sa40)
      have ne_a39_a40 : a39 ≠ a40 := Nat.ne_of_lt (Nat.lt_of_lt_of_le Ar39.lt sa40)
      have N40 := Fr.app N39 Nq40
      refine Fini.st st40 ?_
      show Fini p e below s _ _ _ T40 (mkF m 218 #[.val (.int p0), .val (.int p1), .val (.int (own_s p5 p2 p0)), .val (.int (own_s p5 p3 p1)), .val (.int p4), .val (.int p5), .val (.int (g0_6 p5)), .val (.int (g0_16 p5)), .val (.int z135_l8), .val (.int (g0_39 p4)), .val (.int (g0_48 p4)), .val (.int (g0_58 p4)), .val (.int (g0_68 p4)), .val (.int (own_s p5 (g0_78 p4) (g0_39 p4))), .val (.int (own_s p5 (g0_88 p4) (g0_48 p4))), .val (.int (own_s p5 (g0_98 p4) (g0_58 p4))), .val (.int (own_s p5 (g0_108 p4) (g0_68 p4))), .val (.ref b2), .val (.ref b5), .val (.long z196_l19), .second, .val (.long (0 : Int64)), .second, .unset] [(.ref b40), (.ref b39), .null, (.int p1), (.ref b2)])
      have Zs_46 : n0 ≤ T40.heap.size := (Nat.le_trans Zs_41 K40.1)
      have Ex_47 : Exa Z T40.heap b2 "com/example/framewire/framewire/bench/Tally" := (Ex_43.keep K40)
      have F_48 : Fld Z T40.heap b2 "com/example/framewire/framewire/bench/Tally" "frames" "J" (.long (own_n1 (g0_6 p5))) := ((H196_F_b2_frames.keep K39 nin0).keep K40 nin0)
      have F_49 : Fld Z T40.heap b2 "com/example/framewire/framewire/bench/Tally" "checksum" "J" (.long z196_l19) := ((H196_F_b2_checksum.keep K39 nin0).keep K40 nin0)
      have Ex_50 : Exa Z T40.heap b39 "java/lang/String" := (Es39.keep K40)
      have F_51 : Fld Z T40.heap b39 "java/lang/String" "value" "[B" (.ref a39) := (Fv39.keep K40 nin0)
      have F_52 : Fld Z T40.heap b39 "java/lang/String" "coder" "B" (.int (0 : Int32)) := (Fc39.keep K40 nin0)
      have F_53 : Fld Z T40.heap b39 "java/lang/String" "hash" "I" (.int (0 : Int32)) := (Fh39.keep K40 nin0)
      have F_54 : Fld Z T40.heap b39 "java/lang/String" "hashIsZero" "Z" (.int (0 : Int32)) := (Fz39.keep K40 nin0)
      have Ar_55 : AryI Z T40.heap a39 .byte (1 : Int32) (own_u ((g0_58 p4).toUInt32.toUInt16.toUInt32.toInt32)) := (Ar39.keep K40 nin0)
      have Od_56 : Old Z n0 T40.heap := (Old.keep Od_42 K40 all0)
      obtain ⟨v45, T45, L45, X45, hQ45, st45⟩ := callV X40 hx hZ hown (hw _ (List.mem_of_getElem? (i := 54) rfl)) (hw _ (List.mem_of_getElem? (i := 55) rfl)) (hw _ (List.mem_of_getElem? (i := 57) rfl)) (hw _ (List.mem_of_getElem? (i := 56) rfl)) (hw _ (List.mem_of_getElem? (i := 2) rfl)) (hw _ (List.mem_of_getElem? (i := 58) rfl)) (notFace_of_selects (args := #[]) (mvT hZ (hw _ (List.mem_of_getElem? (i := 57) rfl)))) Ex_47 (by decide) (rm9 l Z a0 hw [] b2 p1 b39 b40 cs (own_n1 (g0_6 p5)) z196_l19 a39 (own_u ((g0_58 p4).toUInt32.toUInt16.toUInt32.toInt32)) a40 (own_u ((g0_68 p4).toUInt32.toUInt16.toUInt32.toInt32)) T40.heap n0 Zs_46 Ex_47 F_48 F_49 Ex_50 F_51 F_52 F_53 F_54 Ar_55 Es40 Fv40 Fc40 Fh40 Fz40 Ar40 Od_56 S_cs ge196_b2 gb39 gb40 ne_b2_b39 ne_b2_b40 ne_b39_b40 ne_b39_a40 hcs) rfl (W := 0) (by decide) (by decide) (by decide) (by decide) (g := (mkF m 218 #[.val (.int p0), .val (.int p1), .val (.int (own_s p5 p2 p0)), .val (.int (own_s p5 p3 p1)), .val (.int p4), .val (.int p5), .val (.int (g0_6 p5)), .val (.int (g0_16 p5)), .val (.int z135_l8), .val (.int (g0_39 p4)), .val (.int (g0_48 p4)), .val (.int (g0_58 p4)), .val (.int (g0_68 p4)), .val (.int (own_s p5 (g0_78 p4) (g0_39 p4))), .val (.int (own_s p5 (g0_88 p4) (g0_48 p4))), .val (.int (own_s p5 (g0_98 p4) (g0_58 p4))), .val (.int (own_s p5 (g0_108 p4) (g0_68 p4))), .val (.ref b2), .val (.ref b5), .val (.long z196_l19), .second, .val (.long (0 : Int64)), .second, .unset] [(.ref b40), (.ref b39), .null, (.int p1), (.ref b2)])) rfl (by rw [hml]; rfl) (argsL := [(.int p1), .null, (.ref b39), (.ref b40)]) (rest := []) rfl (lenOf pd_9 rfl) rfl (by show 2 * 0 + _ ≤ _; exact Nat.le_of_eq rfl) (hb hby at_218)
      obtain ⟨rfl, Nq45, K45, Fr45, Fk45⟩ := hQ45
      rw [own_hx (show small (g0_58 p4) from own_sm _), own_hx (show small (g0_68 p4) from own_sm _)] at Fk45
      have N45 := Fr.app N40 Nq45
      have Fq45 : Fld Z T45.heap b2 "com/example/framewire/framewire/bench/Tally" "checksum" "J" (.long (g0_218 p1 p4 z196_l19)) := Fk45
      refine Fini.st st45 ?_
      show Fini p e below s _ _ _ T45 (mkF m 221 #[.val (.int p0), .val (.int p1), .val (.int (own_s p5 p2 p0)), .val (.int (own_s p5 p3 p1)), .val (.int p4), .val (.int p5), .val (.int (g0_6 p5)), .val (.int (g0_16 p5)), .val (.int z135_l8), .val (.int (g0_39 p4)), .val (.int (g0_48 p4)), .val (.int (g0_58 p4)), .val (.int (g0_68 p4)), .val (.int (own_s p5 (g0_78 p4) (g0_39 p4))), .val (.int (own_s p5 (g0_88 p4) (g0_48 p4))), .val (.int (own_s p5 (g0_98 p4) (g0_58 p4))), .val (.int (own_s p5 (g0_108 p4) (g0_68 p4))), .val (.ref b2), .val (.ref b5), .val (.long z196_l19), .second, .val (.long (0 : Int64)), .second, .unset] [])
      refine Fini.st (fun _ k => XS.lload X45.here hx rfl (hb hby at_221) rfl k) ?_
      show Fini p e below s _ _ _ T45 (mkF m 223 #[.val (.int p0), .val (.int p1), .val (.int (own_s p5 p2 p0)), .val (.int (own_s p5 p3 p1)), .val (.int p4), .val (.int p5), .val (.int (g0_6 p5)), .val (.int (g0_16 p5)), .val (.int z135_l8), .val (.int (g0_39 p4)), .val (.int (g0_48 p4)), .val (.int (g0_58 p4)), .val (.int (g0_68 p4)), .val (.int (own_s p5 (g0_78 p4) (g0_39 p4))), .val (.int (own_s p5 (g0_88 p4) (g0_48 p4))), .val (.int (own_s p5 (g0_98 p4) (g0_58 p4))), .val (.int (own_s p5 (g0_108 p4) (g0_68 p4))), .val (.ref b2), .val (.ref b5), .val (.long z196_l19), .second, .val (.long (0 : Int64)), .second, .unset] [(.long z196_l19)])
      refine Fini.st (fun _ k => XS.iloadN X45.here hx rfl (hb hby at_223) rfl k) ?_
      show Fini p e below s _ _ _ T45 (mkF m 224 #[.val (.int p0), .val (.int p1), .val (.int (own_s p5 p2 p0)), .val (.int (own_s p5 p3 p1)), .val (.int p4), .val (.int p5), .val (.int (g0_6 p5)), .val (.int (g0_16 p5)), .val (.int z135_l8), .val (.int (g0_39 p4)), .val (.int (g0_48 p4)), .val (.int (g0_58 p4)), .val (.int (g0_68 p4)), .val (.int (own_s p5 (g0_78 p4) (g0_39 p4))), .val (.int (own_s p5 (g0_88 p4) (g0_48 p4))), .val (.int (own_s p5 (g0_98 p4) (g0_58 p4))), .val (.int (own_s p5 (g0_108 p4) (g0_68 p4))), .val (.ref b2), .val (.ref b5), .val (.long z196_l19), .second, .val (.long (0 : Int64)), .second, .unset] [(.int p1), (.long z196_l19)])
      refine Fini.st (fun _ k => XS.iload X45.here hx rfl (hb hby at_224) rfl k) ?_
      show Fini p e below s _ _ _ T45 (mkF m 226 #[.val (.int p0), .val (.int p1), .val (.int (own_s p5 p2 p0)), .val (.int (own_s p5 p3 p1)), .val (.int p4), .val (.int p5), .val (.int (g0_6 p5)), .val (.int (g0_16 p5)), .val (.int z135_l8), .val (.int (g0_39 p4)), .val (.int (g0_48 p4)), .val (.int (g0_58 p4)), .val (.int (g0_68 p4)), .val (.int (own_s p5 (g0_78 p4) (g0_39 p4))), .val (.int (own_s p5 (g0_88 p4) (g0_48 p4))), .val (.int (own_s p5 (g0_98 p4) (g0_58 p4))), .val (.int (own_s p5 (g0_108 p4) (g0_68 p4))), .val (.ref b2), .val (.ref b5), .val (.long z196_l19), .second, .val (.long (0 : Int64)), .second, .unset] [(.int (g0_58 p4)), (.int p1), (.long z196_l19)])
      refine Fini.st (fun _ k => XS.iload X45.here hx rfl (hb hby at_226) rfl k) ?_
      show Fini p e below s _ _ _ T45 (mkF m 228 #[.val (.int p0), .val (.int p1), .val (.int (own_s p5 p2 p0)), .val (.int (own_s p5 p3 p1)), .val (.int p4), .val (.int p5), .val (.int (g0_6 p5)), .val (.int (g0_16 p5)), .val (.int z135_l8), .val (.int (g0_39 p4)), .val (.int (g0_48 p4)), .val (.int (g0_58 p4)), .val (.int (g0_68 p4)), .val (.int (own_s p5 (g0_78 p4) (g0_39 p4))), .val (.int (own_s p5 (g0_88 p4) (g0_48 p4))), .val (.int (own_s p5 (g0_98 p4) (g0_58 p4))), .val (.int (own_s p5 (g0_108 p4) (g0_68 p4))), .val (.ref b2), .val (.ref b5), .val (.long z196_l19), .second, .val (.long (0 : Int64)), .second, .unset] [(.int (g0_68 p4)), (.int (g0_58 p4)), (.int p1), (.long z196_l19)])
      obtain ⟨T57, X57, e57, st57⟩ := pureS X45 hx hZ hown (hw _ (List.mem_of_getElem? (i := 77) rfl)) (hw _ (List.mem_of_getElem? (i := 78) rfl)) (hw _ (List.mem_of_getElem? (i := 79) rfl)) (hw _ (List.mem_of_getElem? (i := 80) rfl)) (by decide) (rm13 l Z a0 hw [] z196_l19 p1 (g0_58 p4) (g0_68 p4) T45.heap) rfl (W := 0) (by decide) (by decide) (by decide) (by decide) (g := (mkF m 228 #[.val (.int p0), .val (.int p1), .val (.int (own_s p5 p2 p0)), .val (.int (own_s p5 p3 p1)), .val (.int p4), .val (.int p5), .val (.int (g0_6 p5)), .val (.int (g0_16 p5)), .val (.int z135_l8), .val (.int (g0_39 p4)), .val (.int (g0_48 p4)), .val (.int (g0_58 p4)), .val (.int (g0_68 p4)), .val (.int (own_s p5 (g0_78 p4) (g0_39 p4))), .val (.int (own_s p5 (g0_88 p4) (g0_48 p4))), .val (.int (own_s p5 (g0_98 p4) (g0_58 p4))), .val (.int (own_s p5 (g0_108 p4) (g0_68 p4))), .val (.ref b2), .val (.ref b5), .val (.long z196_l19), .second, .val (.long (0 : Int64)), .second, .unset] [(.int (g0_68 p4)), (.int (g0_58 p4)), (.int p1), (.long z196_l19)])) rfl (by rw [hml]; rfl) (argsL := [(.long z196_l19), (.int p1), (.int (g0_58 p4)), (.int (g0_68 p4))]) (rest := []) rfl (lenOf pd_10 rfl) rfl (by show 2 * 0 + _ ≤ _; exact Nat.le_of_eq rfl) (hb hby at_228)
      refine Fini.st st57 ?_
      show Fini p e below s _ _ _ T57 (mkF m 231 #[.val (.int p0), .val (.int p1), .val (.int (own_s p5 p2 p0)), .val (.int (own_s p5 p3 p1)), .val (.int p4), .val (.int p5), .val (.int (g0_6 p5)), .val (.int (g0_16 p5)), .val (.int z135_l8), .val (.int (g0_39 p4)), .val (.int (g0_48 p4)), .val (.int (g0_58 p4)), .val (.int (g0_68 p4)), .val (.int (own_s p5 (g0_78 p4) (g0_39 p4))), .val (.int (own_s p5 (g0_88 p4) (g0_48 p4))), .val (.int (own_s p5 (g0_98 p4) (g0_58 p4))), .val (.int (own_s p5 (g0_108 p4) (g0_68 p4))), .val (.ref b2), .val (.ref b5), .val (.long z196_l19), .second, .val (.long (0 : Int64)), .second, .unset] [(.long (f13 z196_l19 p1 (g0_58 p4) (g0_68 p4)))])
      refine Fini.st (fun _ k => XS.lstore X57.here hx rfl (hb hby at_231) rfl (l' := #[.val (.int p0), .val (.int p1), .val (.int (own_s p5 p2 p0)), .val (.int (own_s p5 p3 p1)), .val (.int p4), .val (.int p5), .val (.int (g0_6 p5)), .val (.int (g0_16 p5)), .val (.int z135_l8), .val (.int (g0_39 p4)), .val (.int (g0_48 p4)), .val (.int (g0_58 p4)), .val (.int (g0_68 p4)), .val (.int (own_s p5 (g0_78 p4) (g0_39 p4))), .val (.int (own_s p5 (g0_88 p4) (g0_48 p4))), .val (.int (own_s p5 (g0_98 p4) (g0_58 p4))), .val (.int (own_s p5 (g0_108 p4) (g0_68 p4))), .val (.ref b2), .val (.ref b5), .val (.long (g0_218 p1 p4 z196_l19)), .second, .val (.long (0 : Int64)), .second, .unset]) rfl k) ?_
      show Fini p e below s _ _ _ T57 (mkF m 233 #[.val (.int p0), .val (.int p1), .val (.int (own_s p5 p2 p0)), .val (.int (own_s p5 p3 p1)), .val (.int p4), .val (.int p5), .val (.int (g0_6 p5)), .val (.int (g0_16 p5)), .val (.int z135_l8), .val (.int (g0_39 p4)), .val (.int (g0_48 p4)), .val (.int (g0_58 p4)), .val (.int (g0_68 p4)), .val (.int (own_s p5 (g0_78 p4) (g0_39 p4))), .val (.int (own_s p5 (g0_88 p4) (g0_48 p4))), .val (.int (own_s p5 (g0_98 p4) (g0_58 p4))), .val (.int (own_s p5 (g0_108 p4) (g0_68 p4))), .val (.ref b2), .val (.ref b5), .val (.long (g0_218 p1 p4 z196_l19)), .second, .val (.long (0 : Int64)), .second, .unset] [])
      have Fn58 : Fld Z T45.heap b2 "com/example/framewire/framewire/bench/Tally" "frames" "J" (.long (own_n2 (g0_6 p5))) := by rw [show own_n2 (g0_6 p5) = ((own_n1 (g0_6 p5)) + (1 : Int64)) from if_neg c37]; exact Fr45
      have Od_124 : Old Z n0 T45.heap := (Old.keep Od_56 K45 (allS (P := fun x => n0 ≤ x) ge196_b2 (allS (P := fun x => n0 ≤ x) gb39 (allS (P := fun x => n0 ≤ x) gb40 all0))))
      have Zs_125 : n0 ≤ T45.heap.size := (Nat.le_trans Zs_46 K45.1)
      have Ex_126 : Exa Z T45.heap b2 "com/example/framewire/framewire/bench/Tally" := (Ex_47.keep K45)
      have Ex_127 : Exa Z T45.heap b5 "com/example/framewire/framewire/bench/Tally" := ((Ex_44.keep K40).keep K45)
      have F_128 : Fld Z T45.heap b5 "com/example/framewire/framewire/bench/Tally" "frames" "J" (.long (0 : Int64)) := (((H196_F_b5_frames.keep K39 nin0).keep K40 nin0).keep K45 (ninS (Ne.symm ne196_b2_b5) (ninS ne_b5_b39 (ninS ne_b5_b40 nin0))))
      have F_129 : Fld Z T45.heap b5 "com/example/framewire/framewire/bench/Tally" "checksum" "J" (.long (0 : Int64)) := (((H196_F_b5_checksum.keep K39 nin0).keep K40 nin0).keep K45 (ninS (Ne.symm ne196_b2_b5) (ninS ne_b5_b39 (ninS ne_b5_b40 nin0))))
      exact B233 T57 _ _ (X57.more (cells' := 10) (slots' := 24) (by decide) (by decide)) e57 b2 b5 (g0_218 p1 p4 z196_l19) z135_l8 N45 Od_124 H196_S_java_lang_String_COMPACT_STRINGS H196_S_java_lang_Integer_IntegerCache_high H196_S_java_lang_Integer_IntegerCache_cache Zs_125 Ex_126 Fn58 Fq45 Ex_127 F_128 F_129 ne196_b2_b5 ge196_b2 ge196_b5
  have B135 : ∀ (T_135 : State) (h_135 : Heap) (locs : List Loc) (X_135 : Stand p l e room_1 s m #[(.int p0), (.int p1), (.int p2), (.int p3), (.int p4), (.int p5)] below meth c T_135 locs 0 0) (e_135 : T_135.heap = h_135) (z135_l8 : Int32) (N_135 : Fr n0 locs) (H135_D : Old Z n0 h_135) (H135_S_java_lang_String_COMPACT_STRINGS : Sta Z Z.heap "java/lang/String" "COMPACT_STRINGS" "Z" (.int cs)) (H135_S_java_lang_Integer_IntegerCache_high : Sta Z Z.heap "java/lang/Integer$IntegerCache" "high" "I" (.int (127 : Int32))) (H135_S_java_lang_Integer_IntegerCache_cache : Sta Z Z.heap "java/lang/Integer$IntegerCache" "cache" "[Ljava/lang/Integer;" (.ref ca)) (H135_Z : n0 ≤ h_135.size), Fini p e below s (fun v h' L => v = some (.int 1) ∧ Fr n0 L) (Room.cells room_1) (Room.slots room_1) T_135 (mkF m 135 #[.val (.int p0), .val (.int p1), .val (.int (own_s p5 p2 p0)), .val (.int (own_s p5 p3 p1)), .val (.int p4), .val (.int p5), .val (.int (g0_6 p5)), .val (.int (g0_16 p5)), .val (.int z135_l8), .val (.int (g0_39 p4)), .val (.int (g0_48 p4)), .val (.int (g0_58 p4)), .val (.int (g0_68 p4)), .val (.int (own_s p5 (g0_78 p4) (g0_39 p4))), .val (.int (own_s p5 (g0_88 p4) (g0_48 p4))), .val (.int (own_s p5 (g0_98 p4) (g0_58 p4))), .val (.int (own_s p5 (g0_108 p4) (g0_68 p4))), .unset, .unset, .unset, .unset, .unset, .unset, .unset] []) := by
    intro T_135 h_135 locs  X_135 e_135  z135_l8 N_135 H135_D H135_S_java_lang_String_COMPACT_STRINGS H135_S_java_lang_Integer_IntegerCache_high H135_S_java_lang_Integer_IntegerCache_cache H135_Z 
    obtain ⟨T2, h2, X2, e2, E2, A2, D2, -, st2⟩ := newO X_135 hx hZ hown (hw _ (List.mem_of_getElem? (i := 0) rfl)) (hw _ (List.mem_of_getElem? (i := 1) rfl)) (hw _ (List.mem_of_getElem? (i := 2) rfl)) e_135 (g := (mkF m 135 #[.val (.int p0), .val (.int p1), .val (.int (own_s p5 p2 p0)), .val (.int (own_s p5 p3 p1)), .val (.int p4), .val (.int p5), .val (.int (g0_6 p5)), .val (.int (g0_16 p5)), .val (.int z135_l8), .val (.int (g0_39 p4)), .val (.int (g0_48 p4)), .val (.int (g0_58 p4)), .val (.int (g0_68 p4)), .val (.int (own_s p5 (g0_78 p4) (g0_39 p4))), .val (.int (own_s p5 (g0_88 p4) (g0_48 p4))), .val (.int (own_s p5 (g0_98 p4) (g0_58 p4))), .val (.int (own_s p5 (g0_108 p4) (g0_68 p4))), .unset, .unset, .unset, .unset, .unset, .unset, .unset] [])) rfl (hb hby at_135) (by decide) (by decide)
    obtain ⟨b2, g2⟩ : ∃ z, z = h_135.size := ⟨_, rfl⟩
    rw [← g2] at A2 D2 st2
    have ge_b2 : n0 ≤ b2 := Nat.le_trans H135_Z (Nat.le_of_eq g2.symm)
    have Fn2_frames : Fld Z h2 b2 "com/example/framewire/framewire/bench/Tally" "frames" "J" (.long (0 : Int64)) := D2 (Or.inl (hw _ (List.mem_of_getElem? (i := 17) rfl))) (ty := .long) (by decide)
    have Fn2_checksum : Fld Z h2 b2 "com/example/framewire/framewire/bench/Tally" "checksum" "J" (.long (0 : Int64)) := D2 (Or.inl (hw _ (List.mem_of_getElem? (i := 19) rfl))) (ty := .long) (by decide)
    refine Fini.st st2 ?_
    show Fini p e below s _ _ _ T2 (mkF m 138 #[.val (.int p0), .val (.int p1), .val (.int (own_s p5 p2 p0)), .val (.int (own_s p5 p3 p1)), .val (.int p4), .val (.int p5), .val (.int (g0_6 p5)), .val (.int (g0_16 p5)), .val (.int z135_l8), .val (.int (g0_39 p4)), .val (.int (g0_48 p4)), .val (.int (g0_58 p4)), .val (.int (g0_68 p4)), .val (.int (own_s p5 (g0_78 p4) (g0_39 p4))), .val (.int (own_s p5 (g0_88 p4) (g0_48 p4))), .val (.int (own_s p5 (g0_98 p4) (g0_58 p4))), .val (.int (own_s p5 (g0_108 p4) (g0_68 p4))), .unset, .unset, .unset, .unset, .unset, .unset, .unset] [(.ref b2)])
    refine Fini.st (fun _ k => XS.dup X2.here hx rfl (hb hby at_138) rfl rfl k) ?_
    show Fini p e below s _ _ _ T2 (mkF m 139 #[.val (.int p0), .val (.int p1), .val (.int (own_s p5 p2 p0)), .val (.int (own_s p5 p3 p1)), .val (.int p4), .val (.int p5), .val (.int (g0_6 p5)), .val (.int (g0_16 p5)), .val (.int z135_l8), .val (.int (g0_39 p4)), .val (.int (g0_48 p4)), .val (.int (g0_58 p4)), .val (.int (g0_68 p4)), .val (.int (own_s p5 (g0_78 p4) (g0_39 p4))), .val (.int (own_s p5 (g0_88 p4) (g0_48 p4))), .val (.int (own_s p5 (g0_98 p4) (g0_58 p4))), .val (.int (own_s p5 (g0_108 p4) (g0_68 p4))), .unset, .unset, .unset, .unset, .unset, .unset, .unset] [(.ref b2), (.ref b2)])
    have Zs_4 : n0 ≤ h2.size := (Nat.le_trans H135_Z E2.1)
    obtain ⟨v3, T3, L3, X3, hQ3, st3⟩ := callNew X2 hx hZ hown rfl (hw _ (List.mem_of_getElem? (i := 3) rfl)) (hw _ (List.mem_of_getElem? (i := 4) rfl)) (hw _ (List.mem_of_getElem? (i := 2) rfl)) (hw _ (List.mem_of_getElem? (i := 5) rfl)) (by decide) (rm1 l Z a0 hw [] b2 h2 n0 Zs_4) e2 (W := 1) (by decide) (by decide) (by decide) (by decide) (g := (mkF m 139 #[.val (.int p0), .val (.int p1), .val (.int (own_s p5 p2 p0)), .val (.int (own_s p5 p3 p1)), .val (.int p4), .val (.int p5), .val (.int (g0_6 p5)), .val (.int (g0_16 p5)), .val (.int z135_l8), .val (.int (g0_39 p4)), .val (.int (g0_48 p4)), .val (.int (g0_58 p4)), .val (.int (g0_68 p4)), .val (.int (own_s p5 (g0_78 p4) (g0_39 p4))), .val (.int (own_s p5 (g0_88 p4) (g0_48 p4))), .val (.int (own_s p5 (g0_98 p4) (g0_58 p4))), .val (.int (own_s p5 (g0_108 p4) (g0_68 p4))), .unset, .unset, .unset, .unset, .unset, .unset, .unset] [(.ref b2), (.ref b2)])) rfl (by rw [hml]; rfl) (argsL := []) (rest := [(.ref b2)]) rfl (lenOf pd_0 rfl) rfl (by show 2 * 0 + _ ≤ _; exact Nat.le_of_eq rfl) (hb hby at_139)
    obtain ⟨rfl, hh3, rfl⟩ := hQ3
    have K3 : Keep h2 T3.heap [] := by rw [hh3]; exact Keep.refl _ _
    have Nq3 := Fr.nil n0
    have N3 := Fr.app N_135 Nq3
    refine Fini.st st3 ?_
    show Fini p e below s _ _ _ T3 (mkF m 142 #[.val (.int p0), .val (.int p1), .val (.int (own_s p5 p2 p0)), .val (.int (own_s p5 p3 p1)), .val (.int p4), .val (.int p5), .val (.int (g0_6 p5)), .val (.int (g0_16 p5)), .val (.int z135_l8), .val (.int (g0_39 p4)), .val (.int (g0_48 p4)), .val (.int (g0_58 p4)), .val (.int (g0_68 p4)), .val (.int (own_s p5 (g0_78 p4) (g0_39 p4))), .val (.int (own_s p5 (g0_88 p4) (g0_48 p4))), .val (.int (own_s p5 (g0_98 p4) (g0_58 p4))), .val (.int (own_s p5 (g0_108 p4) (g0_68 p4))), .unset, .unset, .unset, .unset, .unset, .unset, .unset] [(.ref b2)])
    refine Fini.st (fun _ k => XS.astore X3.here hx rfl (hb hby at_142) rfl rfl (l' := #[.val (.int p0), .val (.int p1), .val (.int (own_s p5 p2 p0)), .val (.int (own_s p5 p3 p1)), .val (.int p4), .val (.int p5), .val (.int (g0_6 p5)), .val (.int (g0_16 p5)), .val (.int z135_l8), .val (.int (g0_39 p4)), .val (.int (g0_48 p4)), .val (.int (g0_58 p4)), .val (.int (g0_68 p4)), .val (.int (own_s p5 (g0_78 p4) (g0_39 p4))), .val (.int (own_s p5 (g0_88 p4) (g0_48 p4))), .val (.int (own_s p5 (g0_98 p4) (g0_58 p4))), .val (.int (own_s p5 (g0_108 p4) (g0_68 p4))), .val (.ref b2), .unset, .unset, .unset, .unset, .unset, .unset]) rfl k) ?_
    show Fini p e below s _ _ _ T3 (mkF m 144 #[.val (.int p0), .val (.int p1), .val (.int (own_s p5 p2 p0)), .val (.int (own_s p5 p3 p1)), .val (.int p4), .val (.int p5), .val (.int (g0_6 p5)), .val (.int (g0_16 p5)), .val (.int z135_l8), .val (.int (g0_39 p4)), .val (.int (g0_48 p4)), .val (.int (g0_58 p4)), .val (.int (g0_68 p4)), .val (.int (own_s p5 (g0_78 p4) (g0_39 p4))), .val (.int (own_s p5 (g0_88 p4) (g0_48 p4))), .val (.int (own_s p5 (g0_98 p4) (g0_58 p4))), .val (.int (own_s p5 (g0_108 p4) (g0_68 p4))), .val (.ref b2), .unset, .unset, .unset, .unset, .unset, .unset] [])
    obtain ⟨T5, h5, X5, e5, E5, A5, D5, -, st5⟩ := newO X3 hx hZ hown (hw _ (List.mem_of_getElem? (i := 0) rfl)) (hw _ (List.mem_of_getElem? (i := 1) rfl)) (hw _ (List.mem_of_getElem? (i := 2) rfl)) rfl (g := (mkF m 144 #[.val (.int p0), .val (.int p1), .val (.int (own_s p5 p2 p0)), .val (.int (own_s p5 p3 p1)), .val (.int p4), .val (.int p5), .val (.int (g0_6 p5)), .val (.int (g0_16 p5)), .val (.int z135_l8), .val (.int (g0_39 p4)), .val (.int (g0_48 p4)), .val (.int (g0_58 p4)), .val (.int (g0_68 p4)), .val (.int (own_s p5 (g0_78 p4) (g0_39 p4))), .val (.int (own_s p5 (g0_88 p4) (g0_48 p4))), .val (.int (own_s p5 (g0_98 p4) (g0_58 p4))), .val (.int (own_s p5 (g0_108 p4) (g0_68 p4))), .val (.ref b2), .unset, .unset, .unset, .unset, .unset, .unset] [])) rfl (hb hby at_144) (by decide) (by decide)
    obtain ⟨b5, g5⟩ : ∃ z, z = T3.heap.size := ⟨_, rfl⟩
    rw [← g5] at A5 D5 st5
    have Ex_6 : Exa Z T3.heap b2 "com/example/framewire/framewire/bench/Tally" := (A2.keep K3)
    have ne_b2_b5 : b2 ≠ b5 := Nat.ne_of_lt (Nat.lt_of_lt_of_le Ex_6.lt (Nat.le_of_eq g5.symm))
    have Zs_7 : n0 ≤ T3.heap.size := (Nat.le_trans Zs_4 K3.1)
    have ge_b5 : n0 ≤ b5 := Nat.le_trans Zs_7 (Nat.le_of_eq g5.symm)
    have Fn5_frames : Fld Z h5 b5 "com/example/framewire/framewire/bench/Tally" "frames" "J" (.long (0 : Int64)) := D5 (Or.inl (hw _ (List.mem_of_getElem? (i := 17) rfl))) (ty := .long) (by decide)
    have Fn5_checksum : Fld Z h5 b5 "com/example/framewire/framewire/bench/Tally" "checksum" "J" (.long (0 : Int64)) := D5 (Or.inl (hw _ (List.mem_of_getElem? (i := 19) rfl))) (ty := .long) (by decide)
    refine Fini.st st5 ?_
    show Fini p e below s _ _ _ T5 (mkF m 147 #[.val (.int p0), .val (.int p1), .val (.int (own_s p5 p2 p0)), .val (.int (own_s p5 p3 p1)), .val (.int p4), .val (.int p5), .val (.int (g0_6 p5)), .val (.int (g0_16 p5)), .val (.int z135_l8), .val (.int (g0_39 p4)), .val (.int (g0_48 p4)), .val (.int (g0_58 p4)), .val (.int (g0_68 p4)), .val (.int (own_s p5 (g0_78 p4) (g0_39 p4))), .val (.int (own_s p5 (g0_88 p4) (g0_48 p4))), .val (.int (own_s p5 (g0_98 p4) (g0_58 p4))), .val (.int (own_s p5 (g0_108 p4) (g0_68 p4))), .val (.ref b2), .unset, .unset, .unset, .unset, .unset, .unset] [(.ref b5)])
    refine Fini.st (fun _ k => XS.dup X5.here hx rfl (hb hby at_147) rfl rfl k) ?_
    show Fini p e below s _ _ _ T5 (mkF m 148 #[.val (.int p0), .val (.int p1), .val (.int (own_s p5 p2 p0)), .val (.int (own_s p5 p3 p1)), .val (.int p4), .val (.int p5), .val (.int (g0_6 p5)), .val (.int (g0_16 p5)), .val (.int z135_l8), .val (.int (g0_39 p4)), .val (.int (g0_48 p4)), .val (.int (g0_58 p4)), .val (.int (g0_68 p4)), .val (.int (own_s p5 (g0_78 p4) (g0_39 p4))), .val (.int (own_s p5 (g0_88 p4) (g0_48 p4))), .val (.int (own_s p5 (g0_98 p4) (g0_58 p4))), .val (.int (own_s p5 (g0_108 p4) (g0_68 p4))), .val (.ref b2), .unset, .unset, .unset, .unset, .unset, .unset] [(.ref b5), (.ref b5)])
    have Zs_9 : n0 ≤ h5.size := (Nat.le_trans Zs_7 E5.1)
    obtain ⟨v8, T8, L8, X8, hQ8, st8⟩ := callNew X5 hx hZ hown rfl (hw _ (List.mem_of_getElem? (i := 3) rfl)) (hw _ (List.mem_of_getElem? (i := 4) rfl)) (hw _ (List.mem_of_getElem? (i := 2) rfl)) (hw _ (List.mem_of_getElem? (i := 5) rfl)) (by decide) (rm1 l Z a0 hw [] b5 h5 n0 Zs_9) e5 (W := 1) (by decide) (by decide) (by decide) (by decide) (g := (mkF m 148 #[.val (.int p0), .val (.int p1), .val (.int (own_s p5 p2 p0)), .val (.int (own_s p5 p3 p1)), .val (.int p4), .val (.int p5), .val (.int (g0_6 p5)), .val (.int (g0_16 p5)), .val (.int z135_l8), .val (.int (g0_39 p4)), .val (.int (g0_48 p4)), .val (.int (g0_58 p4)), .val (.int (g0_68 p4)), .val (.int (own_s p5 (g0_78 p4) (g0_39 p4))), .val (.int (own_s p5 (g0_88 p4) (g0_48 p4))), .val (.int (own_s p5 (g0_98 p4) (g0_58 p4))), .val (.int (own_s p5 (g0_108 p4) (g0_68 p4))), .val (.ref b2), .unset, .unset, .unset, .unset, .unset, .unset] [(.ref b5), (.ref b5)])) rfl (by rw [hml]; rfl) (argsL := []) (rest := [(.ref b5)]) rfl (lenOf pd_0 rfl) rfl (by show 2 * 0 + _ ≤ _; exact Nat.le_of_eq rfl) (hb hby at_148)
    obtain ⟨rfl, hh8, rfl⟩ := hQ8
    have K8 : Keep h5 T8.heap [] := by rw [hh8]; exact Keep.refl _ _
    have Nq8 := Fr.nil n0
    have N8 := Fr.app N3 Nq8
    refine Fini.st st8 ?_
    show Fini p e below s _ _ _ T8 (mkF m 151 #[.val (.int p0), .val (.int p1), .val (.int (own_s p5 p2 p0)), .val (.int (own_s p5 p3 p1)), .val (.int p4), .val (.int p5), .val (.int (g0_6 p5)), .val (.int (g0_16 p5)), .val (.int z135_l8), .val (.int (g0_39 p4)), .val (.int (g0_48 p4)), .val (.int (g0_58 p4)), .val (.int (g0_68 p4)), .val (.int (own_s p5 (g0_78 p4) (g0_39 p4))), .val (.int (own_s p5 (g0_88 p4) (g0_48 p4))), .val (.int (own_s p5 (g0_98 p4) (g0_58 p4))), .val (.int (own_s p5 (g0_108 p4) (g0_68 p4))), .val (.ref b2), .unset, .unset, .unset, .unset, .unset, .unset] [(.ref b5)])
    refine Fini.st (fun _ k => XS.astore X8.here hx rfl (hb hby at_151) rfl rfl (l' := #[.val (.int p0), .val (.int p1), .val (.int (own_s p5 p2 p0)), .val (.int (own_s p5 p3 p1)), .val (.int p4), .val (.int p5), .val (.int (g0_6 p5)), .val (.int (g0_16 p5)), .val (.int z135_l8), .val (.int (g0_39 p4)), .val (.int (g0_48 p4)), .val (.int (g0_58 p4)), .val (.int (g0_68 p4)), .val (.int (own_s p5 (g0_78 p4) (g0_39 p4))), .val (.int (own_s p5 (g0_88 p4) (g0_48 p4))), .val (.int (own_s p5 (g0_98 p4) (g0_58 p4))), .val (.int (own_s p5 (g0_108 p4) (g0_68 p4))), .val (.ref b2), .val (.ref b5), .unset, .unset, .unset, .unset, .unset]) rfl k) ?_
    show Fini p e below s _ _ _ T8 (mkF m 153 #[.val (.int p0), .val (.int p1), .val (.int (own_s p5 p2 p0)), .val (.int (own_s p5 p3 p1)), .val (.int p4), .val (.int p5), .val (.int (g0_6 p5)), .val (.int (g0_16 p5)), .val (.int z135_l8), .val (.int (g0_39 p4)), .val (.int (g0_48 p4)), .val (.int (g0_58 p4)), .val (.int (g0_68 p4)), .val (.int (own_s p5 (g0_78 p4) (g0_39 p4))), .val (.int (own_s p5 (g0_88 p4) (g0_48 p4))), .val (.int (own_s p5 (g0_98 p4) (g0_58 p4))), .val (.int (own_s p5 (g0_108 p4) (g0_68 p4))), .val (.ref b2), .val (.ref b5), .unset, .unset, .unset, .unset, .unset] [])
    refine Fini.st (fun _ k => XS.lconst X8.here hx rfl (hb hby at_153) k) ?_
    show Fini p e below s _ _ _ T8 (mkF m 154 #[.val (.int p0), .val (.int p1), .val (.int (own_s p5 p2 p0)), .val (.int (own_s p5 p3 p1)), .val (.int p4), .val (.int p5), .val (.int (g0_6 p5)), .val (.int (g0_16 p5)), .val (.int z135_l8), .val (.int (g0_39 p4)), .val (.int (g0_48 p4)), .val (.int (g0_58 p4)), .val (.int (g0_68 p4)), .val (.int (own_s p5 (g0_78 p4) (g0_39 p4))), .val (.int (own_s p5 (g0_88 p4) (g0_48 p4))), .val (.int (own_s p5 (g0_98 p4) (g0_58 p4))), .val (.int (own_s p5 (g0_108 p4) (g0_68 p4))), .val (.ref b2), .val (.ref b5), .unset, .unset, .unset, .unset, .unset] [(.long (0 : Int64))])
    refine Fini.st (fun _ k => XS.lstore X8.here hx rfl (hb hby at_154) rfl (l' := #[.val (.int p0), .val (.int p1), .val (.int (own_s p5 p2 p0)), .val (.int (own_s p5 p3 p1)), .val (.int p4), .val (.int p5), .val (.int (g0_6 p5)), .val (.int (g0_16 p5)), .val (.int z135_l8), .val (.int (g0_39 p4)), .val (.int (g0_48 p4)), .val (.int (g0_58 p4)), .val (.int (g0_68 p4)), .val (.int (own_s p5 (g0_78 p4) (g0_39 p4))), .val (.int (own_s p5 (g0_88 p4) (g0_48 p4))), .val (.int (own_s p5 (g0_98 p4) (g0_58 p4))), .val (.int (own_s p5 (g0_108 p4) (g0_68 p4))), .val (.ref b2), .val (.ref b5), .val (.long (0 : Int64)), .second, .unset, .unset, .unset]) rfl k) ?_
    show Fini p e below s _ _ _ T8 (mkF m 156 #[.val (.int p0), .val (.int p1), .val (.int (own_s p5 p2 p0)), .val (.int (own_s p5 p3 p1)), .val (.int p4), .val (.int p5), .val (.int (g0_6 p5)), .val (.int (g0_16 p5)), .val (.int z135_l8), .val (.int (g0_39 p4)), .val (.int (g0_48 p4)), .val (.int (g0_58 p4)), .val (.int (g0_68 p4)), .val (.int (own_s p5 (g0_78 p4) (g0_39 p4))), .val (.int (own_s p5 (g0_88 p4) (g0_48 p4))), .val (.int (own_s p5 (g0_98 p4) (g0_58 p4))), .val (.int (own_s p5 (g0_108 p4) (g0_68 p4))), .val (.ref b2), .val (.ref b5), .val (.long (0 : Int64)), .second, .unset, .unset, .unset] [])
    refine Fini.st (fun _ k => XS.lconst X8.here hx rfl (hb hby at_156) k) ?_
    show Fini p e below s _ _ _ T8 (mkF m 157 #[.val (.int p0), .val (.int p1), .val (.int (own_s p5 p2 p0)), .val (.int (own_s p5 p3 p1)), .val (.int p4), .val (.int p5), .val (.int (g0_6 p5)), .val (.int (g0_16 p5)), .val (.int z135_l8), .val (.int (g0_39 p4)), .val (.int (g0_48 p4)), .val (.int (g0_58 p4)), .val (.int (g0_68 p4)), .val (.int (own_s p5 (g0_78 p4) (g0_39 p4))), .val (.int (own_s p5 (g0_88 p4) (g0_48 p4))), .val (.int (own_s p5 (g0_98 p4) (g0_58 p4))), .val (.int (own_s p5 (g0_108 p4) (g0_68 p4))), .val (.ref b2), .val (.ref b5), .val (.long (0 : Int64)), .second, .unset, .unset, .unset] [(.long (0 : Int64))])
    refine Fini.st (fun _ k => XS.lstore X8.here hx rfl (hb hby at_157) rfl (l' := #[.val (.int p0), .val (.int p1), .val (.int (own_s p5 p2 p0)), .val (.int (own_s p5 p3 p1)), .val (.int p4), .val (.int p5), .val (.int (g0_6 p5)), .val (.int (g0_16 p5)), .val (.int z135_l8), .val (.int (g0_39 p4)), .val (.int (g0_48 p4)), .val (.int (g0_58 p4)), .val (.int (g0_68 p4)), .val (.int (own_s p5 (g0_78 p4) (g0_39 p4))), .val (.int (own_s p5 (g0_88 p4) (g0_48 p4))), .val (.int (own_s p5 (g0_98 p4) (g0_58 p4))), .val (.int (own_s p5 (g0_108 p4) (g0_68 p4))), .val (.ref b2), .val (.ref b5), .val (.long (0 : Int64)), .second, .val (.long (0 : Int64)), .second, .unset]) rfl k) ?_
    show Fini p e below s _ _ _ T8 (mkF m 159 #[.val (.int p0), .val (.int p1), .val (.int (own_s p5 p2 p0)), .val (.int (own_s p5 p3 p1)), .val (.int p4), .val (.int p5), .val (.int (g0_6 p5)), .val (.int (g0_16 p5)), .val (.int z135_l8), .val (.int (g0_39 p4)), .val (.int (g0_48 p4)), .val (.int (g0_58 p4)), .val (.int (g0_68 p4)), .val (.int (own_s p5 (g0_78 p4) (g0_39 p4))), .val (.int (own_s p5 (g0_88 p4) (g0_48 p4))), .val (.int (own_s p5 (g0_98 p4) (g0_58 p4))), .val (.int (own_s p5 (g0_108 p4) (g0_68 p4))), .val (.ref b2), .val (.ref b5), .val (.long (0 : Int64)), .second, .val (.long (0 : Int64)), .second, .unset] [])
    refine Fini.st (fun _ k => XS.iload X8.here hx rfl (hb hby at_159) rfl k) ?_
    show Fini p e below s _ _ _ T8 (mkF m 161 #[.val (.int p0), .val (.int p1), .val (.int (own_s p5 p2 p0)), .val (.int (own_s p5 p3 p1)), .val (.int p4), .val (.int p5), .val (.int (g0_6 p5)), .val (.int (g0_16 p5)), .val (.int z135_l8), .val (.int (g0_39 p4)), .val (.int (g0_48 p4)), .val (.int (g0_58 p4)), .val (.int (g0_68 p4)), .val (.int (own_s p5 (g0_78 p4) (g0_39 p4))), .val (.int (own_s p5 (g0_88 p4) (g0_48 p4))), .val (.int (own_s p5 (g0_98 p4) (g0_58 p4))), .val (.int (own_s p5 (g0_108 p4) (g0_68 p4))), .val (.ref b2), .val (.ref b5), .val (.long (0 : Int64)), .second, .val (.long (0 : Int64)), .second, .unset] [(.int (g0_6 p5))])
    refine Fini.st (fun _ k => XS.iconst X8.here hx rfl (hb hby at_161) k) ?_
    show Fini p e below s _ _ _ T8 (mkF m 162 #[.val (.int p0), .val (.int p1), .val (.int (own_s p5 p2 p0)), .val (.int (own_s p5 p3 p1)), .val (.int p4), .val (.int p5), .val (.int (g0_6 p5)), .val (.int (g0_16 p5)), .val (.int z135_l8), .val (.int (g0_39 p4)), .val (.int (g0_48 p4)), .val (.int (g0_58 p4)), .val (.int (g0_68 p4)), .val (.int (own_s p5 (g0_78 p4) (g0_39 p4))), .val (.int (own_s p5 (g0_88 p4) (g0_48 p4))), .val (.int (own_s p5 (g0_98 p4) (g0_58 p4))), .val (.int (own_s p5 (g0_108 p4) (g0_68 p4))), .val (.ref b2), .val (.ref b5), .val (.long (0 : Int64)), .second, .val (.long (0 : Int64)), .second, .unset] [(.int (1 : Int32)), (.int (g0_6 p5))])
    by_cases c10 : (g0_6 p5) < (1 : Int32)
    · skip
      refine Fini.st (fun _ k => XS.icmpYes X8.here hx rfl (pc0 := 162) (pc' := 196) rfl (hb hby at_162) rfl (XT.ii_lt_t c10) (by decide) (by decide) k) ?_
      show Fini p e below s _ _ _ T8 (mkF m 196 #[.val (.int p0), .val (.int p1), .val (.int (own_s p5 p2 p0)), .val (.int (own_s p5 p3 p1)), .val (.int p4), .val (.int p5), .val (.int (g0_6 p5)), .val (.int (g0_16 p5)), .val (.int z135_l8), .val (.int (g0_39 p4)), .val (.int (g0_48 p4)), .val (.int (g0_58 p4)), .val (.int (g0_68 p4)), .val (.int (own_s p5 (g0_78 p4) (g0_39 p4))), .val (.int (own_s p5 (g0_88 p4) (g0_48 p4))), .val (.int (own_s p5 (g0_98 p4) (g0_58 p4))), .val (.int (own_s p5 (g0_108 p4) (g0_68 p4))), .val (.ref b2), .val (.ref b5), .val (.long (0 : Int64)), .second, .val (.long (0 : Int64)), .second, .unset] [])
      have F_11 : Fld Z T8.heap b2 "com/example/framewire/framewire/bench/Tally" "frames" "J" (.long (0 : Int64)) := (((Fn2_frames.keep K3 nin0).ext E5).keep K8 nin0)
      have Fn12 : Fld Z T8.heap b2 "com/example/framewire/framewire/bench/Tally" "frames" "J" (.long (own_n1 (g0_6 p5))) := by rw [show own_n1 (g0_6 p5) = (0 : Int64) from if_pos c10]; exact F_11
      have Od_130 : Old Z n0 T8.heap := (Old.keep (Old.ext (Old.keep (Old.ext H135_D E2) K3 all0) E5) K8 all0)
      have Zs_131 : n0 ≤ T8.heap.size := (Nat.le_trans Zs_9 K8.1)
      have Ex_132 : Exa Z T8.heap b2 "com/example/framewire/framewire/bench/Tally" := ((Ex_6.ext E5).keep K8)
      have F_133 : Fld Z T8.heap b2 "com/example/framewire/framewire/bench/Tally" "checksum" "J" (.long (0 : Int64)) := (((Fn2_checksum.keep K3 nin0).ext E5).keep K8 nin0)
      have Ex_134 : Exa Z T8.heap b5 "com/example/framewire/framewire/bench/Tally" := (A5.keep K8)
      have F_135 : Fld Z T8.heap b5 "com/example/framewire/framewire/bench/Tally" "frames" "J" (.long (0 : Int64)) := (Fn5_frames.keep K8 nin0)
      have F_136 : Fld Z T8.heap b5 "com/example/framewire/framewire/bench/Tally" "checksum" "J" (.long (0 : Int64)) := (Fn5_checksum.keep K8 nin0)
      exact B196 T8 _ _ (X8.more (cells' := 6) (slots' := 14) (by decide) (by decide)) rfl b2 b5 (0 : Int64) z135_l8 N8 Od_130 H135_S_java_lang_String_COMPACT_STRINGS H135_S_java_lang_Integer_IntegerCache_high H135_S_java_lang_Integer_IntegerCache_cache Zs_131 Ex_132 Fn12 F_133 Ex_134 F_135 F_136 ne_b2_b5 ge_b2 ge_b5
    · skip
      refine Fini.st (fun _ k => XS.icmpNo X8.here hx rfl (hb hby at_162) rfl (XT.ii_lt_f c10) k) ?_
      show Fini p e below s _ _ _ T8 (mkF m 165 #[.val (.int p0), .val (.int p1), .val (.int (own_s p5 p2 p0)), .val (.int (own_s p5 p3 p1)), .val (.int p4), .val (.int p5), .val (.int (g0_6 p5)), .val (.int (g0_16 p5)), .val (.int z135_l8), .val (.int (g0_39 p4)), .val (.int (g0_48 p4)), .val (.int (g0_58 p4)), .val (.int (g0_68 p4)), .val (.int (own_s p5 (g0_78 p4) (g0_39 p4))), .val (.int (own_s p5 (g0_88 p4) (g0_48 p4))), .val (.int (own_s p5 (g0_98 p4) (g0_58 p4))), .val (.int (own_s p5 (g0_108 p4) (g0_68 p4))), .val (.ref b2), .val (.ref b5), .val (.long (0 : Int64)), .second, .val (.long (0 : Int64)), .second, .unset] [])
      refine Fini.st (fun _ k => XS.aload X8.here hx rfl (hb hby at_165) rfl rfl k) ?_
      show Fini p e below s _ _ _ T8 (mkF m 167 #[.val (.int p0), .val (.int p1), .val (.int (own_s p5 p2 p0)), .val (.int (own_s p5 p3 p1)), .val (.int p4), .val (.int p5), .val (.int (g0_6 p5)), .val (.int (g0_16 p5)), .val (.int z135_l8), .val (.int (g0_39 p4)), .val (.int (g0_48 p4)), .val (.int (g0_58 p4)), .val (.int (g0_68 p4)), .val (.int (own_s p5 (g0_78 p4) (g0_39 p4))), .val (.int (own_s p5 (g0_88 p4) (g0_48 p4))), .val (.int (own_s p5 (g0_98 p4) (g0_58 p4))), .val (.int (own_s p5 (g0_108 p4) (g0_68 p4))), .val (.ref b2), .val (.ref b5), .val (.long (0 : Int64)), .second, .val (.long (0 : Int64)), .second, .unset] [(.ref b2)])
      refine Fini.st (fun _ k => XS.iloadN X8.here hx rfl (hb hby at_167) rfl k) ?_
      show Fini p e below s _ _ _ T8 (mkF m 168 #[.val (.int p0), .val (.int p1), .val (.int (own_s p5 p2 p0)), .val (.int (own_s p5 p3 p1)), .val (.int p4), .val (.int p5), .val (.int (g0_6 p5)), .val (.int (g0_16 p5)), .val (.int z135_l8), .val (.int (g0_39 p4)), .val (.int (g0_48 p4)), .val (.int (g0_58 p4)), .val (.int (g0_68 p4)), .val (.int (own_s p5 (g0_78 p4) (g0_39 p4))), .val (.int (own_s p5 (g0_88 p4) (g0_48 p4))), .val (.int (own_s p5 (g0_98 p4) (g0_58 p4))), .val (.int (own_s p5 (g0_108 p4) (g0_68 p4))), .val (.ref b2), .val (.ref b5), .val (.long (0 : Int64)), .second, .val (.long (0 : Int64)), .second, .unset] [(.int p0), (.ref b2)])
      refine Fini.st (fun _ k => XS.aconstNull X8.here hx rfl (hb hby at_168) k) ?_
      show Fini p e below s _ _ _ T8 (mkF m 169 #[.val (.int p0), .val (.int p1), .val (.int (own_s p5 p2 p0)), .val (.int (own_s p5 p3 p1)), .val (.int p4), .val (.int p5), .val (.int (g0_6 p5)), .val (.int (g0_16 p5)), .val (.int z135_l8), .val (.int (g0_39 p4)), .val (.int (g0_48 p4)), .val (.int (g0_58 p4)), .val (.int (g0_68 p4)), .val (.int (own_s p5 (g0_78 p4) (g0_39 p4))), .val (.int (own_s p5 (g0_88 p4) (g0_48 p4))), .val (.int (own_s p5 (g0_98 p4) (g0_58 p4))), .val (.int (own_s p5 (g0_108 p4) (g0_68 p4))), .val (.ref b2), .val (.ref b5), .val (.long (0 : Int64)), .second, .val (.long (0 : Int64)), .second, .unset] [.null, (.int p0), (.ref b2)])
      refine Fini.st (fun _ k => XS.iload X8.here hx rfl (hb hby at_169) rfl k) ?_
      show Fini p e below s _ _ _ T8 (mkF m 171 #[.val (.int p0), .val (.int p1), .val (.int (own_s p5 p2 p0)), .val (.int (own_s p5 p3 p1)), .val (.int p4), .val (.int p5), .val (.int (g0_6 p5)), .val (.int (g0_16 p5)), .val (.int z135_l8), .val (.int (g0_39 p4)), .val (.int (g0_48 p4)), .val (.int (g0_58 p4)), .val (.int (g0_68 p4)), .val (.int (own_s p5 (g0_78 p4) (g0_39 p4))), .val (.int (own_s p5 (g0_88 p4) (g0_48 p4))), .val (.int (own_s p5 (g0_98 p4) (g0_58 p4))), .val (.int (own_s p5 (g0_108 p4) (g0_68 p4))), .val (.ref b2), .val (.ref b5), .val (.long (0 : Int64)), .second, .val (.long (0 : Int64)), .second, .unset] [(.int (g0_39 p4)), .null, (.int p0), (.ref b2)])
      refine Fini.st (fun _ k => XS.i2c X8.here hx rfl (hb hby at_171) rfl k) ?_
      show Fini p e below s _ _ _ T8 (mkF m 172 #[.val (.int p0), .val (.int p1), .val (.int (own_s p5 p2 p0)), .val (.int (own_s p5 p3 p1)), .val (.int p4), .val (.int p5), .val (.int (g0_6 p5)), .val (.int (g0_16 p5)), .val (.int z135_l8), .val (.int (g0_39 p4)), .val (.int (g0_48 p4)), .val (.int (g0_58 p4)), .val (.int (g0_68 p4)), .val (.int (own_s p5 (g0_78 p4) (g0_39 p4))), .val (.int (own_s p5 (g0_88 p4) (g0_48 p4))), .val (.int (own_s p5 (g0_98 p4) (g0_58 p4))), .val (.int (own_s p5 (g0_108 p4) (g0_68 p4))), .val (.ref b2), .val (.ref b5), .val (.long (0 : Int64)), .second, .val (.long (0 : Int64)), .second, .unset] [(.int (g0_39 p4).toUInt32.toUInt16.toUInt32.toInt32), .null, (.int p0), (.ref b2)])
      have Zs_14 : n0 ≤ T8.heap.size := (Nat.le_trans Zs_9 K8.1)
      have Od_15 : Old Z n0 T8.heap := (Old.keep (Old.ext (Old.keep (Old.ext H135_D E2) K3 all0) E5) K8 all0)
      obtain ⟨v13, T13, L13, X13, hQ13, st13⟩ := callQ X8 hx hZ hown (hw _ (List.mem_of_getElem? (i := 30) rfl)) (hw _ (List.mem_of_getElem? (i := 31) rfl)) (hw _ (List.mem_of_getElem? (i := 32) rfl)) (hw _ (List.mem_of_getElem? (i := 33) rfl)) (by decide) (rm5 l Z a0 hw [] ((g0_39 p4).toUInt32.toUInt16.toUInt32.toInt32) cs T8.heap n0 Zs_14 Od_15 S_cs hcs (own_c (show small (g0_39 p4) from own_sm _))) rfl (W := 3) (by decide) (by decide) (by decide) (by decide) (g := (mkF m 172 #[.val (.int p0), .val (.int p1), .val (.int (own_s p5 p2 p0)), .val (.int (own_s p5 p3 p1)), .val (.int p4), .val (.int p5), .val (.int (g0_6 p5)), .val (.int (g0_16 p5)), .val (.int z135_l8), .val (.int (g0_39 p4)), .val (.int (g0_48 p4)), .val (.int (g0_58 p4)), .val (.int (g0_68 p4)), .val (.int (own_s p5 (g0_78 p4) (g0_39 p4))), .val (.int (own_s p5 (g0_88 p4) (g0_48 p4))), .val (.int (own_s p5 (g0_98 p4) (g0_58 p4))), .val (.int (own_s p5 (g0_108 p4) (g0_68 p4))), .val (.ref b2), .val (.ref b5), .val (.long (0 : Int64)), .second, .val (.long (0 : Int64)), .second, .unset] [(.int (g0_39 p4).toUInt32.toUInt16.toUInt32.toInt32), .null, (.int p0), (.ref b2)])) rfl (by rw [hml]; rfl) (argsL := [(.int (g0_39 p4).toUInt32.toUInt16.toUInt32.toInt32)]) (rest := [.null, (.int p0), (.ref b2)]) rfl (lenOf pd_8 rfl) rfl (by show 2 * 0 + _ ≤ _; exact Nat.le_of_eq rfl) (hb hby at_172)
      obtain ⟨b13, a13, rfl, Nq13, K13, sb13, sa13, gb13, ga13, nb13, Es13, Fv13, Fc13, Fh13, Fz13, Ar13⟩ := hQ13
      have Ex_16 : Exa Z T8.heap b2 "com/example/framewire/framewire/bench/Tally" := ((Ex_6.ext E5).keep K8)
      have ne_b2_b13 : b2 ≠ b13 := Nat.ne_of_lt (Nat.lt_of_lt_of_le Ex_16.lt sb13)
      have Ex_17 : Exa Z T8.heap b5 "com/example/framewire/framewire/bench/Tally" := (A5.keep K8)
      have ne_b5_b13 : b5 ≠ b13 := Nat.ne_of_lt (Nat.lt_of_lt_of_le Ex_17.lt sb13)
      have ne_b2_a13 : b2 ≠ a13 := Nat.ne_of_lt (Nat.lt_of_lt_of_le Ex_16.lt sa13)
      have ne_b5_a13 : b5 ≠ a13 := Nat.ne_of_lt (Nat.lt_of_lt_of_le Ex_17.lt sa13)
      have N13 := Fr.app N8 Nq13
      refine Fini.st st13 ?_
      show Fini p e below s _ _ _ T13 (mkF m 175 #[.val (.int p0), .val (.int p1), .val (.int (own_s p5 p2 p0)), .val (.int (own_s p5 p3 p1)), .val (.int p4), .val (.int p5), .val (.int (g0_6 p5)), .val (.int (g0_16 p5)), .val (.int z135_l8), .val (.int (g0_39 p4)), .val (.int (g0_48 p4)), .val (.int (g0_58 p4)), .val (.int (g0_68 p4)), .val (.int (own_s p5 (g0_78 p4) (g0_39 p4))), .val (.int (own_s p5 (g0_88 p4) (g0_48 p4))), .val (.int (own_s p5 (g0_98 p4) (g0_58 p4))), .val (.int (own_s p5 (g0_108 p4) (g0_68 p4))), .val (.ref b2), .val (.ref b5), .val (.long (0 : Int64)), .second, .val (.long (0 : Int64)), .second, .unset] [(.ref b13), .null, (.int p0), (.ref b2)])
      refine Fini.st (fun _ k => XS.iload X13.here hx rfl (hb hby at_175) rfl k) ?_
      show Fini p e below s _ _ _ T13 (mkF m 177 #[.val (.int p0), .val (.int p1), .val (.int (own_s p5 p2 p0)), .val (.int (own_s p5 p3 p1)), .val (.int p4), .val (.int p5), .val (.int (g0_6 p5)), .val (.int (g0_16 p5)), .val (.int z135_l8), .val (.int (g0_39 p4)), .val (.int (g0_48 p4)), .val (.int (g0_58 p4)), .val (.int (g0_68 p4)), .val (.int (own_s p5 (g0_78 p4) (g0_39 p4))), .val (.int (own_s p5 (g0_88 p4) (g0_48 p4))), .val (.int (own_s p5 (g0_98 p4) (g0_58 p4))), .val (.int (own_s p5 (g0_108 p4) (g0_68 p4))), .val (.ref b2), .val (.ref b5), .val (.long (0 : Int64)), .second, .val (.long (0 : Int64)), .second, .unset] [(.int (g0_48 p4)), (.ref b13), .null, (.int p0), (.ref b2)])
      refine Fini.st (fun _ k => XS.i2c X13.here hx rfl (hb hby at_177) rfl k) ?_
      show Fini p e below s _ _ _ T13 (mkF m 178 #[.val (.int p0), .val (.int p1), .val (.int (own_s p5 p2 p0)), .val (.int (own_s p5 p3 p1)), .val (.int p4), .val (.int p5), .val (.int (g0_6 p5)), .val (.int (g0_16 p5)), .val (.int z135_l8), .val (.int (g0_39 p4)), .val (.int (g0_48 p4)), .val (.int (g0_58 p4)), .val (.int (g0_68 p4)), .val (.int (own_s p5 (g0_78 p4) (g0_39 p4))), .val (.int (own_s p5 (g0_88 p4) (g0_48 p4))), .val (.int (own_s p5 (g0_98 p4) (g0_58 p4))), .val (.int (own_s p5 (g0_108 p4) (g0_68 p4))), .val (.ref b2), .val (.ref b5), .val (.long (0 : Int64)), .second, .val (.long (0 : Int64)), .second, .unset] [(.int (g0_48 p4).toUInt32.toUInt16.toUInt32.toInt32), (.ref b13), .null, (.int p0), (.ref b2)])
      have Zs_19 : n0 ≤ T13.heap.size := (Nat.le_trans Zs_14 K13.1)
      have Od_20 : Old Z n0 T13.heap := (Old.keep Od_15 K13 all0)
      obtain ⟨v18, T18, L18, X18, hQ18, st18⟩ := callQ X13 hx hZ hown (hw _ (List.mem_of_getElem? (i := 30) rfl)) (hw _ (List.mem_of_getElem? (i := 31) rfl)) (hw _ (List.mem_of_getElem? (i := 32) rfl)) (hw _ (List.mem_of_getElem? (i := 33) rfl)) (by decide) (rm5 l Z a0 hw [] ((g0_48 p4).toUInt32.toUInt16.toUInt32.toInt32) cs T13.heap n0 Zs_19 Od_20 S_cs hcs (own_c (show small (g0_48 p4) from own_sm _))) rfl (W := 4) (by decide) (by decide) (by decide) (by decide) (g := (mkF m 178 #[.val (.int p0), .val (.int p1), .val (.int (own_s p5 p2 p0)), .val (.int (own_s p5 p3 p1)), .val (.int p4), .val (.int p5), .val (.int (g0_6 p5)), .val (.int (g0_16 p5)), .val (.int z135_l8), .val (.int (g0_39 p4)), .val (.int (g0_48 p4)), .val (.int (g0_58 p4)), .val (.int (g0_68 p4)), .val (.int (own_s p5 (g0_78 p4) (g0_39 p4))), .val (.int (own_s p5 (g0_88 p4) (g0_48 p4))), .val (.int (own_s p5 (g0_98 p4) (g0_58 p4))), .val (.int (own_s p5 (g0_108 p4) (g0_68 p4))), .val (.ref b2), .val (.ref b5), .val (.long (0 : Int64)), .second, .val (.long (0 : Int64)), .second, .unset] [(.int (g0_48 p4).toUInt32.toUInt16.toUInt32.toInt32), (.ref b13), .null, (.int p0), (.ref b2)])) rfl (by rw [hml]; rfl) (argsL := [(.int (g0_48 p4).toUInt32.toUInt16.toUInt32.toInt32)]) (rest := [(.ref b13), .null, (.int p0), (.ref b2)]) rfl (lenOf pd_8 rfl) rfl (by show 2 * 0 + _ ≤ _; exact Nat.le_of_eq rfl) (hb hby at_178)
      obtain ⟨b18, a18, rfl, Nq18, K18, sb18, sa18, gb18, ga18, nb18, Es18, Fv18, Fc18, Fh18, Fz18, Ar18⟩ := hQ18
      have Ex_21 : Exa Z T13.heap b2 "com/example/framewire/framewire/bench/Tally" := (Ex_16.keep K13)
      have ne_b2_b18 : b2 ≠ b18 := Nat.ne_of_lt (Nat.lt_of_lt_of_le Ex_21.lt sb18)
      have Ex_22 : Exa Z T13.heap b5 "com/example/framewire/framewire/bench/Tally" := (Ex_17.keep K13)
      have ne_b5_b18 : b5 ≠ b18 := Nat.ne_of_lt (Nat.lt_of_lt_of_le Ex_22.lt sb18)
      have ne_b13_b18 : b13 ≠ b18 := Nat.ne_of_lt (Nat.lt_of_lt_of_le Es13.lt sb18)
      have ne_a13_b18 : a13 ≠ b18 := Nat.ne_of_lt (Nat.lt_of_lt_of_le Ar13.lt sb18)
      have ne_b2_a18 : b2 ≠ a18 := Nat.ne_of_lt (Nat.lt_of_lt_of_le Ex_21.lt sa18)
      have ne_b5_a18 : b5 ≠ a18 := Nat.ne_of_lt (Nat.lt_of_lt_of_le Ex_22.lt sa18)
      have ne_b13_a18 : b13 ≠ a18 := Nat.ne_of_lt (Nat.lt_of_lt_of_le Es13.lt sa18)
      have ne_a13_a18 : a13 ≠ a18 := Nat.ne_of_lt (Nat.lt_of_lt_of_le Ar13.lt sa18)
      have N18 := Fr.app N13 Nq18
      refine Fini.st st18 ?_
      show Fini p e below s _ _ _ T18 (mkF m 181 #[.val (.int p0), .val (.int p1), .val (.int (own_s p5 p2 p0)), .val (.int (own_s p5 p3 p1)), .val (.int p4), .val (.int p5), .val (.int (g0_6 p5)), .val (.int (g0_16 p5)), .val (.int z135_l8), .val (.int (g0_39 p4)), .val (.int (g0_48 p4)), .val (.int (g0_58 p4)), .val (.int (g0_68 p4)), .val (.int (own_s p5 (g0_78 p4) (g0_39 p4))), .val (.int (own_s p5 (g0_88 p4) (g0_48 p4))), .val (.int (own_s p5 (g0_98 p4) (g0_58 p4))), .val (.int (own_s p5 (g0_108 p4) (g0_68 p4))), .val (.ref b2), .val (.ref b5), .val (.long (0 : Int64)), .second, .val (.long (0 : Int64)), .second, .unset] [(.ref b18), (.ref b13), .null, (.int p0), (.ref b2)])
      have Zs_24 : n0 ≤ T18.heap.size := (Nat.le_trans Zs_19 K18.1)
      have Ex_25 : Exa Z T18.heap b2 "com/example/framewire/framewire/bench/Tally" := (Ex_21.keep K18)
      have F_26 : Fld Z T18.heap b2 "com/example/framewire/framewire/bench/Tally" "frames" "J" (.long (0 : Int64)) := (((((Fn2_frames.keep K3 nin0).ext E5).keep K8 nin0).keep K13 nin0).keep K18 nin0)
      have F_27 : Fld Z T18.heap b2 "com/example/framewire/framewire/bench/Tally" "checksum" "J" (.long (0 : Int64)) := (((((Fn2_checksum.keep K3 nin0).ext E5).keep K8 nin0).keep K13 nin0).keep K18 nin0)
      have Ex_28 : Exa Z T18.heap b13 "java/lang/String" := (Es13.keep K18)
      have F_29 : Fld Z T18.heap b13 "java/lang/String" "value" "[B" (.ref a13) := (Fv13.keep K18 nin0)
      have F_30 : Fld Z T18.heap b13 "java/lang/String" "coder" "B" (.int (0 : Int32)) := (Fc13.keep K18 nin0)
      have F_31 : Fld Z T18.heap b13 "java/lang/String" "hash" "I" (.int (0 : Int32)) := (Fh13.keep K18 nin0)
      have F_32 : Fld Z T18.heap b13 "java/lang/String" "hashIsZero" "Z" (.int (0 : Int32)) := (Fz13.keep K18 nin0)
      have Ar_33 : AryI Z T18.heap a13 .byte (1 : Int32) (own_u ((g0_39 p4).toUInt32.toUInt16.toUInt32.toInt32)) := (Ar13.keep K18 nin0)
      have Od_34 : Old Z n0 T18.heap := (Old.keep Od_20 K18 all0)
      obtain ⟨v23, T23, L23, X23, hQ23, st23⟩ := callV X18 hx hZ hown (hw _ (List.mem_of_getElem? (i := 54) rfl)) (hw _ (List.mem_of_getElem? (i := 55) rfl)) (hw _ (List.mem_of_getElem? (i := 57) rfl)) (hw _ (List.mem_of_getElem? (i := 56) rfl)) (hw _ (List.mem_of_getElem? (i := 2) rfl)) (hw _ (List.mem_of_getElem? (i := 58) rfl)) (notFace_of_selects (args := #[]) (mvT hZ (hw _ (List.mem_of_getElem? (i := 57) rfl)))) Ex_25 (by decide) (rm9 l Z a0 hw [] b2 p0 b13 b18 cs (0 : Int64) (0 : Int64) a13 (own_u ((g0_39 p4).toUInt32.toUInt16.toUInt32.toInt32)) a18 (own_u ((g0_48 p4).toUInt32.toUInt16.toUInt32.toInt32)) T18.heap n0 Zs_24 Ex_25 F_26 F_27 Ex_28 F_29 F_30 F_31 F_32 Ar_33 Es18 Fv18 Fc18 Fh18 Fz18 Ar18 Od_34 S_cs ge_b2 gb13 gb18 ne_b2_b13 ne_b2_b18 ne_b13_b18 ne_b13_a18 hcs) rfl (W := 0) (by decide) (by decide) (by decide) (by decide) (g := (mkF m 181 #[.val (.int p0), .val (.int p1), .val (.int (own_s p5 p2 p0)), .val (.int (own_s p5 p3 p1)), .val (.int p4), .val (.int p5), .val (.int (g0_6 p5)), .val (.int (g0_16 p5)), .val (.int z135_l8), .val (.int (g0_39 p4)), .val (.int (g0_48 p4)), .val (.int (g0_58 p4)), .val (.int (g0_68 p4)), .val (.int (own_s p5 (g0_78 p4) (g0_39 p4))), .val (.int (own_s p5 (g0_88 p4) (g0_48 p4))), .val (.int (own_s p5 (g0_98 p4) (g0_58 p4))), .val (.int (own_s p5 (g0_108 p4) (g0_68 p4))), .val (.ref b2), .val (.ref b5), .val (.long (0 : Int64)), .second, .val (.long (0 : Int64)), .second, .unset] [(.ref b18), (.ref b13), .null, (.int p0), (.ref b2)])) rfl (by rw [hml]; rfl) (argsL := [(.int p0), .null, (.ref b13), (.ref b18)]) (rest := []) rfl (lenOf pd_9 rfl) rfl (by show 2 * 0 + _ ≤ _; exact Nat.le_of_eq rfl) (hb hby at_181)
      obtain ⟨rfl, Nq23, K23, Fr23, Fk23⟩ := hQ23
      rw [own_hx (show small (g0_39 p4) from own_sm _), own_hx (show small (g0_48 p4) from own_sm _)] at Fk23
      have N23 := Fr.app N18 Nq23
      have Fq23 : Fld Z T23.heap b2 "com/example/framewire/framewire/bench/Tally" "checksum" "J" (.long (g0_181 p0 p4)) := Fk23
      refine Fini.st st23 ?_
      show Fini p e below s _ _ _ T23 (mkF m 184 #[.val (.int p0), .val (.int p1), .val (.int (own_s p5 p2 p0)), .val (.int (own_s p5 p3 p1)), .val (.int p4), .val (.int p5), .val (.int (g0_6 p5)), .val (.int (g0_16 p5)), .val (.int z135_l8), .val (.int (g0_39 p4)), .val (.int (g0_48 p4)), .val (.int (g0_58 p4)), .val (.int (g0_68 p4)), .val (.int (own_s p5 (g0_78 p4) (g0_39 p4))), .val (.int (own_s p5 (g0_88 p4) (g0_48 p4))), .val (.int (own_s p5 (g0_98 p4) (g0_58 p4))), .val (.int (own_s p5 (g0_108 p4) (g0_68 p4))), .val (.ref b2), .val (.ref b5), .val (.long (0 : Int64)), .second, .val (.long (0 : Int64)), .second, .unset] [])
      refine Fini.st (fun _ k => XS.lload X23.here hx rfl (hb hby at_184) rfl k) ?_
      show Fini p e below s _ _ _ T23 (mkF m 186 #[.val (.int p0), .val (.int p1), .val (.int (own_s p5 p2 p0)), .val (.int (own_s p5 p3 p1)), .val (.int p4), .val (.int p5), .val (.int (g0_6 p5)), .val (.int (g0_16 p5)), .val (.int z135_l8), .val (.int (g0_39 p4)), .val (.int (g0_48 p4)), .val (.int (g0_58 p4)), .val (.int (g0_68 p4)), .val (.int (own_s p5 (g0_78 p4) (g0_39 p4))), .val (.int (own_s p5 (g0_88 p4) (g0_48 p4))), .val (.int (own_s p5 (g0_98 p4) (g0_58 p4))), .val (.int (own_s p5 (g0_108 p4) (g0_68 p4))), .val (.ref b2), .val (.ref b5), .val (.long (0 : Int64)), .second, .val (.long (0 : Int64)), .second, .unset] [(.long (0 : Int64))])
      refine Fini.st (fun _ k => XS.iloadN X23.here hx rfl (hb hby at_186) rfl k) ?_
      show Fini p e below s _ _ _ T23 (mkF m 187 #[.val (.int p0), .val (.int p1), .val (.int (own_s p5 p2 p0)), .val (.int (own_s p5 p3 p1)), .val (.int p4), .val (.int p5), .val (.int (g0_6 p5)), .val (.int (g0_16 p5)), .val (.int z135_l8), .val (.int (g0_39 p4)), .val (.int (g0_48 p4)), .val (.int (g0_58 p4)), .val (.int (g0_68 p4)), .val (.int (own_s p5 (g0_78 p4) (g0_39 p4))), .val (.int (own_s p5 (g0_88 p4) (g0_48 p4))), .val (.int (own_s p5 (g0_98 p4) (g0_58 p4))), .val (.int (own_s p5 (g0_108 p4) (g0_68 p4))), .val (.ref b2), .val (.ref b5), .val (.long (0 : Int64)), .second, .val (.long (0 : Int64)), .second, .unset] [(.int p0), (.long (0 : Int64))])
      refine Fini.st (fun _ k => XS.iload X23.here hx rfl (hb hby at_187) rfl k) ?_
      show Fini p e below s _ _ _ T23 (mkF m 189 #[.val (.int p0), .val (.int p1), .val (.int (own_s p5 p2 p0)), .val (.int (own_s p5 p3 p1)), .val (.int p4), .val (.int p5), .val (.int (g0_6 p5)), .val (.int (g0_16 p5)), .val (.int z135_l8), .val (.int (g0_39 p4)), .val (.int (g0_48 p4)), .val (.int (g0_58 p4)), .val (.int (g0_68 p4)), .val (.int (own_s p5 (g0_78 p4) (g0_39 p4))), .val (.int (own_s p5 (g0_88 p4) (g0_48 p4))), .val (.int (own_s p5 (g0_98 p4) (g0_58 p4))), .val (.int (own_s p5 (g0_108 p4) (g0_68 p4))), .val (.ref b2), .val (.ref b5), .val (.long (0 : Int64)), .second, .val (.long (0 : Int64)), .second, .unset] [(.int (g0_39 p4)), (.int p0), (.long (0 : Int64))])
      refine Fini.st (fun _ k => XS.iload X23.here hx rfl (hb hby at_189) rfl k) ?_
      show Fini p e below s _ _ _ T23 (mkF m 191 #[.val (.int p0), .val (.int p1), .val (.int (own_s p5 p2 p0)), .val (.int (own_s p5 p3 p1)), .val (.int p4), .val (.int p5), .val (.int (g0_6 p5)), .val (.int (g0_16 p5)), .val (.int z135_l8), .val (.int (g0_39 p4)), .val (.int (g0_48 p4)), .val (.int (g0_58 p4)), .val (.int (g0_68 p4)), .val (.int (own_s p5 (g0_78 p4) (g0_39 p4))), .val (.int (own_s p5 (g0_88 p4) (g0_48 p4))), .val (.int (own_s p5 (g0_98 p4) (g0_58 p4))), .val (.int (own_s p5 (g0_108 p4) (g0_68 p4))), .val (.ref b2), .val (.ref b5), .val (.long (0 : Int64)), .second, .val (.long (0 : Int64)), .second, .unset] [(.int (g0_48 p4)), (.int (g0_39 p4)), (.int p0), (.long (0 : Int64))])
      obtain ⟨T35, X35, e35, st35⟩ := pureS X23 hx hZ hown (hw _ (List.mem_of_getElem? (i := 77) rfl)) (hw _ (List.mem_of_getElem? (i := 78) rfl)) (hw _ (List.mem_of_getElem? (i := 79) rfl)) (hw _ (List.mem_of_getElem? (i := 80) rfl)) (by decide) (rm13 l Z a0 hw [] (0 : Int64) p0 (g0_39 p4) (g0_48 p4) T23.heap) rfl (W := 0) (by decide) (by decide) (by decide) (by decide) (g := (mkF m 191 #[.val (.int p0), .val (.int p1), .val (.int (own_s p5 p2 p0)), .val (.int (own_s p5 p3 p1)), .val (.int p4), .val (.int p5), .val (.int (g0_6 p5)), .val (.int (g0_16 p5)), .val (.int z135_l8), .val (.int (g0_39 p4)), .val (.int (g0_48 p4)), .val (.int (g0_58 p4)), .val (.int (g0_68 p4)), .val (.int (own_s p5 (g0_78 p4) (g0_39 p4))), .val (.int (own_s p5 (g0_88 p4) (g0_48 p4))), .val (.int (own_s p5 (g0_98 p4) (g0_58 p4))), .val (.int (own_s p5 (g0_108 p4) (g0_68 p4))), .val (.ref b2), .val (.ref b5), .val (.long (0 : Int64)), .second, .val (.long (0 : Int64)), .second, .unset] [(.int (g0_48 p4)), (.int (g0_39 p4)), (.int p0), (.long (0 : Int64))])) rfl (by rw [hml]; rfl) (argsL := [(.long (0 : Int64)), (.int p0), (.int (g0_39 p4)), (.int (g0_48 p4))]) (rest := []) rfl (lenOf pd_10 rfl) rfl (by show 2 * 0 + _ ≤ _; exact Nat.le_of_eq rfl) (hb hby at_191)
      refine Fini.st st35 ?_
      show Fini p e below s _ _ _ T35 (mkF m 194 #[.val (.int p0), .val (.int p1), .val (.int (own_s p5 p2 p0)), .val (.int (own_s p5 p3 p1)), .val (.int p4), .val (.int p5), .val (.int (g0_6 p5)), .val (.int (g0_16 p5)), .val (.int z135_l8), .val (.int (g0_39 p4)), .val (.int (g0_48 p4)), .val (.int (g0_58 p4)), .val (.int (g0_68 p4)), .val (.int (own_s p5 (g0_78 p4) (g0_39 p4))), .val (.int (own_s p5 (g0_88 p4) (g0_48 p4))), .val (.int (own_s p5 (g0_98 p4) (g0_58 p4))), .val (.int (own_s p5 (g0_108 p4) (g0_68 p4))), .val (.ref b2), .val (.ref b5), .val (.long (0 : Int64)), .second, .val (.long (0 : Int64)), .second, .unset] [(.long (f13 (0 : Int64) p0 (g0_39 p4) (g0_48 p4)))])
      refine Fini.st (fun _ k => XS.lstore X35.here hx rfl (hb hby at_194) rfl (l' := #[.val (.int p0), .val (.int p1), .val (.int (own_s p5 p2 p0)), .val (.int (own_s p5 p3 p1)), .val (.int p4), .val (.int p5), .val (.int (g0_6 p5)), .val (.int (g0_16 p5)), .val (.int z135_l8), .val (.int (g0_39 p4)), .val (.int (g0_48 p4)), .val (.int (g0_58 p4)), .val (.int (g0_68 p4)), .val (.int (own_s p5 (g0_78 p4) (g0_39 p4))), .val (.int (own_s p5 (g0_88 p4) (g0_48 p4))), .val (.int (own_s p5 (g0_98 p4) (g0_58 p4))), .val (.int (own_s p5 (g0_108 p4) (g0_68 p4))), .val (.ref b2), .val (.ref b5), .val (.long (g0_181 p0 p4)), .second, .val (.long (0 : Int64)), .second, .unset]) rfl k) ?_
      show Fini p e below s _ _ _ T35 (mkF m 196 #[.val (.int p0), .val (.int p1), .val (.int (own_s p5 p2 p0)), .val (.int (own_s p5 p3 p1)), .val (.int p4), .val (.int p5), .val (.int (g0_6 p5)), .val (.int (g0_16 p5)), .val (.int z135_l8), .val (.int (g0_39 p4)), .val (.int (g0_48 p4)), .val (.int (g0_58 p4)), .val (.int (g0_68 p4)), .val (.int (own_s p5 (g0_78 p4) (g0_39 p4))), .val (.int (own_s p5 (g0_88 p4) (g0_48 p4))), .val (.int (own_s p5 (g0_98 p4) (g0_58 p4))), .val (.int (own_s p5 (g0_108 p4) (g0_68 p4))), .val (.ref b2), .val (.ref b5), .val (.long (g0_181 p0 p4)), .second, .val (.long (0 : Int64)), .second, .unset] [])
      have Fn36 : Fld Z T23.heap b2 "com/example/framewire/framewire/bench/Tally" "frames" "J" (.long (own_n1 (g0_6 p5))) := by rw [show own_n1 (g0_6 p5) = ((0 : Int64) + (1 : Int64)) from if_neg c10]; exact Fr23
      have Od_137 : Old Z n0 T23.heap := (Old.keep Od_34 K23 (allS (P := fun x => n0 ≤ x) ge_b2 (allS (P := fun x => n0 ≤ x) gb13 (allS (P := fun x => n0 ≤ x) gb18 all0))))
      have Zs_138 : n0 ≤ T23.heap.size := (Nat.le_trans Zs_24 K23.1)
      have Ex_139 : Exa Z T23.heap b2 "com/example/framewire/framewire/bench/Tally" := (Ex_25.keep K23)
      have Ex_140 : Exa Z T23.heap b5 "com/example/framewire/framewire/bench/Tally" := ((Ex_22.keep K18).keep K23)
      have F_141 : Fld Z T23.heap b5 "com/example/framewire/framewire/bench/Tally" "frames" "J" (.long (0 : Int64)) := ((((Fn5_frames.keep K8 nin0).keep K13 nin0).keep K18 nin0).keep K23 (ninS (Ne.symm ne_b2_b5) (ninS ne_b5_b13 (ninS ne_b5_b18 nin0))))
      have F_142 : Fld Z T23.heap b5 "com/example/framewire/framewire/bench/Tally" "checksum" "J" (.long (0 : Int64)) := ((((Fn5_checksum.keep K8 nin0).keep K13 nin0).keep K18 nin0).keep K23 (ninS (Ne.symm ne_b2_b5) (ninS ne_b5_b13 (ninS ne_b5_b18 nin0))))
      exact B196 T35 _ _ (X35.more (cells' := 6) (slots' := 14) (by decide) (by decide)) e35 b2 b5 (g0_181 p0 p4) z135_l8 N23 Od_137 H135_S_java_lang_String_COMPACT_STRINGS H135_S_java_lang_Integer_IntegerCache_high H135_S_java_lang_Integer_IntegerCache_cache Zs_138 Ex_139 Fn36 Fq23 Ex_140 F_141 F_142 ne_b2_b5 ge_b2 ge_b5
  show Fini p e below s (fun v h' L => v = some (.int 1) ∧ Fr n0 L) _ _ s₁ (entryFrame m #[(.int p0), (.int p1), (.int p2), (.int p3), (.int p4), (.int p5)] maxLocals)
  refine Fini.cast (ef0 m p0 p1 p2 p3 p4 p5) ?_
  show Fini p e below s _ _ _ s₁ (mkF m 0 #[.val (.int p0), .val (.int p1), .val (.int p2), .val (.int p3), .val (.int p4), .val (.int p5), .unset, .unset, .unset, .unset, .unset, .unset, .unset, .unset, .unset, .unset, .unset, .unset, .unset, .unset, .unset, .unset, .unset, .unset] [])
  refine Fini.st (fun _ k => XS.iload X0.here hx rfl (hb hby at_0) rfl k) ?_
  show Fini p e below s _ _ _ s₁ (mkF m 2 #[.val (.int p0), .val (.int p1), .val (.int p2), .val (.int p3), .val (.int p4), .val (.int p5), .unset, .unset, .unset, .unset, .unset, .unset, .unset, .unset, .unset, .unset, .unset, .unset, .unset, .unset, .unset, .unset, .unset, .unset] [(.int p5)])
  refine Fini.st (fun _ k => XS.iconst X0.here hx rfl (hb hby at_2) k) ?_
  show Fini p e below s _ _ _ s₁ (mkF m 3 #[.val (.int p0), .val (.int p1), .val (.int p2), .val (.int p3), .val (.int p4), .val (.int p5), .unset, .unset, .unset, .unset, .unset, .unset, .unset, .unset, .unset, .unset, .unset, .unset, .unset, .unset, .unset, .unset, .unset, .unset] [(.int (3 : Int32)), (.int p5)])
  refine Fini.st (fun _ k => XS.iand X0.here hx rfl (hb hby at_3) rfl k) ?_
  show Fini p e below s _ _ _ s₁ (mkF m 4 #[.val (.int p0), .val (.int p1), .val (.int p2), .val (.int p3), .val (.int p4), .val (.int p5), .unset, .unset, .unset, .unset, .unset, .unset, .unset, .unset, .unset, .unset, .unset, .unset, .unset, .unset, .unset, .unset, .unset, .unset] [(.int (p5 &&& (3 : Int32)))])
  refine Fini.st (fun _ k => XS.iconst X0.here hx rfl (hb hby at_4) k) ?_
  show Fini p e below s _ _ _ s₁ (mkF m 5 #[.val (.int p0), .val (.int p1), .val (.int p2), .val (.int p3), .val (.int p4), .val (.int p5), .unset, .unset, .unset, .unset, .unset, .unset, .unset, .unset, .unset, .unset, .unset, .unset, .unset, .unset, .unset, .unset, .unset, .unset] [(.int (3 : Int32)), (.int (p5 &&& (3 : Int32)))])
  refine Fini.st (fun _ k => iremM X0 hx rfl (hb hby at_5) rfl (by decide) k) ?_
  show Fini p e below s _ _ _ s₁ (mkF m 6 #[.val (.int p0), .val (.int p1), .val (.int p2), .val (.int p3), .val (.int p4), .val (.int p5), .unset, .unset, .unset, .unset, .unset, .unset, .unset, .unset, .unset, .unset, .unset, .unset, .unset, .unset, .unset, .unset, .unset, .unset] [(.int ((p5 &&& (3 : Int32)) % (3 : Int32)))])
  refine Fini.st (fun _ k => XS.istore X0.here hx rfl (hb hby at_6) rfl (l' := #[.val (.int p0), .val (.int p1), .val (.int p2), .val (.int p3), .val (.int p4), .val (.int p5), .val (.int (g0_6 p5)), .unset, .unset, .unset, .unset, .unset, .unset, .unset, .unset, .unset, .unset, .unset, .unset, .unset, .unset, .unset, .unset, .unset]) rfl k) ?_
  show Fini p e below s _ _ _ s₁ (mkF m 8 #[.val (.int p0), .val (.int p1), .val (.int p2), .val (.int p3), .val (.int p4), .val (.int p5), .val (.int (g0_6 p5)), .unset, .unset, .unset, .unset, .unset, .unset, .unset, .unset, .unset, .unset, .unset, .unset, .unset, .unset, .unset, .unset, .unset] [])
  refine Fini.st (fun _ k => XS.iload X0.here hx rfl (hb hby at_8) rfl k) ?_
  show Fini p e below s _ _ _ s₁ (mkF m 10 #[.val (.int p0), .val (.int p1), .val (.int p2), .val (.int p3), .val (.int p4), .val (.int p5), .val (.int (g0_6 p5)), .unset, .unset, .unset, .unset, .unset, .unset, .unset, .unset, .unset, .unset, .unset, .unset, .unset, .unset, .unset, .unset, .unset] [(.int p5)])
  refine Fini.st (fun _ k => XS.iconst X0.here hx rfl (hb hby at_10) k) ?_
  show Fini p e below s _ _ _ s₁ (mkF m 11 #[.val (.int p0), .val (.int p1), .val (.int p2), .val (.int p3), .val (.int p4), .val (.int p5), .val (.int (g0_6 p5)), .unset, .unset, .unset, .unset, .unset, .unset, .unset, .unset, .unset, .unset, .unset, .unset, .unset, .unset, .unset, .unset, .unset] [(.int (2 : Int32)), (.int p5)])
  refine Fini.st (fun _ k => XS.iushr X0.here hx rfl (hb hby at_11) rfl k) ?_
  show Fini p e below s _ _ _ s₁ (mkF m 12 #[.val (.int p0), .val (.int p1), .val (.int p2), .val (.int p3), .val (.int p4), .val (.int p5), .val (.int (g0_6 p5)), .unset, .unset, .unset, .unset, .unset, .unset, .unset, .unset, .unset, .unset, .unset, .unset, .unset, .unset, .unset, .unset, .unset] [(.int (p5.toUInt32 >>> ((2 : Int32) &&& 31).toUInt32).toInt32)])
  refine Fini.st (fun _ k => XS.iconst X0.here hx rfl (hb hby at_12) k) ?_
  show Fini p e below s _ _ _ s₁ (mkF m 13 #[.val (.int p0), .val (.int p1), .val (.int p2), .val (.int p3), .val (.int p4), .val (.int p5), .val (.int (g0_6 p5)), .unset, .unset, .unset, .unset, .unset, .unset, .unset, .unset, .unset, .unset, .unset, .unset, .unset, .unset, .unset, .unset, .unset] [(.int (3 : Int32)), (.int (p5.toUInt32 >>> ((2 : Int32) &&& 31).toUInt32).toInt32)])
  refine Fini.st (fun _ k => XS.iand X0.here hx rfl (hb hby at_13) rfl k) ?_
  show Fini p e below s _ _ _ s₁ (mkF m 14 #[.val (.int p0), .val (.int p1), .val (.int p2), .val (.int p3), .val (.int p4), .val (.int p5), .val (.int (g0_6 p5)), .unset, .unset, .unset, .unset, .unset, .unset, .unset, .unset, .unset, .unset, .unset, .unset, .unset, .unset, .unset, .unset, .unset] [(.int ((p5.toUInt32 >>> ((2 : Int32) &&& 31).toUInt32).toInt32 &&& (3 : Int32)))])
  refine Fini.st (fun _ k => XS.iconst X0.here hx rfl (hb hby at_14) k) ?_
  show Fini p e below s _ _ _ s₁ (mkF m 15 #[.val (.int p0), .val (.int p1), .val (.int p2), .val (.int p3), .val (.int p4), .val (.int p5), .val (.int (g0_6 p5)), .unset, .unset, .unset, .unset, .unset, .unset, .unset, .unset, .unset, .unset, .unset, .unset, .unset, .unset, .unset, .unset, .unset] [(.int (3 : Int32)), (.int ((p5.toUInt32 >>> ((2 : Int32) &&& 31).toUInt32).toInt32 &&& (3 : Int32)))])
  refine Fini.st (fun _ k => iremM X0 hx rfl (hb hby at_15) rfl (by decide) k) ?_
  show Fini p e below s _ _ _ s₁ (mkF m 16 #[.val (.int p0), .val (.int p1), .val (.int p2), .val (.int p3), .val (.int p4), .val (.int p5), .val (.int (g0_6 p5)), .unset, .unset, .unset, .unset, .unset, .unset, .unset, .unset, .unset, .unset, .unset, .unset, .unset, .unset, .unset, .unset, .unset] [(.int (((p5.toUInt32 >>> ((2 : Int32) &&& 31).toUInt32).toInt32 &&& (3 : Int32)) % (3 : Int32)))])
  refine Fini.st (fun _ k => XS.istore X0.here hx rfl (hb hby at_16) rfl (l' := #[.val (.int p0), .val (.int p1), .val (.int p2), .val (.int p3), .val (.int p4), .val (.int p5), .val (.int (g0_6 p5)), .val (.int (g0_16 p5)), .unset, .unset, .unset, .unset, .unset, .unset, .unset, .unset, .unset, .unset, .unset, .unset, .unset, .unset, .unset, .unset]) rfl k) ?_
  show Fini p e below s _ _ _ s₁ (mkF m 18 #[.val (.int p0), .val (.int p1), .val (.int p2), .val (.int p3), .val (.int p4), .val (.int p5), .val (.int (g0_6 p5)), .val (.int (g0_16 p5)), .unset, .unset, .unset, .unset, .unset, .unset, .unset, .unset, .unset, .unset, .unset, .unset, .unset, .unset, .unset, .unset] [])
  refine Fini.st (fun _ k => XS.iload X0.here hx rfl (hb hby at_18) rfl k) ?_
  show Fini p e below s _ _ _ s₁ (mkF m 20 #[.val (.int p0), .val (.int p1), .val (.int p2), .val (.int p3), .val (.int p4), .val (.int p5), .val (.int (g0_6 p5)), .val (.int (g0_16 p5)), .unset, .unset, .unset, .unset, .unset, .unset, .unset, .unset, .unset, .unset, .unset, .unset, .unset, .unset, .unset, .unset] [(.int p5)])
  refine Fini.st (fun _ k => XS.iconst X0.here hx rfl (hb hby at_20) k) ?_
  show Fini p e below s _ _ _ s₁ (mkF m 21 #[.val (.int p0), .val (.int p1), .val (.int p2), .val (.int p3), .val (.int p4), .val (.int p5), .val (.int (g0_6 p5)), .val (.int (g0_16 p5)), .unset, .unset, .unset, .unset, .unset, .unset, .unset, .unset, .unset, .unset, .unset, .unset, .unset, .unset, .unset, .unset] [(.int (4 : Int32)), (.int p5)])
  refine Fini.st (fun _ k => XS.iushr X0.here hx rfl (hb hby at_21) rfl k) ?_
  show Fini p e below s _ _ _ s₁ (mkF m 22 #[.val (.int p0), .val (.int p1), .val (.int p2), .val (.int p3), .val (.int p4), .val (.int p5), .val (.int (g0_6 p5)), .val (.int (g0_16 p5)), .unset, .unset, .unset, .unset, .unset, .unset, .unset, .unset, .unset, .unset, .unset, .unset, .unset, .unset, .unset, .unset] [(.int (p5.toUInt32 >>> ((4 : Int32) &&& 31).toUInt32).toInt32)])
  refine Fini.st (fun _ k => XS.iconst X0.here hx rfl (hb hby at_22) k) ?_
  show Fini p e below s _ _ _ s₁ (mkF m 23 #[.val (.int p0), .val (.int p1), .val (.int p2), .val (.int p3), .val (.int p4), .val (.int p5), .val (.int (g0_6 p5)), .val (.int (g0_16 p5)), .unset, .unset, .unset, .unset, .unset, .unset, .unset, .unset, .unset, .unset, .unset, .unset, .unset, .unset, .unset, .unset] [(.int (1 : Int32)), (.int (p5.toUInt32 >>> ((4 : Int32) &&& 31).toUInt32).toInt32)])
  refine Fini.st (fun _ k => XS.iand X0.here hx rfl (hb hby at_23) rfl k) ?_
  show Fini p e below s _ _ _ s₁ (mkF m 24 #[.val (.int p0), .val (.int p1), .val (.int p2), .val (.int p3), .val (.int p4), .val (.int p5), .val (.int (g0_6 p5)), .val (.int (g0_16 p5)), .unset, .unset, .unset, .unset, .unset, .unset, .unset, .unset, .unset, .unset, .unset, .unset, .unset, .unset, .unset, .unset] [(.int ((p5.toUInt32 >>> ((4 : Int32) &&& 31).toUInt32).toInt32 &&& (1 : Int32)))])
  by_cases c1 : ((p5.toUInt32 >>> ((4 : Int32) &&& 31).toUInt32).toInt32 &&& (1 : Int32)) = (0 : Int32)
  · skip
    refine Fini.st (fun _ k => XS.ifYes X0.here hx rfl (pc0 := 24) (pc' := 31) rfl (hb hby at_24) rfl (XT.i0_eq_t c1) (by decide) (by decide) k) ?_
    show Fini p e below s _ _ _ s₁ (mkF m 31 #[.val (.int p0), .val (.int p1), .val (.int p2), .val (.int p3), .val (.int p4), .val (.int p5), .val (.int (g0_6 p5)), .val (.int (g0_16 p5)), .unset, .unset, .unset, .unset, .unset, .unset, .unset, .unset, .unset, .unset, .unset, .unset, .unset, .unset, .unset, .unset] [])
    refine Fini.st (fun _ k => XS.iconst X0.here hx rfl (hb hby at_31) k) ?_
    show Fini p e below s _ _ _ s₁ (mkF m 32 #[.val (.int p0), .val (.int p1), .val (.int p2), .val (.int p3), .val (.int p4), .val (.int p5), .val (.int (g0_6 p5)), .val (.int (g0_16 p5)), .unset, .unset, .unset, .unset, .unset, .unset, .unset, .unset, .unset, .unset, .unset, .unset, .unset, .unset, .unset, .unset] [(.int (0 : Int32))])
    refine Fini.st (fun _ k => XS.istore X0.here hx rfl (hb hby at_32) rfl (l' := #[.val (.int p0), .val (.int p1), .val (.int p2), .val (.int p3), .val (.int p4), .val (.int p5), .val (.int (g0_6 p5)), .val (.int (g0_16 p5)), .val (.int (0 : Int32)), .unset, .unset, .unset, .unset, .unset, .unset, .unset, .unset, .unset, .unset, .unset, .unset, .unset, .unset, .unset]) rfl k) ?_
    show Fini p e below s _ _ _ s₁ (mkF m 34 #[.val (.int p0), .val (.int p1), .val (.int p2), .val (.int p3), .val (.int p4), .val (.int p5), .val (.int (g0_6 p5)), .val (.int (g0_16 p5)), .val (.int (0 : Int32)), .unset, .unset, .unset, .unset, .unset, .unset, .unset, .unset, .unset, .unset, .unset, .unset, .unset, .unset, .unset] [])
    refine Fini.st (fun _ k => XS.iload X0.here hx rfl (hb hby at_34) rfl k) ?_
    show Fini p e below s _ _ _ s₁ (mkF m 36 #[.val (.int p0), .val (.int p1), .val (.int p2), .val (.int p3), .val (.int p4), .val (.int p5), .val (.int (g0_6 p5)), .val (.int (g0_16 p5)), .val (.int (0 : Int32)), .unset, .unset, .unset, .unset, .unset, .unset, .unset, .unset, .unset, .unset, .unset, .unset, .unset, .unset, .unset] [(.int p4)])
    refine Fini.st (fun _ k => XS.bipush X0.here hx rfl (hb hby at_36) k) ?_
    show Fini p e below s _ _ _ s₁ (mkF m 38 #[.val (.int p0), .val (.int p1), .val (.int p2), .val (.int p3), .val (.int p4), .val (.int p5), .val (.int (g0_6 p5)), .val (.int (g0_16 p5)), .val (.int (0 : Int32)), .unset, .unset, .unset, .unset, .unset, .unset, .unset, .unset, .unset, .unset, .unset, .unset, .unset, .unset, .unset] [(.int (15 : Int32)), (.int p4)])
    refine Fini.st (fun _ k => XS.iand X0.here hx rfl (hb hby at_38) rfl k) ?_
    show Fini p e below s _ _ _ s₁ (mkF m 39 #[.val (.int p0), .val (.int p1), .val (.int p2), .val (.int p3), .val (.int p4), .val (.int p5), .val (.int (g0_6 p5)), .val (.int (g0_16 p5)), .val (.int (0 : Int32)), .unset, .unset, .unset, .unset, .unset, .unset, .unset, .unset, .unset, .unset, .unset, .unset, .unset, .unset, .unset] [(.int (p4 &&& (15 : Int32)))])
    refine Fini.st (fun _ k => XS.istore X0.here hx rfl (hb hby at_39) rfl (l' := #[.val (.int p0), .val (.int p1), .val (.int p2), .val (.int p3), .val (.int p4), .val (.int p5), .val (.int (g0_6 p5)), .val (.int (g0_16 p5)), .val (.int (0 : Int32)), .val (.int (g0_39 p4)), .unset, .unset, .unset, .unset, .unset, .unset, .unset, .unset, .unset, .unset, .unset, .unset, .unset, .unset]) rfl k) ?_
    show Fini p e below s _ _ _ s₁ (mkF m 41 #[.val (.int p0), .val (.int p1), .val (.int p2), .val (.int p3), .val (.int p4), .val (.int p5), .val (.int (g0_6 p5)), .val (.int (g0_16 p5)), .val (.int (0 : Int32)), .val (.int (g0_39 p4)), .unset, .unset, .unset, .unset, .unset, .unset, .unset, .unset, .unset, .unset, .unset, .unset, .unset, .unset] [])
    refine Fini.st (fun _ k => XS.iload X0.here hx rfl (hb hby at_41) rfl k) ?_
    show Fini p e below s _ _ _ s₁ (mkF m 43 #[.val (.int p0), .val (.int p1), .val (.int p2), .val (.int p3), .val (.int p4), .val (.int p5), .val (.int (g0_6 p5)), .val (.int (g0_16 p5)), .val (.int (0 : Int32)), .val (.int (g0_39 p4)), .unset, .unset, .unset, .unset, .unset, .unset, .unset, .unset, .unset, .unset, .unset, .unset, .unset, .unset] [(.int p4)])
    refine Fini.st (fun _ k => XS.iconst X0.here hx rfl (hb hby at_43) k) ?_
    show Fini p e below s _ _ _ s₁ (mkF m 44 #[.val (.int p0), .val (.int p1), .val (.int p2), .val (.int p3), .val (.int p4), .val (.int p5), .val (.int (g0_6 p5)), .val (.int (g0_16 p5)), .val (.int (0 : Int32)), .val (.int (g0_39 p4)), .unset, .unset, .unset, .unset, .unset, .unset, .unset, .unset, .unset, .unset, .unset, .unset, .unset, .unset] [(.int (4 : Int32)), (.int p4)])
    refine Fini.st (fun _ k => XS.iushr X0.here hx rfl (hb hby at_44) rfl k) ?_
    show Fini p e below s _ _ _ s₁ (mkF m 45 #[.val (.int p0), .val (.int p1), .val (.int p2), .val (.int p3), .val (.int p4), .val (.int p5), .val (.int (g0_6 p5)), .val (.int (g0_16 p5)), .val (.int (0 : Int32)), .val (.int (g0_39 p4)), .unset, .unset, .unset, .unset, .unset, .unset, .unset, .unset, .unset, .unset, .unset, .unset, .unset, .unset] [(.int (p4.toUInt32 >>> ((4 : Int32) &&& 31).toUInt32).toInt32)])
    refine Fini.st (fun _ k => XS.bipush X0.here hx rfl (hb hby at_45) k) ?_
    show Fini p e below s _ _ _ s₁ (mkF m 47 #[.val (.int p0), .val (.int p1), .val (.int p2), .val (.int p3), .val (.int p4), .val (.int p5), .val (.int (g0_6 p5)), .val (.int (g0_16 p5)), .val (.int (0 : Int32)), .val (.int (g0_39 p4)), .unset, .unset, .unset, .unset, .unset, .unset, .unset, .unset, .unset, .unset, .unset, .unset, .unset, .unset] [(.int (15 : Int32)), (.int (p4.toUInt32 >>> ((4 : Int32) &&& 31).toUInt32).toInt32)])
    refine Fini.st (fun _ k => XS.iand X0.here hx rfl (hb hby at_47) rfl k) ?_
    show Fini p e below s _ _ _ s₁ (mkF m 48 #[.val (.int p0), .val (.int p1), .val (.int p2), .val (.int p3), .val (.int p4), .val (.int p5), .val (.int (g0_6 p5)), .val (.int (g0_16 p5)), .val (.int (0 : Int32)), .val (.int (g0_39 p4)), .unset, .unset, .unset, .unset, .unset, .unset, .unset, .unset, .unset, .unset, .unset, .unset, .unset, .unset] [(.int ((p4.toUInt32 >>> ((4 : Int32) &&& 31).toUInt32).toInt32 &&& (15 : Int32)))])
    refine Fini.st (fun _ k => XS.istore X0.here hx rfl (hb hby at_48) rfl (l' := #[.val (.int p0), .val (.int p1), .val (.int p2), .val (.int p3), .val (.int p4), .val (.int p5), .val (.int (g0_6 p5)), .val (.int (g0_16 p5)), .val (.int (0 : Int32)), .val (.int (g0_39 p4)), .val (.int (g0_48 p4)), .unset, .unset, .unset, .unset, .unset, .unset, .unset, .unset, .unset, .unset, .unset, .unset, .unset]) rfl k) ?_
    show Fini p e below s _ _ _ s₁ (mkF m 50 #[.val (.int p0), .val (.int p1), .val (.int p2), .val (.int p3), .val (.int p4), .val (.int p5), .val (.int (g0_6 p5)), .val (.int (g0_16 p5)), .val (.int (0 : Int32)), .val (.int (g0_39 p4)), .val (.int (g0_48 p4)), .unset, .unset, .unset, .unset, .unset, .unset, .unset, .unset, .unset, .unset, .unset, .unset, .unset] [])
    refine Fini.st (fun _ k => XS.iload X0.here hx rfl (hb hby at_50) rfl k) ?_
    show Fini p e below s _ _ _ s₁ (mkF m 52 #[.val (.int p0), .val (.int p1), .val (.int p2), .val (.int p3), .val (.int p4), .val (.int p5), .val (.int (g0_6 p5)), .val (.int (g0_16 p5)), .val (.int (0 : Int32)), .val (.int (g0_39 p4)), .val (.int (g0_48 p4)), .unset, .unset, .unset, .unset, .unset, .unset, .unset, .unset, .unset, .unset, .unset, .unset, .unset] [(.int p4)])
    refine Fini.st (fun _ k => XS.bipush X0.here hx rfl (hb hby at_52) k) ?_
    show Fini p e below s _ _ _ s₁ (mkF m 54 #[.val (.int p0), .val (.int p1), .val (.int p2), .val (.int p3), .val (.int p4), .val (.int p5), .val (.int (g0_6 p5)), .val (.int (g0_16 p5)), .val (.int (0 : Int32)), .val (.int (g0_39 p4)), .val (.int (g0_48 p4)), .unset, .unset, .unset, .unset, .unset, .unset, .unset, .unset, .unset, .unset, .unset, .unset, .unset] [(.int (8 : Int32)), (.int p4)])
    refine Fini.st (fun _ k => XS.iushr X0.here hx rfl (hb hby at_54) rfl k) ?_
    show Fini p e below s _ _ _ s₁ (mkF m 55 #[.val (.int p0), .val (.int p1), .val (.int p2), .val (.int p3), .val (.int p4), .val (.int p5), .val (.int (g0_6 p5)), .val (.int (g0_16 p5)), .val (.int (0 : Int32)), .val (.int (g0_39 p4)), .val (.int (g0_48 p4)), .unset, .unset, .unset, .unset, .unset, .unset, .unset, .unset, .unset, .unset, .unset, .unset, .unset] [(.int (p4.toUInt32 >>> ((8 : Int32) &&& 31).toUInt32).toInt32)])
    refine Fini.st (fun _ k => XS.bipush X0.here hx rfl (hb hby at_55) k) ?_
    show Fini p e below s _ _ _ s₁ (mkF m 57 #[.val (.int p0), .val (.int p1), .val (.int p2), .val (.int p3), .val (.int p4), .val (.int p5), .val (.int (g0_6 p5)), .val (.int (g0_16 p5)), .val (.int (0 : Int32)), .val (.int (g0_39 p4)), .val (.int (g0_48 p4)), .unset, .unset, .unset, .unset, .unset, .unset, .unset, .unset, .unset, .unset, .unset, .unset, .unset] [(.int (15 : Int32)), (.int (p4.toUInt32 >>> ((8 : Int32) &&& 31).toUInt32).toInt32)])
    refine Fini.st (fun _ k => XS.iand X0.here hx rfl (hb hby at_57) rfl k) ?_
    show Fini p e below s _ _ _ s₁ (mkF m 58 #[.val (.int p0), .val (.int p1), .val (.int p2), .val (.int p3), .val (.int p4), .val (.int p5), .val (.int (g0_6 p5)), .val (.int (g0_16 p5)), .val (.int (0 : Int32)), .val (.int (g0_39 p4)), .val (.int (g0_48 p4)), .unset, .unset, .unset, .unset, .unset, .unset, .unset, .unset, .unset, .unset, .unset, .unset, .unset] [(.int ((p4.toUInt32 >>> ((8 : Int32) &&& 31).toUInt32).toInt32 &&& (15 : Int32)))])
    refine Fini.st (fun _ k => XS.istore X0.here hx rfl (hb hby at_58) rfl (l' := #[.val (.int p0), .val (.int p1), .val (.int p2), .val (.int p3), .val (.int p4), .val (.int p5), .val (.int (g0_6 p5)), .val (.int (g0_16 p5)), .val (.int (0 : Int32)), .val (.int (g0_39 p4)), .val (.int (g0_48 p4)), .val (.int (g0_58 p4)), .unset, .unset, .unset, .unset, .unset, .unset, .unset, .unset, .unset, .unset, .unset, .unset]) rfl k) ?_
    show Fini p e below s _ _ _ s₁ (mkF m 60 #[.val (.int p0), .val (.int p1), .val (.int p2), .val (.int p3), .val (.int p4), .val (.int p5), .val (.int (g0_6 p5)), .val (.int (g0_16 p5)), .val (.int (0 : Int32)), .val (.int (g0_39 p4)), .val (.int (g0_48 p4)), .val (.int (g0_58 p4)), .unset, .unset, .unset, .unset, .unset, .unset, .unset, .unset, .unset, .unset, .unset, .unset] [])
    refine Fini.st (fun _ k => XS.iload X0.here hx rfl (hb hby at_60) rfl k) ?_
    show Fini p e below s _ _ _ s₁ (mkF m 62 #[.val (.int p0), .val (.int p1), .val (.int p2), .val (.int p3), .val (.int p4), .val (.int p5), .val (.int (g0_6 p5)), .val (.int (g0_16 p5)), .val (.int (0 : Int32)), .val (.int (g0_39 p4)), .val (.int (g0_48 p4)), .val (.int (g0_58 p4)), .unset, .unset, .unset, .unset, .unset, .unset, .unset, .unset, .unset, .unset, .unset, .unset] [(.int p4)])
    refine Fini.st (fun _ k => XS.bipush X0.here hx rfl (hb hby at_62) k) ?_
    show Fini p e below s _ _ _ s₁ (mkF m 64 #[.val (.int p0), .val (.int p1), .val (.int p2), .val (.int p3), .val (.int p4), .val (.int p5), .val (.int (g0_6 p5)), .val (.int (g0_16 p5)), .val (.int (0 : Int32)), .val (.int (g0_39 p4)), .val (.int (g0_48 p4)), .val (.int (g0_58 p4)), .unset, .unset, .unset, .unset, .unset, .unset, .unset, .unset, .unset, .unset, .unset, .unset] [(.int (12 : Int32)), (.int p4)])
    refine Fini.st (fun _ k => XS.iushr X0.here hx rfl (hb hby at_64) rfl k) ?_
    show Fini p e below s _ _ _ s₁ (mkF m 65 #[.val (.int p0), .val (.int p1), .val (.int p2), .val (.int p3), .val (.int p4), .val (.int p5), .val (.int (g0_6 p5)), .val (.int (g0_16 p5)), .val (.int (0 : Int32)), .val (.int (g0_39 p4)), .val (.int (g0_48 p4)), .val (.int (g0_58 p4)), .unset, .unset, .unset, .unset, .unset, .unset, .unset, .unset, .unset, .unset, .unset, .unset] [(.int (p4.toUInt32 >>> ((12 : Int32) &&& 31).toUInt32).toInt32)])
    refine Fini.st (fun _ k => XS.bipush X0.here hx rfl (hb hby at_65) k) ?_
    show Fini p e below s _ _ _ s₁ (mkF m 67 #[.val (.int p0), .val (.int p1), .val (.int p2), .val (.int p3), .val (.int p4), .val (.int p5), .val (.int (g0_6 p5)), .val (.int (g0_16 p5)), .val (.int (0 : Int32)), .val (.int (g0_39 p4)), .val (.int (g0_48 p4)), .val (.int (g0_58 p4)), .unset, .unset, .unset, .unset, .unset, .unset, .unset, .unset, .unset, .unset, .unset, .unset] [(.int (15 : Int32)), (.int (p4.toUInt32 >>> ((12 : Int32) &&& 31).toUInt32).toInt32)])
    refine Fini.st (fun _ k => XS.iand X0.here hx rfl (hb hby at_67) rfl k) ?_
    show Fini p e below s _ _ _ s₁ (mkF m 68 #[.val (.int p0), .val (.int p1), .val (.int p2), .val (.int p3), .val (.int p4), .val (.int p5), .val (.int (g0_6 p5)), .val (.int (g0_16 p5)), .val (.int (0 : Int32)), .val (.int (g0_39 p4)), .val (.int (g0_48 p4)), .val (.int (g0_58 p4)), .unset, .unset, .unset, .unset, .unset, .unset, .unset, .unset, .unset, .unset, .unset, .unset] [(.int ((p4.toUInt32 >>> ((12 : Int32) &&& 31).toUInt32).toInt32 &&& (15 : Int32)))])
    refine Fini.st (fun _ k => XS.istore X0.here hx rfl (hb hby at_68) rfl (l' := #[.val (.int p0), .val (.int p1), .val (.int p2), .val (.int p3), .val (.int p4), .val (.int p5), .val (.int (g0_6 p5)), .val (.int (g0_16 p5)), .val (.int (0 : Int32)), .val (.int (g0_39 p4)), .val (.int (g0_48 p4)), .val (.int (g0_58 p4)), .val (.int (g0_68 p4)), .unset, .unset, .unset, .unset, .unset, .unset, .unset, .unset, .unset, .unset, .unset]) rfl k) ?_
    show Fini p e below s _ _ _ s₁ (mkF m 70 #[.val (.int p0), .val (.int p1), .val (.int p2), .val (.int p3), .val (.int p4), .val (.int p5), .val (.int (g0_6 p5)), .val (.int (g0_16 p5)), .val (.int (0 : Int32)), .val (.int (g0_39 p4)), .val (.int (g0_48 p4)), .val (.int (g0_58 p4)), .val (.int (g0_68 p4)), .unset, .unset, .unset, .unset, .unset, .unset, .unset, .unset, .unset, .unset, .unset] [])
    refine Fini.st (fun _ k => XS.iload X0.here hx rfl (hb hby at_70) rfl k) ?_
    show Fini p e below s _ _ _ s₁ (mkF m 72 #[.val (.int p0), .val (.int p1), .val (.int p2), .val (.int p3), .val (.int p4), .val (.int p5), .val (.int (g0_6 p5)), .val (.int (g0_16 p5)), .val (.int (0 : Int32)), .val (.int (g0_39 p4)), .val (.int (g0_48 p4)), .val (.int (g0_58 p4)), .val (.int (g0_68 p4)), .unset, .unset, .unset, .unset, .unset, .unset, .unset, .unset, .unset, .unset, .unset] [(.int p4)])
    refine Fini.st (fun _ k => XS.bipush X0.here hx rfl (hb hby at_72) k) ?_
    show Fini p e below s _ _ _ s₁ (mkF m 74 #[.val (.int p0), .val (.int p1), .val (.int p2), .val (.int p3), .val (.int p4), .val (.int p5), .val (.int (g0_6 p5)), .val (.int (g0_16 p5)), .val (.int (0 : Int32)), .val (.int (g0_39 p4)), .val (.int (g0_48 p4)), .val (.int (g0_58 p4)), .val (.int (g0_68 p4)), .unset, .unset, .unset, .unset, .unset, .unset, .unset, .unset, .unset, .unset, .unset] [(.int (16 : Int32)), (.int p4)])
    refine Fini.st (fun _ k => XS.iushr X0.here hx rfl (hb hby at_74) rfl k) ?_
    show Fini p e below s _ _ _ s₁ (mkF m 75 #[.val (.int p0), .val (.int p1), .val (.int p2), .val (.int p3), .val (.int p4), .val (.int p5), .val (.int (g0_6 p5)), .val (.int (g0_16 p5)), .val (.int (0 : Int32)), .val (.int (g0_39 p4)), .val (.int (g0_48 p4)), .val (.int (g0_58 p4)), .val (.int (g0_68 p4)), .unset, .unset, .unset, .unset, .unset, .unset, .unset, .unset, .unset, .unset, .unset] [(.int (p4.toUInt32 >>> ((16 : Int32) &&& 31).toUInt32).toInt32)])
    refine Fini.st (fun _ k => XS.bipush X0.here hx rfl (hb hby at_75) k) ?_
    show Fini p e below s _ _ _ s₁ (mkF m 77 #[.val (.int p0), .val (.int p1), .val (.int p2), .val (.int p3), .val (.int p4), .val (.int p5), .val (.int (g0_6 p5)), .val (.int (g0_16 p5)), .val (.int (0 : Int32)), .val (.int (g0_39 p4)), .val (.int (g0_48 p4)), .val (.int (g0_58 p4)), .val (.int (g0_68 p4)), .unset, .unset, .unset, .unset, .unset, .unset, .unset, .unset, .unset, .unset, .unset] [(.int (15 : Int32)), (.int (p4.toUInt32 >>> ((16 : Int32) &&& 31).toUInt32).toInt32)])
    refine Fini.st (fun _ k => XS.iand X0.here hx rfl (hb hby at_77) rfl k) ?_
    show Fini p e below s _ _ _ s₁ (mkF m 78 #[.val (.int p0), .val (.int p1), .val (.int p2), .val (.int p3), .val (.int p4), .val (.int p5), .val (.int (g0_6 p5)), .val (.int (g0_16 p5)), .val (.int (0 : Int32)), .val (.int (g0_39 p4)), .val (.int (g0_48 p4)), .val (.int (g0_58 p4)), .val (.int (g0_68 p4)), .unset, .unset, .unset, .unset, .unset, .unset, .unset, .unset, .unset, .unset, .unset] [(.int ((p4.toUInt32 >>> ((16 : Int32) &&& 31).toUInt32).toInt32 &&& (15 : Int32)))])
    refine Fini.st (fun _ k => XS.istore X0.here hx rfl (hb hby at_78) rfl (l' := #[.val (.int p0), .val (.int p1), .val (.int p2), .val (.int p3), .val (.int p4), .val (.int p5), .val (.int (g0_6 p5)), .val (.int (g0_16 p5)), .val (.int (0 : Int32)), .val (.int (g0_39 p4)), .val (.int (g0_48 p4)), .val (.int (g0_58 p4)), .val (.int (g0_68 p4)), .val (.int (g0_78 p4)), .unset, .unset, .unset, .unset, .unset, .unset, .unset, .unset, .unset, .unset]) rfl k) ?_
    show Fini p e below s _ _ _ s₁ (mkF m 80 #[.val (.int p0), .val (.int p1), .val (.int p2), .val (.int p3), .val (.int p4), .val (.int p5), .val (.int (g0_6 p5)), .val (.int (g0_16 p5)), .val (.int (0 : Int32)), .val (.int (g0_39 p4)), .val (.int (g0_48 p4)), .val (.int (g0_58 p4)), .val (.int (g0_68 p4)), .val (.int (g0_78 p4)), .unset, .unset, .unset, .unset, .unset, .unset, .unset, .unset, .unset, .unset] [])
    refine Fini.st (fun _ k => XS.iload X0.here hx rfl (hb hby at_80) rfl k) ?_
    show Fini p e below s _ _ _ s₁ (mkF m 82 #[.val (.int p0), .val (.int p1), .val (.int p2), .val (.int p3), .val (.int p4), .val (.int p5), .val (.int (g0_6 p5)), .val (.int (g0_16 p5)), .val (.int (0 : Int32)), .val (.int (g0_39 p4)), .val (.int (g0_48 p4)), .val (.int (g0_58 p4)), .val (.int (g0_68 p4)), .val (.int (g0_78 p4)), .unset, .unset, .unset, .unset, .unset, .unset, .unset, .unset, .unset, .unset] [(.int p4)])
    refine Fini.st (fun _ k => XS.bipush X0.here hx rfl (hb hby at_82) k) ?_
    show Fini p e below s _ _ _ s₁ (mkF m 84 #[.val (.int p0), .val (.int p1), .val (.int p2), .val (.int p3), .val (.int p4), .val (.int p5), .val (.int (g0_6 p5)), .val (.int (g0_16 p5)), .val (.int (0 : Int32)), .val (.int (g0_39 p4)), .val (.int (g0_48 p4)), .val (.int (g0_58 p4)), .val (.int (g0_68 p4)), .val (.int (g0_78 p4)), .unset, .unset, .unset, .unset, .unset, .unset, .unset, .unset, .unset, .unset] [(.int (20 : Int32)), (.int p4)])
    refine Fini.st (fun _ k => XS.iushr X0.here hx rfl (hb hby at_84) rfl k) ?_
    show Fini p e below s _ _ _ s₁ (mkF m 85 #[.val (.int p0), .val (.int p1), .val (.int p2), .val (.int p3), .val (.int p4), .val (.int p5), .val (.int (g0_6 p5)), .val (.int (g0_16 p5)), .val (.int (0 : Int32)), .val (.int (g0_39 p4)), .val (.int (g0_48 p4)), .val (.int (g0_58 p4)), .val (.int (g0_68 p4)), .val (.int (g0_78 p4)), .unset, .unset, .unset, .unset, .unset, .unset, .unset, .unset, .unset, .unset] [(.int (p4.toUInt32 >>> ((20 : Int32) &&& 31).toUInt32).toInt32)])
    refine Fini.st (fun _ k => XS.bipush X0.here hx rfl (hb hby at_85) k) ?_
    show Fini p e below s _ _ _ s₁ (mkF m 87 #[.val (.int p0), .val (.int p1), .val (.int p2), .val (.int p3), .val (.int p4), .val (.int p5), .val (.int (g0_6 p5)), .val (.int (g0_16 p5)), .val (.int (0 : Int32)), .val (.int (g0_39 p4)), .val (.int (g0_48 p4)), .val (.int (g0_58 p4)), .val (.int (g0_68 p4)), .val (.int (g0_78 p4)), .unset, .unset, .unset, .unset, .unset, .unset, .unset, .unset, .unset, .unset] [(.int (15 : Int32)), (.int (p4.toUInt32 >>> ((20 : Int32) &&& 31).toUInt32).toInt32)])
    refine Fini.st (fun _ k => XS.iand X0.here hx rfl (hb hby at_87) rfl k) ?_
    show Fini p e below s _ _ _ s₁ (mkF m 88 #[.val (.int p0), .val (.int p1), .val (.int p2), .val (.int p3), .val (.int p4), .val (.int p5), .val (.int (g0_6 p5)), .val (.int (g0_16 p5)), .val (.int (0 : Int32)), .val (.int (g0_39 p4)), .val (.int (g0_48 p4)), .val (.int (g0_58 p4)), .val (.int (g0_68 p4)), .val (.int (g0_78 p4)), .unset, .unset, .unset, .unset, .unset, .unset, .unset, .unset, .unset, .unset] [(.int ((p4.toUInt32 >>> ((20 : Int32) &&& 31).toUInt32).toInt32 &&& (15 : Int32)))])
    refine Fini.st (fun _ k => XS.istore X0.here hx rfl (hb hby at_88) rfl (l' := #[.val (.int p0), .val (.int p1), .val (.int p2), .val (.int p3), .val (.int p4), .val (.int p5), .val (.int (g0_6 p5)), .val (.int (g0_16 p5)), .val (.int (0 : Int32)), .val (.int (g0_39 p4)), .val (.int (g0_48 p4)), .val (.int (g0_58 p4)), .val (.int (g0_68 p4)), .val (.int (g0_78 p4)), .val (.int (g0_88 p4)), .unset, .unset, .unset, .unset, .unset, .unset, .unset, .unset, .unset]) rfl k) ?_
    show Fini p e below s _ _ _ s₁ (mkF m 90 #[.val (.int p0), .val (.int p1), .val (.int p2), .val (.int p3), .val (.int p4), .val (.int p5), .val (.int (g0_6 p5)), .val (.int (g0_16 p5)), .val (.int (0 : Int32)), .val (.int (g0_39 p4)), .val (.int (g0_48 p4)), .val (.int (g0_58 p4)), .val (.int (g0_68 p4)), .val (.int (g0_78 p4)), .val (.int (g0_88 p4)), .unset, .unset, .unset, .unset, .unset, .unset, .unset, .unset, .unset] [])
    refine Fini.st (fun _ k => XS.iload X0.here hx rfl (hb hby at_90) rfl k) ?_
    show Fini p e below s _ _ _ s₁ (mkF m 92 #[.val (.int p0), .val (.int p1), .val (.int p2), .val (.int p3), .val (.int p4), .val (.int p5), .val (.int (g0_6 p5)), .val (.int (g0_16 p5)), .val (.int (0 : Int32)), .val (.int (g0_39 p4)), .val (.int (g0_48 p4)), .val (.int (g0_58 p4)), .val (.int (g0_68 p4)), .val (.int (g0_78 p4)), .val (.int (g0_88 p4)), .unset, .unset, .unset, .unset, .unset, .unset, .unset, .unset, .unset] [(.int p4)])
    refine Fini.st (fun _ k => XS.bipush X0.here hx rfl (hb hby at_92) k) ?_
    show Fini p e below s _ _ _ s₁ (mkF m 94 #[.val (.int p0), .val (.int p1), .val (.int p2), .val (.int p3), .val (.int p4), .val (.int p5), .val (.int (g0_6 p5)), .val (.int (g0_16 p5)), .val (.int (0 : Int32)), .val (.int (g0_39 p4)), .val (.int (g0_48 p4)), .val (.int (g0_58 p4)), .val (.int (g0_68 p4)), .val (.int (g0_78 p4)), .val (.int (g0_88 p4)), .unset, .unset, .unset, .unset, .unset, .unset, .unset, .unset, .unset] [(.int (24 : Int32)), (.int p4)])
    refine Fini.st (fun _ k => XS.iushr X0.here hx rfl (hb hby at_94) rfl k) ?_
    show Fini p e below s _ _ _ s₁ (mkF m 95 #[.val (.int p0), .val (.int p1), .val (.int p2), .val (.int p3), .val (.int p4), .val (.int p5), .val (.int (g0_6 p5)), .val (.int (g0_16 p5)), .val (.int (0 : Int32)), .val (.int (g0_39 p4)), .val (.int (g0_48 p4)), .val (.int (g0_58 p4)), .val (.int (g0_68 p4)), .val (.int (g0_78 p4)), .val (.int (g0_88 p4)), .unset, .unset, .unset, .unset, .unset, .unset, .unset, .unset, .unset] [(.int (p4.toUInt32 >>> ((24 : Int32) &&& 31).toUInt32).toInt32)])
    refine Fini.st (fun _ k => XS.bipush X0.here hx rfl (hb hby at_95) k) ?_
    show Fini p e below s _ _ _ s₁ (mkF m 97 #[.val (.int p0), .val (.int p1), .val (.int p2), .val (.int p3), .val (.int p4), .val (.int p5), .val (.int (g0_6 p5)), .val (.int (g0_16 p5)), .val (.int (0 : Int32)), .val (.int (g0_39 p4)), .val (.int (g0_48 p4)), .val (.int (g0_58 p4)), .val (.int (g0_68 p4)), .val (.int (g0_78 p4)), .val (.int (g0_88 p4)), .unset, .unset, .unset, .unset, .unset, .unset, .unset, .unset, .unset] [(.int (15 : Int32)), (.int (p4.toUInt32 >>> ((24 : Int32) &&& 31).toUInt32).toInt32)])
    refine Fini.st (fun _ k => XS.iand X0.here hx rfl (hb hby at_97) rfl k) ?_
    show Fini p e below s _ _ _ s₁ (mkF m 98 #[.val (.int p0), .val (.int p1), .val (.int p2), .val (.int p3), .val (.int p4), .val (.int p5), .val (.int (g0_6 p5)), .val (.int (g0_16 p5)), .val (.int (0 : Int32)), .val (.int (g0_39 p4)), .val (.int (g0_48 p4)), .val (.int (g0_58 p4)), .val (.int (g0_68 p4)), .val (.int (g0_78 p4)), .val (.int (g0_88 p4)), .unset, .unset, .unset, .unset, .unset, .unset, .unset, .unset, .unset] [(.int ((p4.toUInt32 >>> ((24 : Int32) &&& 31).toUInt32).toInt32 &&& (15 : Int32)))])
    refine Fini.st (fun _ k => XS.istore X0.here hx rfl (hb hby at_98) rfl (l' := #[.val (.int p0), .val (.int p1), .val (.int p2), .val (.int p3), .val (.int p4), .val (.int p5), .val (.int (g0_6 p5)), .val (.int (g0_16 p5)), .val (.int (0 : Int32)), .val (.int (g0_39 p4)), .val (.int (g0_48 p4)), .val (.int (g0_58 p4)), .val (.int (g0_68 p4)), .val (.int (g0_78 p4)), .val (.int (g0_88 p4)), .val (.int (g0_98 p4)), .unset, .unset, .unset, .unset, .unset, .unset, .unset, .unset]) rfl k) ?_
    show Fini p e below s _ _ _ s₁ (mkF m 100 #[.val (.int p0), .val (.int p1), .val (.int p2), .val (.int p3), .val (.int p4), .val (.int p5), .val (.int (g0_6 p5)), .val (.int (g0_16 p5)), .val (.int (0 : Int32)), .val (.int (g0_39 p4)), .val (.int (g0_48 p4)), .val (.int (g0_58 p4)), .val (.int (g0_68 p4)), .val (.int (g0_78 p4)), .val (.int (g0_88 p4)), .val (.int (g0_98 p4)), .unset, .unset, .unset, .unset, .unset, .unset, .unset, .unset] [])
    refine Fini.st (fun _ k => XS.iload X0.here hx rfl (hb hby at_100) rfl k) ?_
    show Fini p e below s _ _ _ s₁ (mkF m 102 #[.val (.int p0), .val (.int p1), .val (.int p2), .val (.int p3), .val (.int p4), .val (.int p5), .val (.int (g0_6 p5)), .val (.int (g0_16 p5)), .val (.int (0 : Int32)), .val (.int (g0_39 p4)), .val (.int (g0_48 p4)), .val (.int (g0_58 p4)), .val (.int (g0_68 p4)), .val (.int (g0_78 p4)), .val (.int (g0_88 p4)), .val (.int (g0_98 p4)), .unset, .unset, .unset, .unset, .unset, .unset, .unset, .unset] [(.int p4)])
    refine Fini.st (fun _ k => XS.bipush X0.here hx rfl (hb hby at_102) k) ?_
    show Fini p e below s _ _ _ s₁ (mkF m 104 #[.val (.int p0), .val (.int p1), .val (.int p2), .val (.int p3), .val (.int p4), .val (.int p5), .val (.int (g0_6 p5)), .val (.int (g0_16 p5)), .val (.int (0 : Int32)), .val (.int (g0_39 p4)), .val (.int (g0_48 p4)), .val (.int (g0_58 p4)), .val (.int (g0_68 p4)), .val (.int (g0_78 p4)), .val (.int (g0_88 p4)), .val (.int (g0_98 p4)), .unset, .unset, .unset, .unset, .unset, .unset, .unset, .unset] [(.int (28 : Int32)), (.int p4)])
    refine Fini.st (fun _ k => XS.iushr X0.here hx rfl (hb hby at_104) rfl k) ?_
    show Fini p e below s _ _ _ s₁ (mkF m 105 #[.val (.int p0), .val (.int p1), .val (.int p2), .val (.int p3), .val (.int p4), .val (.int p5), .val (.int (g0_6 p5)), .val (.int (g0_16 p5)), .val (.int (0 : Int32)), .val (.int (g0_39 p4)), .val (.int (g0_48 p4)), .val (.int (g0_58 p4)), .val (.int (g0_68 p4)), .val (.int (g0_78 p4)), .val (.int (g0_88 p4)), .val (.int (g0_98 p4)), .unset, .unset, .unset, .unset, .unset, .unset, .unset, .unset] [(.int (p4.toUInt32 >>> ((28 : Int32) &&& 31).toUInt32).toInt32)])
    refine Fini.st (fun _ k => XS.bipush X0.here hx rfl (hb hby at_105) k) ?_
    show Fini p e below s _ _ _ s₁ (mkF m 107 #[.val (.int p0), .val (.int p1), .val (.int p2), .val (.int p3), .val (.int p4), .val (.int p5), .val (.int (g0_6 p5)), .val (.int (g0_16 p5)), .val (.int (0 : Int32)), .val (.int (g0_39 p4)), .val (.int (g0_48 p4)), .val (.int (g0_58 p4)), .val (.int (g0_68 p4)), .val (.int (g0_78 p4)), .val (.int (g0_88 p4)), .val (.int (g0_98 p4)), .unset, .unset, .unset, .unset, .unset, .unset, .unset, .unset] [(.int (15 : Int32)), (.int (p4.toUInt32 >>> ((28 : Int32) &&& 31).toUInt32).toInt32)])
    refine Fini.st (fun _ k => XS.iand X0.here hx rfl (hb hby at_107) rfl k) ?_
    show Fini p e below s _ _ _ s₁ (mkF m 108 #[.val (.int p0), .val (.int p1), .val (.int p2), .val (.int p3), .val (.int p4), .val (.int p5), .val (.int (g0_6 p5)), .val (.int (g0_16 p5)), .val (.int (0 : Int32)), .val (.int (g0_39 p4)), .val (.int (g0_48 p4)), .val (.int (g0_58 p4)), .val (.int (g0_68 p4)), .val (.int (g0_78 p4)), .val (.int (g0_88 p4)), .val (.int (g0_98 p4)), .unset, .unset, .unset, .unset, .unset, .unset, .unset, .unset] [(.int ((p4.toUInt32 >>> ((28 : Int32) &&& 31).toUInt32).toInt32 &&& (15 : Int32)))])
    refine Fini.st (fun _ k => XS.istore X0.here hx rfl (hb hby at_108) rfl (l' := #[.val (.int p0), .val (.int p1), .val (.int p2), .val (.int p3), .val (.int p4), .val (.int p5), .val (.int (g0_6 p5)), .val (.int (g0_16 p5)), .val (.int (0 : Int32)), .val (.int (g0_39 p4)), .val (.int (g0_48 p4)), .val (.int (g0_58 p4)), .val (.int (g0_68 p4)), .val (.int (g0_78 p4)), .val (.int (g0_88 p4)), .val (.int (g0_98 p4)), .val (.int (g0_108 p4)), .unset, .unset, .unset, .unset, .unset, .unset, .unset]) rfl k) ?_
    show Fini p e below s _ _ _ s₁ (mkF m 110 #[.val (.int p0), .val (.int p1), .val (.int p2), .val (.int p3), .val (.int p4), .val (.int p5), .val (.int (g0_6 p5)), .val (.int (g0_16 p5)), .val (.int (0 : Int32)), .val (.int (g0_39 p4)), .val (.int (g0_48 p4)), .val (.int (g0_58 p4)), .val (.int (g0_68 p4)), .val (.int (g0_78 p4)), .val (.int (g0_88 p4)), .val (.int (g0_98 p4)), .val (.int (g0_108 p4)), .unset, .unset, .unset, .unset, .unset, .unset, .unset] [])
    refine Fini.st (fun _ k => XS.iload X0.here hx rfl (hb hby at_110) rfl k) ?_
    show Fini p e below s _ _ _ s₁ (mkF m 112 #[.val (.int p0), .val (.int p1), .val (.int p2), .val (.int p3), .val (.int p4), .val (.int p5), .val (.int (g0_6 p5)), .val (.int (g0_16 p5)), .val (.int (0 : Int32)), .val (.int (g0_39 p4)), .val (.int (g0_48 p4)), .val (.int (g0_58 p4)), .val (.int (g0_68 p4)), .val (.int (g0_78 p4)), .val (.int (g0_88 p4)), .val (.int (g0_98 p4)), .val (.int (g0_108 p4)), .unset, .unset, .unset, .unset, .unset, .unset, .unset] [(.int (0 : Int32))])
    refine Fini.st (fun _ k => XS.ifYes X0.here hx rfl (pc0 := 112) (pc' := 135) rfl (hb hby at_112) rfl (XT.i0_eq_t (by decide : (0 : Int32) = (0 : Int32))) (by decide) (by decide) k) ?_
    show Fini p e below s _ _ _ s₁ (mkF m 135 #[.val (.int p0), .val (.int p1), .val (.int p2), .val (.int p3), .val (.int p4), .val (.int p5), .val (.int (g0_6 p5)), .val (.int (g0_16 p5)), .val (.int (0 : Int32)), .val (.int (g0_39 p4)), .val (.int (g0_48 p4)), .val (.int (g0_58 p4)), .val (.int (g0_68 p4)), .val (.int (g0_78 p4)), .val (.int (g0_88 p4)), .val (.int (g0_98 p4)), .val (.int (g0_108 p4)), .unset, .unset, .unset, .unset, .unset, .unset, .unset] [])
    refine Fini.cast (g' := (mkF m 135 #[.val (.int p0), .val (.int p1), .val (.int (own_s p5 p2 p0)), .val (.int (own_s p5 p3 p1)), .val (.int p4), .val (.int p5), .val (.int (g0_6 p5)), .val (.int (g0_16 p5)), .val (.int (0 : Int32)), .val (.int (g0_39 p4)), .val (.int (g0_48 p4)), .val (.int (g0_58 p4)), .val (.int (g0_68 p4)), .val (.int (own_s p5 (g0_78 p4) (g0_39 p4))), .val (.int (own_s p5 (g0_88 p4) (g0_48 p4))), .val (.int (own_s p5 (g0_98 p4) (g0_58 p4))), .val (.int (own_s p5 (g0_108 p4) (g0_68 p4))), .unset, .unset, .unset, .unset, .unset, .unset, .unset] [])) (by rw [(show (own_s p5 p2 p0) = p2 from if_pos c1), (show (own_s p5 p3 p1) = p3 from if_pos c1), (show (own_s p5 (g0_78 p4) (g0_39 p4)) = (g0_78 p4) from if_pos c1), (show (own_s p5 (g0_88 p4) (g0_48 p4)) = (g0_88 p4) from if_pos c1), (show (own_s p5 (g0_98 p4) (g0_58 p4)) = (g0_98 p4) from if_pos c1), (show (own_s p5 (g0_108 p4) (g0_68 p4)) = (g0_108 p4) from if_pos c1)]) ?_
    show Fini p e below s _ _ _ s₁ (mkF m 135 #[.val (.int p0), .val (.int p1), .val (.int (own_s p5 p2 p0)), .val (.int (own_s p5 p3 p1)), .val (.int p4), .val (.int p5), .val (.int (g0_6 p5)), .val (.int (g0_16 p5)), .val (.int (0 : Int32)), .val (.int (g0_39 p4)), .val (.int (g0_48 p4)), .val (.int (g0_58 p4)), .val (.int (g0_68 p4)), .val (.int (own_s p5 (g0_78 p4) (g0_39 p4))), .val (.int (own_s p5 (g0_88 p4) (g0_48 p4))), .val (.int (own_s p5 (g0_98 p4) (g0_58 p4))), .val (.int (own_s p5 (g0_108 p4) (g0_68 p4))), .unset, .unset, .unset, .unset, .unset, .unset, .unset] [])
    exact B135 s₁ _ _ (X0.more (cells' := 0) (slots' := 0) (by decide) (by decide)) e0 (0 : Int32) N0 D0 S_cs S_hi S_ca Z0
  · skip
    refine Fini.st (fun _ k => XS.ifNo X0.here hx rfl (hb hby at_24) rfl (XT.i0_eq_f c1) k) ?_
    show Fini p e below s _ _ _ s₁ (mkF m 27 #[.val (.int p0), .val (.int p1), .val (.int p2), .val (.int p3), .val (.int p4), .val (.int p5), .val (.int (g0_6 p5)), .val (.int (g0_16 p5)), .unset, .unset, .unset, .unset, .unset, .unset, .unset, .unset, .unset, .unset, .unset, .unset, .unset, .unset, .unset, .unset] [])
    refine Fini.st (fun _ k => XS.iconst X0.here hx rfl (hb hby at_27) k) ?_
    show Fini p e below s _ _ _ s₁ (mkF m 28 #[.val (.int p0), .val (.int p1), .val (.int p2), .val (.int p3), .val (.int p4), .val (.int p5), .val (.int (g0_6 p5)), .val (.int (g0_16 p5)), .unset, .unset, .unset, .unset, .unset, .unset, .unset, .unset, .unset, .unset, .unset, .unset, .unset, .unset, .unset, .unset] [(.int (1 : Int32))])
    refine Fini.st (fun _ k => XS.goto X0.here hx rfl (pc0 := 28) (pc' := 32) rfl (hb hby at_28) (by decide) (by decide) k) ?_
    show Fini p e below s _ _ _ s₁ (mkF m 32 #[.val (.int p0), .val (.int p1), .val (.int p2), .val (.int p3), .val (.int p4), .val (.int p5), .val (.int (g0_6 p5)), .val (.int (g0_16 p5)), .unset, .unset, .unset, .unset, .unset, .unset, .unset, .unset, .unset, .unset, .unset, .unset, .unset, .unset, .unset, .unset] [(.int (1 : Int32))])
    refine Fini.st (fun _ k => XS.istore X0.here hx rfl (hb hby at_32) rfl (l' := #[.val (.int p0), .val (.int p1), .val (.int p2), .val (.int p3), .val (.int p4), .val (.int p5), .val (.int (g0_6 p5)), .val (.int (g0_16 p5)), .val (.int (1 : Int32)), .unset, .unset, .unset, .unset, .unset, .unset, .unset, .unset, .unset, .unset, .unset, .unset, .unset, .unset, .unset]) rfl k) ?_
    show Fini p e below s _ _ _ s₁ (mkF m 34 #[.val (.int p0), .val (.int p1), .val (.int p2), .val (.int p3), .val (.int p4), .val (.int p5), .val (.int (g0_6 p5)), .val (.int (g0_16 p5)), .val (.int (1 : Int32)), .unset, .unset, .unset, .unset, .unset, .unset, .unset, .unset, .unset, .unset, .unset, .unset, .unset, .unset, .unset] [])
    refine Fini.st (fun _ k => XS.iload X0.here hx rfl (hb hby at_34) rfl k) ?_
    show Fini p e below s _ _ _ s₁ (mkF m 36 #[.val (.int p0), .val (.int p1), .val (.int p2), .val (.int p3), .val (.int p4), .val (.int p5), .val (.int (g0_6 p5)), .val (.int (g0_16 p5)), .val (.int (1 : Int32)), .unset, .unset, .unset, .unset, .unset, .unset, .unset, .unset, .unset, .unset, .unset, .unset, .unset, .unset, .unset] [(.int p4)])
    refine Fini.st (fun _ k => XS.bipush X0.here hx rfl (hb hby at_36) k) ?_
    show Fini p e below s _ _ _ s₁ (mkF m 38 #[.val (.int p0), .val (.int p1), .val (.int p2), .val (.int p3), .val (.int p4), .val (.int p5), .val (.int (g0_6 p5)), .val (.int (g0_16 p5)), .val (.int (1 : Int32)), .unset, .unset, .unset, .unset, .unset, .unset, .unset, .unset, .unset, .unset, .unset, .unset, .unset, .unset, .unset] [(.int (15 : Int32)), (.int p4)])
    refine Fini.st (fun _ k => XS.iand X0.here hx rfl (hb hby at_38) rfl k) ?_
    show Fini p e below s _ _ _ s₁ (mkF m 39 #[.val (.int p0), .val (.int p1), .val (.int p2), .val (.int p3), .val (.int p4), .val (.int p5), .val (.int (g0_6 p5)), .val (.int (g0_16 p5)), .val (.int (1 : Int32)), .unset, .unset, .unset, .unset, .unset, .unset, .unset, .unset, .unset, .unset, .unset, .unset, .unset, .unset, .unset] [(.int (p4 &&& (15 : Int32)))])
    refine Fini.st (fun _ k => XS.istore X0.here hx rfl (hb hby at_39) rfl (l' := #[.val (.int p0), .val (.int p1), .val (.int p2), .val (.int p3), .val (.int p4), .val (.int p5), .val (.int (g0_6 p5)), .val (.int (g0_16 p5)), .val (.int (1 : Int32)), .val (.int (g0_39 p4)), .unset, .unset, .unset, .unset, .unset, .unset, .unset, .unset, .unset, .unset, .unset, .unset, .unset, .unset]) rfl k) ?_
    show Fini p e below s _ _ _ s₁ (mkF m 41 #[.val (.int p0), .val (.int p1), .val (.int p2), .val (.int p3), .val (.int p4), .val (.int p5), .val (.int (g0_6 p5)), .val (.int (g0_16 p5)), .val (.int (1 : Int32)), .val (.int (g0_39 p4)), .unset, .unset, .unset, .unset, .unset, .unset, .unset, .unset, .unset, .unset, .unset, .unset, .unset, .unset] [])
    refine Fini.st (fun _ k => XS.iload X0.here hx rfl (hb hby at_41) rfl k) ?_
    show Fini p e below s _ _ _ s₁ (mkF m 43 #[.val (.int p0), .val (.int p1), .val (.int p2), .val (.int p3), .val (.int p4), .val (.int p5), .val (.int (g0_6 p5)), .val (.int (g0_16 p5)), .val (.int (1 : Int32)), .val (.int (g0_39 p4)), .unset, .unset, .unset, .unset, .unset, .unset, .unset, .unset, .unset, .unset, .unset, .unset, .unset, .unset] [(.int p4)])
    refine Fini.st (fun _ k => XS.iconst X0.here hx rfl (hb hby at_43) k) ?_
    show Fini p e below s _ _ _ s₁ (mkF m 44 #[.val (.int p0), .val (.int p1), .val (.int p2), .val (.int p3), .val (.int p4), .val (.int p5), .val (.int (g0_6 p5)), .val (.int (g0_16 p5)), .val (.int (1 : Int32)), .val (.int (g0_39 p4)), .unset, .unset, .unset, .unset, .unset, .unset, .unset, .unset, .unset, .unset, .unset, .unset, .unset, .unset] [(.int (4 : Int32)), (.int p4)])
    refine Fini.st (fun _ k => XS.iushr X0.here hx rfl (hb hby at_44) rfl k) ?_
    show Fini p e below s _ _ _ s₁ (mkF m 45 #[.val (.int p0), .val (.int p1), .val (.int p2), .val (.int p3), .val (.int p4), .val (.int p5), .val (.int (g0_6 p5)), .val (.int (g0_16 p5)), .val (.int (1 : Int32)), .val (.int (g0_39 p4)), .unset, .unset, .unset, .unset, .unset, .unset, .unset, .unset, .unset, .unset, .unset, .unset, .unset, .unset] [(.int (p4.toUInt32 >>> ((4 : Int32) &&& 31).toUInt32).toInt32)])
    refine Fini.st (fun _ k => XS.bipush X0.here hx rfl (hb hby at_45) k) ?_
    show Fini p e below s _ _ _ s₁ (mkF m 47 #[.val (.int p0), .val (.int p1), .val (.int p2), .val (.int p3), .val (.int p4), .val (.int p5), .val (.int (g0_6 p5)), .val (.int (g0_16 p5)), .val (.int (1 : Int32)), .val (.int (g0_39 p4)), .unset, .unset, .unset, .unset, .unset, .unset, .unset, .unset, .unset, .unset, .unset, .unset, .unset, .unset] [(.int (15 : Int32)), (.int (p4.toUInt32 >>> ((4 : Int32) &&& 31).toUInt32).toInt32)])
    refine Fini.st (fun _ k => XS.iand X0.here hx rfl (hb hby at_47) rfl k) ?_
    show Fini p e below s _ _ _ s₁ (mkF m 48 #[.val (.int p0), .val (.int p1), .val (.int p2), .val (.int p3), .val (.int p4), .val (.int p5), .val (.int (g0_6 p5)), .val (.int (g0_16 p5)), .val (.int (1 : Int32)), .val (.int (g0_39 p4)), .unset, .unset, .unset, .unset, .unset, .unset, .unset, .unset, .unset, .unset, .unset, .unset, .unset, .unset] [(.int ((p4.toUInt32 >>> ((4 : Int32) &&& 31).toUInt32).toInt32 &&& (15 : Int32)))])
    refine Fini.st (fun _ k => XS.istore X0.here hx rfl (hb hby at_48) rfl (l' := #[.val (.int p0), .val (.int p1), .val (.int p2), .val (.int p3), .val (.int p4), .val (.int p5), .val (.int (g0_6 p5)), .val (.int (g0_16 p5)), .val (.int (1 : Int32)), .val (.int (g0_39 p4)), .val (.int (g0_48 p4)), .unset, .unset, .unset, .unset, .unset, .unset, .unset, .unset, .unset, .unset, .unset, .unset, .unset]) rfl k) ?_
    show Fini p e below s _ _ _ s₁ (mkF m 50 #[.val (.int p0), .val (.int p1), .val (.int p2), .val (.int p3), .val (.int p4), .val (.int p5), .val (.int (g0_6 p5)), .val (.int (g0_16 p5)), .val (.int (1 : Int32)), .val (.int (g0_39 p4)), .val (.int (g0_48 p4)), .unset, .unset, .unset, .unset, .unset, .unset, .unset, .unset, .unset, .unset, .unset, .unset, .unset] [])
    refine Fini.st (fun _ k => XS.iload X0.here hx rfl (hb hby at_50) rfl k) ?_
    show Fini p e below s _ _ _ s₁ (mkF m 52 #[.val (.int p0), .val (.int p1), .val (.int p2), .val (.int p3), .val (.int p4), .val (.int p5), .val (.int (g0_6 p5)), .val (.int (g0_16 p5)), .val (.int (1 : Int32)), .val (.int (g0_39 p4)), .val (.int (g0_48 p4)), .unset, .unset, .unset, .unset, .unset, .unset, .unset, .unset, .unset, .unset, .unset, .unset, .unset] [(.int p4)])
    refine Fini.st (fun _ k => XS.bipush X0.here hx rfl (hb hby at_52) k) ?_
    show Fini p e below s _ _ _ s₁ (mkF m 54 #[.val (.int p0), .val (.int p1), .val (.int p2), .val (.int p3), .val (.int p4), .val (.int p5), .val (.int (g0_6 p5)), .val (.int (g0_16 p5)), .val (.int (1 : Int32)), .val (.int (g0_39 p4)), .val (.int (g0_48 p4)), .unset, .unset, .unset, .unset, .unset, .unset, .unset, .unset, .unset, .unset, .unset, .unset, .unset] [(.int (8 : Int32)), (.int p4)])
    refine Fini.st (fun _ k => XS.iushr X0.here hx rfl (hb hby at_54) rfl k) ?_
    show Fini p e below s _ _ _ s₁ (mkF m 55 #[.val (.int p0), .val (.int p1), .val (.int p2), .val (.int p3), .val (.int p4), .val (.int p5), .val (.int (g0_6 p5)), .val (.int (g0_16 p5)), .val (.int (1 : Int32)), .val (.int (g0_39 p4)), .val (.int (g0_48 p4)), .unset, .unset, .unset, .unset, .unset, .unset, .unset, .unset, .unset, .unset, .unset, .unset, .unset] [(.int (p4.toUInt32 >>> ((8 : Int32) &&& 31).toUInt32).toInt32)])
    refine Fini.st (fun _ k => XS.bipush X0.here hx rfl (hb hby at_55) k) ?_
    show Fini p e below s _ _ _ s₁ (mkF m 57 #[.val (.int p0), .val (.int p1), .val (.int p2), .val (.int p3), .val (.int p4), .val (.int p5), .val (.int (g0_6 p5)), .val (.int (g0_16 p5)), .val (.int (1 : Int32)), .val (.int (g0_39 p4)), .val (.int (g0_48 p4)), .unset, .unset, .unset, .unset, .unset, .unset, .unset, .unset, .unset, .unset, .unset, .unset, .unset] [(.int (15 : Int32)), (.int (p4.toUInt32 >>> ((8 : Int32) &&& 31).toUInt32).toInt32)])
    refine Fini.st (fun _ k => XS.iand X0.here hx rfl (hb hby at_57) rfl k) ?_
    show Fini p e below s _ _ _ s₁ (mkF m 58 #[.val (.int p0), .val (.int p1), .val (.int p2), .val (.int p3), .val (.int p4), .val (.int p5), .val (.int (g0_6 p5)), .val (.int (g0_16 p5)), .val (.int (1 : Int32)), .val (.int (g0_39 p4)), .val (.int (g0_48 p4)), .unset, .unset, .unset, .unset, .unset, .unset, .unset, .unset, .unset, .unset, .unset, .unset, .unset] [(.int ((p4.toUInt32 >>> ((8 : Int32) &&& 31).toUInt32).toInt32 &&& (15 : Int32)))])
    refine Fini.st (fun _ k => XS.istore X0.here hx rfl (hb hby at_58) rfl (l' := #[.val (.int p0), .val (.int p1), .val (.int p2), .val (.int p3), .val (.int p4), .val (.int p5), .val (.int (g0_6 p5)), .val (.int (g0_16 p5)), .val (.int (1 : Int32)), .val (.int (g0_39 p4)), .val (.int (g0_48 p4)), .val (.int (g0_58 p4)), .unset, .unset, .unset, .unset, .unset, .unset, .unset, .unset, .unset, .unset, .unset, .unset]) rfl k) ?_
    show Fini p e below s _ _ _ s₁ (mkF m 60 #[.val (.int p0), .val (.int p1), .val (.int p2), .val (.int p3), .val (.int p4), .val (.int p5), .val (.int (g0_6 p5)), .val (.int (g0_16 p5)), .val (.int (1 : Int32)), .val (.int (g0_39 p4)), .val (.int (g0_48 p4)), .val (.int (g0_58 p4)), .unset, .unset, .unset, .unset, .unset, .unset, .unset, .unset, .unset, .unset, .unset, .unset] [])
    refine Fini.st (fun _ k => XS.iload X0.here hx rfl (hb hby at_60) rfl k) ?_
    show Fini p e below s _ _ _ s₁ (mkF m 62 #[.val (.int p0), .val (.int p1), .val (.int p2), .val (.int p3), .val (.int p4), .val (.int p5), .val (.int (g0_6 p5)), .val (.int (g0_16 p5)), .val (.int (1 : Int32)), .val (.int (g0_39 p4)), .val (.int (g0_48 p4)), .val (.int (g0_58 p4)), .unset, .unset, .unset, .unset, .unset, .unset, .unset, .unset, .unset, .unset, .unset, .unset] [(.int p4)])
    refine Fini.st (fun _ k => XS.bipush X0.here hx rfl (hb hby at_62) k) ?_
    show Fini p e below s _ _ _ s₁ (mkF m 64 #[.val (.int p0), .val (.int p1), .val (.int p2), .val (.int p3), .val (.int p4), .val (.int p5), .val (.int (g0_6 p5)), .val (.int (g0_16 p5)), .val (.int (1 : Int32)), .val (.int (g0_39 p4)), .val (.int (g0_48 p4)), .val (.int (g0_58 p4)), .unset, .unset, .unset, .unset, .unset, .unset, .unset, .unset, .unset, .unset, .unset, .unset] [(.int (12 : Int32)), (.int p4)])
    refine Fini.st (fun _ k => XS.iushr X0.here hx rfl (hb hby at_64) rfl k) ?_
    show Fini p e below s _ _ _ s₁ (mkF m 65 #[.val (.int p0), .val (.int p1), .val (.int p2), .val (.int p3), .val (.int p4), .val (.int p5), .val (.int (g0_6 p5)), .val (.int (g0_16 p5)), .val (.int (1 : Int32)), .val (.int (g0_39 p4)), .val (.int (g0_48 p4)), .val (.int (g0_58 p4)), .unset, .unset, .unset, .unset, .unset, .unset, .unset, .unset, .unset, .unset, .unset, .unset] [(.int (p4.toUInt32 >>> ((12 : Int32) &&& 31).toUInt32).toInt32)])
    refine Fini.st (fun _ k => XS.bipush X0.here hx rfl (hb hby at_65) k) ?_
    show Fini p e below s _ _ _ s₁ (mkF m 67 #[.val (.int p0), .val (.int p1), .val (.int p2), .val (.int p3), .val (.int p4), .val (.int p5), .val (.int (g0_6 p5)), .val (.int (g0_16 p5)), .val (.int (1 : Int32)), .val (.int (g0_39 p4)), .val (.int (g0_48 p4)), .val (.int (g0_58 p4)), .unset, .unset, .unset, .unset, .unset, .unset, .unset, .unset, .unset, .unset, .unset, .unset] [(.int (15 : Int32)), (.int (p4.toUInt32 >>> ((12 : Int32) &&& 31).toUInt32).toInt32)])
    refine Fini.st (fun _ k => XS.iand X0.here hx rfl (hb hby at_67) rfl k) ?_
    show Fini p e below s _ _ _ s₁ (mkF m 68 #[.val (.int p0), .val (.int p1), .val (.int p2), .val (.int p3), .val (.int p4), .val (.int p5), .val (.int (g0_6 p5)), .val (.int (g0_16 p5)), .val (.int (1 : Int32)), .val (.int (g0_39 p4)), .val (.int (g0_48 p4)), .val (.int (g0_58 p4)), .unset, .unset, .unset, .unset, .unset, .unset, .unset, .unset, .unset, .unset, .unset, .unset] [(.int ((p4.toUInt32 >>> ((12 : Int32) &&& 31).toUInt32).toInt32 &&& (15 : Int32)))])
    refine Fini.st (fun _ k => XS.istore X0.here hx rfl (hb hby at_68) rfl (l' := #[.val (.int p0), .val (.int p1), .val (.int p2), .val (.int p3), .val (.int p4), .val (.int p5), .val (.int (g0_6 p5)), .val (.int (g0_16 p5)), .val (.int (1 : Int32)), .val (.int (g0_39 p4)), .val (.int (g0_48 p4)), .val (.int (g0_58 p4)), .val (.int (g0_68 p4)), .unset, .unset, .unset, .unset, .unset, .unset, .unset, .unset, .unset, .unset, .unset]) rfl k) ?_
    show Fini p e below s _ _ _ s₁ (mkF m 70 #[.val (.int p0), .val (.int p1), .val (.int p2), .val (.int p3), .val (.int p4), .val (.int p5), .val (.int (g0_6 p5)), .val (.int (g0_16 p5)), .val (.int (1 : Int32)), .val (.int (g0_39 p4)), .val (.int (g0_48 p4)), .val (.int (g0_58 p4)), .val (.int (g0_68 p4)), .unset, .unset, .unset, .unset, .unset, .unset, .unset, .unset, .unset, .unset, .unset] [])
    refine Fini.st (fun _ k => XS.iload X0.here hx rfl (hb hby at_70) rfl k) ?_
    show Fini p e below s _ _ _ s₁ (mkF m 72 #[.val (.int p0), .val (.int p1), .val (.int p2), .val (.int p3), .val (.int p4), .val (.int p5), .val (.int (g0_6 p5)), .val (.int (g0_16 p5)), .val (.int (1 : Int32)), .val (.int (g0_39 p4)), .val (.int (g0_48 p4)), .val (.int (g0_58 p4)), .val (.int (g0_68 p4)), .unset, .unset, .unset, .unset, .unset, .unset, .unset, .unset, .unset, .unset, .unset] [(.int p4)])
    refine Fini.st (fun _ k => XS.bipush X0.here hx rfl (hb hby at_72) k) ?_
    show Fini p e below s _ _ _ s₁ (mkF m 74 #[.val (.int p0), .val (.int p1), .val (.int p2), .val (.int p3), .val (.int p4), .val (.int p5), .val (.int (g0_6 p5)), .val (.int (g0_16 p5)), .val (.int (1 : Int32)), .val (.int (g0_39 p4)), .val (.int (g0_48 p4)), .val (.int (g0_58 p4)), .val (.int (g0_68 p4)), .unset, .unset, .unset, .unset, .unset, .unset, .unset, .unset, .unset, .unset, .unset] [(.int (16 : Int32)), (.int p4)])
    refine Fini.st (fun _ k => XS.iushr X0.here hx rfl (hb hby at_74) rfl k) ?_
    show Fini p e below s _ _ _ s₁ (mkF m 75 #[.val (.int p0), .val (.int p1), .val (.int p2), .val (.int p3), .val (.int p4), .val (.int p5), .val (.int (g0_6 p5)), .val (.int (g0_16 p5)), .val (.int (1 : Int32)), .val (.int (g0_39 p4)), .val (.int (g0_48 p4)), .val (.int (g0_58 p4)), .val (.int (g0_68 p4)), .unset, .unset, .unset, .unset, .unset, .unset, .unset, .unset, .unset, .unset, .unset] [(.int (p4.toUInt32 >>> ((16 : Int32) &&& 31).toUInt32).toInt32)])
    refine Fini.st (fun _ k => XS.bipush X0.here hx rfl (hb hby at_75) k) ?_
    show Fini p e below s _ _ _ s₁ (mkF m 77 #[.val (.int p0), .val (.int p1), .val (.int p2), .val (.int p3), .val (.int p4), .val (.int p5), .val (.int (g0_6 p5)), .val (.int (g0_16 p5)), .val (.int (1 : Int32)), .val (.int (g0_39 p4)), .val (.int (g0_48 p4)), .val (.int (g0_58 p4)), .val (.int (g0_68 p4)), .unset, .unset, .unset, .unset, .unset, .unset, .unset, .unset, .unset, .unset, .unset] [(.int (15 : Int32)), (.int (p4.toUInt32 >>> ((16 : Int32) &&& 31).toUInt32).toInt32)])
    refine Fini.st (fun _ k => XS.iand X0.here hx rfl (hb hby at_77) rfl k) ?_
    show Fini p e below s _ _ _ s₁ (mkF m 78 #[.val (.int p0), .val (.int p1), .val (.int p2), .val (.int p3), .val (.int p4), .val (.int p5), .val (.int (g0_6 p5)), .val (.int (g0_16 p5)), .val (.int (1 : Int32)), .val (.int (g0_39 p4)), .val (.int (g0_48 p4)), .val (.int (g0_58 p4)), .val (.int (g0_68 p4)), .unset, .unset, .unset, .unset, .unset, .unset, .unset, .unset, .unset, .unset, .unset] [(.int ((p4.toUInt32 >>> ((16 : Int32) &&& 31).toUInt32).toInt32 &&& (15 : Int32)))])
    refine Fini.st (fun _ k => XS.istore X0.here hx rfl (hb hby at_78) rfl (l' := #[.val (.int p0), .val (.int p1), .val (.int p2), .val (.int p3), .val (.int p4), .val (.int p5), .val (.int (g0_6 p5)), .val (.int (g0_16 p5)), .val (.int (1 : Int32)), .val (.int (g0_39 p4)), .val (.int (g0_48 p4)), .val (.int (g0_58 p4)), .val (.int (g0_68 p4)), .val (.int (g0_78 p4)), .unset, .unset, .unset, .unset, .unset, .unset, .unset, .unset, .unset, .unset]) rfl k) ?_
    show Fini p e below s _ _ _ s₁ (mkF m 80 #[.val (.int p0), .val (.int p1), .val (.int p2), .val (.int p3), .val (.int p4), .val (.int p5), .val (.int (g0_6 p5)), .val (.int (g0_16 p5)), .val (.int (1 : Int32)), .val (.int (g0_39 p4)), .val (.int (g0_48 p4)), .val (.int (g0_58 p4)), .val (.int (g0_68 p4)), .val (.int (g0_78 p4)), .unset, .unset, .unset, .unset, .unset, .unset, .unset, .unset, .unset, .unset] [])
    refine Fini.st (fun _ k => XS.iload X0.here hx rfl (hb hby at_80) rfl k) ?_
    show Fini p e below s _ _ _ s₁ (mkF m 82 #[.val (.int p0), .val (.int p1), .val (.int p2), .val (.int p3), .val (.int p4), .val (.int p5), .val (.int (g0_6 p5)), .val (.int (g0_16 p5)), .val (.int (1 : Int32)), .val (.int (g0_39 p4)), .val (.int (g0_48 p4)), .val (.int (g0_58 p4)), .val (.int (g0_68 p4)), .val (.int (g0_78 p4)), .unset, .unset, .unset, .unset, .unset, .unset, .unset, .unset, .unset, .unset] [(.int p4)])
    refine Fini.st (fun _ k => XS.bipush X0.here hx rfl (hb hby at_82) k) ?_
    show Fini p e below s _ _ _ s₁ (mkF m 84 #[.val (.int p0), .val (.int p1), .val (.int p2), .val (.int p3), .val (.int p4), .val (.int p5), .val (.int (g0_6 p5)), .val (.int (g0_16 p5)), .val (.int (1 : Int32)), .val (.int (g0_39 p4)), .val (.int (g0_48 p4)), .val (.int (g0_58 p4)), .val (.int (g0_68 p4)), .val (.int (g0_78 p4)), .unset, .unset, .unset, .unset, .unset, .unset, .unset, .unset, .unset, .unset] [(.int (20 : Int32)), (.int p4)])
    refine Fini.st (fun _ k => XS.iushr X0.here hx rfl (hb hby at_84) rfl k) ?_
    show Fini p e below s _ _ _ s₁ (mkF m 85 #[.val (.int p0), .val (.int p1), .val (.int p2), .val (.int p3), .val (.int p4), .val (.int p5), .val (.int (g0_6 p5)), .val (.int (g0_16 p5)), .val (.int (1 : Int32)), .val (.int (g0_39 p4)), .val (.int (g0_48 p4)), .val (.int (g0_58 p4)), .val (.int (g0_68 p4)), .val (.int (g0_78 p4)), .unset, .unset, .unset, .unset, .unset, .unset, .unset, .unset, .unset, .unset] [(.int (p4.toUInt32 >>> ((20 : Int32) &&& 31).toUInt32).toInt32)])
    refine Fini.st (fun _ k => XS.bipush X0.here hx rfl (hb hby at_85) k) ?_
    show Fini p e below s _ _ _ s₁ (mkF m 87 #[.val (.int p0), .val (.int p1), .val (.int p2), .val (.int p3), .val (.int p4), .val (.int p5), .val (.int (g0_6 p5)), .val (.int (g0_16 p5)), .val (.int (1 : Int32)), .val (.int (g0_39 p4)), .val (.int (g0_48 p4)), .val (.int (g0_58 p4)), .val (.int (g0_68 p4)), .val (.int (g0_78 p4)), .unset, .unset, .unset, .unset, .unset, .unset, .unset, .unset, .unset, .unset] [(.int (15 : Int32)), (.int (p4.toUInt32 >>> ((20 : Int32) &&& 31).toUInt32).toInt32)])
    refine Fini.st (fun _ k => XS.iand X0.here hx rfl (hb hby at_87) rfl k) ?_
    show Fini p e below s _ _ _ s₁ (mkF m 88 #[.val (.int p0), .val (.int p1), .val (.int p2), .val (.int p3), .val (.int p4), .val (.int p5), .val (.int (g0_6 p5)), .val (.int (g0_16 p5)), .val (.int (1 : Int32)), .val (.int (g0_39 p4)), .val (.int (g0_48 p4)), .val (.int (g0_58 p4)), .val (.int (g0_68 p4)), .val (.int (g0_78 p4)), .unset, .unset, .unset, .unset, .unset, .unset, .unset, .unset, .unset, .unset] [(.int ((p4.toUInt32 >>> ((20 : Int32) &&& 31).toUInt32).toInt32 &&& (15 : Int32)))])
    refine Fini.st (fun _ k => XS.istore X0.here hx rfl (hb hby at_88) rfl (l' := #[.val (.int p0), .val (.int p1), .val (.int p2), .val (.int p3), .val (.int p4), .val (.int p5), .val (.int (g0_6 p5)), .val (.int (g0_16 p5)), .val (.int (1 : Int32)), .val (.int (g0_39 p4)), .val (.int (g0_48 p4)), .val (.int (g0_58 p4)), .val (.int (g0_68 p4)), .val (.int (g0_78 p4)), .val (.int (g0_88 p4)), .unset, .unset, .unset, .unset, .unset, .unset, .unset, .unset, .unset]) rfl k) ?_
    show Fini p e below s _ _ _ s₁ (mkF m 90 #[.val (.int p0), .val (.int p1), .val (.int p2), .val (.int p3), .val (.int p4), .val (.int p5), .val (.int (g0_6 p5)), .val (.int (g0_16 p5)), .val (.int (1 : Int32)), .val (.int (g0_39 p4)), .val (.int (g0_48 p4)), .val (.int (g0_58 p4)), .val (.int (g0_68 p4)), .val (.int (g0_78 p4)), .val (.int (g0_88 p4)), .unset, .unset, .unset, .unset, .unset, .unset, .unset, .unset, .unset] [])
    refine Fini.st (fun _ k => XS.iload X0.here hx rfl (hb hby at_90) rfl k) ?_
    show Fini p e below s _ _ _ s₁ (mkF m 92 #[.val (.int p0), .val (.int p1), .val (.int p2), .val (.int p3), .val (.int p4), .val (.int p5), .val (.int (g0_6 p5)), .val (.int (g0_16 p5)), .val (.int (1 : Int32)), .val (.int (g0_39 p4)), .val (.int (g0_48 p4)), .val (.int (g0_58 p4)), .val (.int (g0_68 p4)), .val (.int (g0_78 p4)), .val (.int (g0_88 p4)), .unset, .unset, .unset, .unset, .unset, .unset, .unset, .unset, .unset] [(.int p4)])
    refine Fini.st (fun _ k => XS.bipush X0.here hx rfl (hb hby at_92) k) ?_
    show Fini p e below s _ _ _ s₁ (mkF m 94 #[.val (.int p0), .val (.int p1), .val (.int p2), .val (.int p3), .val (.int p4), .val (.int p5), .val (.int (g0_6 p5)), .val (.int (g0_16 p5)), .val (.int (1 : Int32)), .val (.int (g0_39 p4)), .val (.int (g0_48 p4)), .val (.int (g0_58 p4)), .val (.int (g0_68 p4)), .val (.int (g0_78 p4)), .val (.int (g0_88 p4)), .unset, .unset, .unset, .unset, .unset, .unset, .unset, .unset, .unset] [(.int (24 : Int32)), (.int p4)])
    refine Fini.st (fun _ k => XS.iushr X0.here hx rfl (hb hby at_94) rfl k) ?_
    show Fini p e below s _ _ _ s₁ (mkF m 95 #[.val (.int p0), .val (.int p1), .val (.int p2), .val (.int p3), .val (.int p4), .val (.int p5), .val (.int (g0_6 p5)), .val (.int (g0_16 p5)), .val (.int (1 : Int32)), .val (.int (g0_39 p4)), .val (.int (g0_48 p4)), .val (.int (g0_58 p4)), .val (.int (g0_68 p4)), .val (.int (g0_78 p4)), .val (.int (g0_88 p4)), .unset, .unset, .unset, .unset, .unset, .unset, .unset, .unset, .unset] [(.int (p4.toUInt32 >>> ((24 : Int32) &&& 31).toUInt32).toInt32)])
    refine Fini.st (fun _ k => XS.bipush X0.here hx rfl (hb hby at_95) k) ?_
    show Fini p e below s _ _ _ s₁ (mkF m 97 #[.val (.int p0), .val (.int p1), .val (.int p2), .val (.int p3), .val (.int p4), .val (.int p5), .val (.int (g0_6 p5)), .val (.int (g0_16 p5)), .val (.int (1 : Int32)), .val (.int (g0_39 p4)), .val (.int (g0_48 p4)), .val (.int (g0_58 p4)), .val (.int (g0_68 p4)), .val (.int (g0_78 p4)), .val (.int (g0_88 p4)), .unset, .unset, .unset, .unset, .unset, .unset, .unset, .unset, .unset] [(.int (15 : Int32)), (.int (p4.toUInt32 >>> ((24 : Int32) &&& 31).toUInt32).toInt32)])
    refine Fini.st (fun _ k => XS.iand X0.here hx rfl (hb hby at_97) rfl k) ?_
    show Fini p e below s _ _ _ s₁ (mkF m 98 #[.val (.int p0), .val (.int p1), .val (.int p2), .val (.int p3), .val (.int p4), .val (.int p5), .val (.int (g0_6 p5)), .val (.int (g0_16 p5)), .val (.int (1 : Int32)), .val (.int (g0_39 p4)), .val (.int (g0_48 p4)), .val (.int (g0_58 p4)), .val (.int (g0_68 p4)), .val (.int (g0_78 p4)), .val (.int (g0_88 p4)), .unset, .unset, .unset, .unset, .unset, .unset, .unset, .unset, .unset] [(.int ((p4.toUInt32 >>> ((24 : Int32) &&& 31).toUInt32).toInt32 &&& (15 : Int32)))])
    refine Fini.st (fun _ k => XS.istore X0.here hx rfl (hb hby at_98) rfl (l' := #[.val (.int p0), .val (.int p1), .val (.int p2), .val (.int p3), .val (.int p4), .val (.int p5), .val (.int (g0_6 p5)), .val (.int (g0_16 p5)), .val (.int (1 : Int32)), .val (.int (g0_39 p4)), .val (.int (g0_48 p4)), .val (.int (g0_58 p4)), .val (.int (g0_68 p4)), .val (.int (g0_78 p4)), .val (.int (g0_88 p4)), .val (.int (g0_98 p4)), .unset, .unset, .unset, .unset, .unset, .unset, .unset, .unset]) rfl k) ?_
    show Fini p e below s _ _ _ s₁ (mkF m 100 #[.val (.int p0), .val (.int p1), .val (.int p2), .val (.int p3), .val (.int p4), .val (.int p5), .val (.int (g0_6 p5)), .val (.int (g0_16 p5)), .val (.int (1 : Int32)), .val (.int (g0_39 p4)), .val (.int (g0_48 p4)), .val (.int (g0_58 p4)), .val (.int (g0_68 p4)), .val (.int (g0_78 p4)), .val (.int (g0_88 p4)), .val (.int (g0_98 p4)), .unset, .unset, .unset, .unset, .unset, .unset, .unset, .unset] [])
    refine Fini.st (fun _ k => XS.iload X0.here hx rfl (hb hby at_100) rfl k) ?_
    show Fini p e below s _ _ _ s₁ (mkF m 102 #[.val (.int p0), .val (.int p1), .val (.int p2), .val (.int p3), .val (.int p4), .val (.int p5), .val (.int (g0_6 p5)), .val (.int (g0_16 p5)), .val (.int (1 : Int32)), .val (.int (g0_39 p4)), .val (.int (g0_48 p4)), .val (.int (g0_58 p4)), .val (.int (g0_68 p4)), .val (.int (g0_78 p4)), .val (.int (g0_88 p4)), .val (.int (g0_98 p4)), .unset, .unset, .unset, .unset, .unset, .unset, .unset, .unset] [(.int p4)])
    refine Fini.st (fun _ k => XS.bipush X0.here hx rfl (hb hby at_102) k) ?_
    show Fini p e below s _ _ _ s₁ (mkF m 104 #[.val (.int p0), .val (.int p1), .val (.int p2), .val (.int p3), .val (.int p4), .val (.int p5), .val (.int (g0_6 p5)), .val (.int (g0_16 p5)), .val (.int (1 : Int32)), .val (.int (g0_39 p4)), .val (.int (g0_48 p4)), .val (.int (g0_58 p4)), .val (.int (g0_68 p4)), .val (.int (g0_78 p4)), .val (.int (g0_88 p4)), .val (.int (g0_98 p4)), .unset, .unset, .unset, .unset, .unset, .unset, .unset, .unset] [(.int (28 : Int32)), (.int p4)])
    refine Fini.st (fun _ k => XS.iushr X0.here hx rfl (hb hby at_104) rfl k) ?_
    show Fini p e below s _ _ _ s₁ (mkF m 105 #[.val (.int p0), .val (.int p1), .val (.int p2), .val (.int p3), .val (.int p4), .val (.int p5), .val (.int (g0_6 p5)), .val (.int (g0_16 p5)), .val (.int (1 : Int32)), .val (.int (g0_39 p4)), .val (.int (g0_48 p4)), .val (.int (g0_58 p4)), .val (.int (g0_68 p4)), .val (.int (g0_78 p4)), .val (.int (g0_88 p4)), .val (.int (g0_98 p4)), .unset, .unset, .unset, .unset, .unset, .unset, .unset, .unset] [(.int (p4.toUInt32 >>> ((28 : Int32) &&& 31).toUInt32).toInt32)])
    refine Fini.st (fun _ k => XS.bipush X0.here hx rfl (hb hby at_105) k) ?_
    show Fini p e below s _ _ _ s₁ (mkF m 107 #[.val (.int p0), .val (.int p1), .val (.int p2), .val (.int p3), .val (.int p4), .val (.int p5), .val (.int (g0_6 p5)), .val (.int (g0_16 p5)), .val (.int (1 : Int32)), .val (.int (g0_39 p4)), .val (.int (g0_48 p4)), .val (.int (g0_58 p4)), .val (.int (g0_68 p4)), .val (.int (g0_78 p4)), .val (.int (g0_88 p4)), .val (.int (g0_98 p4)), .unset, .unset, .unset, .unset, .unset, .unset, .unset, .unset] [(.int (15 : Int32)), (.int (p4.toUInt32 >>> ((28 : Int32) &&& 31).toUInt32).toInt32)])
    refine Fini.st (fun _ k => XS.iand X0.here hx rfl (hb hby at_107) rfl k) ?_
    show Fini p e below s _ _ _ s₁ (mkF m 108 #[.val (.int p0), .val (.int p1), .val (.int p2), .val (.int p3), .val (.int p4), .val (.int p5), .val (.int (g0_6 p5)), .val (.int (g0_16 p5)), .val (.int (1 : Int32)), .val (.int (g0_39 p4)), .val (.int (g0_48 p4)), .val (.int (g0_58 p4)), .val (.int (g0_68 p4)), .val (.int (g0_78 p4)), .val (.int (g0_88 p4)), .val (.int (g0_98 p4)), .unset, .unset, .unset, .unset, .unset, .unset, .unset, .unset] [(.int ((p4.toUInt32 >>> ((28 : Int32) &&& 31).toUInt32).toInt32 &&& (15 : Int32)))])
    refine Fini.st (fun _ k => XS.istore X0.here hx rfl (hb hby at_108) rfl (l' := #[.val (.int p0), .val (.int p1), .val (.int p2), .val (.int p3), .val (.int p4), .val (.int p5), .val (.int (g0_6 p5)), .val (.int (g0_16 p5)), .val (.int (1 : Int32)), .val (.int (g0_39 p4)), .val (.int (g0_48 p4)), .val (.int (g0_58 p4)), .val (.int (g0_68 p4)), .val (.int (g0_78 p4)), .val (.int (g0_88 p4)), .val (.int (g0_98 p4)), .val (.int (g0_108 p4)), .unset, .unset, .unset, .unset, .unset, .unset, .unset]) rfl k) ?_
    show Fini p e below s _ _ _ s₁ (mkF m 110 #[.val (.int p0), .val (.int p1), .val (.int p2), .val (.int p3), .val (.int p4), .val (.int p5), .val (.int (g0_6 p5)), .val (.int (g0_16 p5)), .val (.int (1 : Int32)), .val (.int (g0_39 p4)), .val (.int (g0_48 p4)), .val (.int (g0_58 p4)), .val (.int (g0_68 p4)), .val (.int (g0_78 p4)), .val (.int (g0_88 p4)), .val (.int (g0_98 p4)), .val (.int (g0_108 p4)), .unset, .unset, .unset, .unset, .unset, .unset, .unset] [])
    refine Fini.st (fun _ k => XS.iload X0.here hx rfl (hb hby at_110) rfl k) ?_
    show Fini p e below s _ _ _ s₁ (mkF m 112 #[.val (.int p0), .val (.int p1), .val (.int p2), .val (.int p3), .val (.int p4), .val (.int p5), .val (.int (g0_6 p5)), .val (.int (g0_16 p5)), .val (.int (1 : Int32)), .val (.int (g0_39 p4)), .val (.int (g0_48 p4)), .val (.int (g0_58 p4)), .val (.int (g0_68 p4)), .val (.int (g0_78 p4)), .val (.int (g0_88 p4)), .val (.int (g0_98 p4)), .val (.int (g0_108 p4)), .unset, .unset, .unset, .unset, .unset, .unset, .unset] [(.int (1 : Int32))])
    refine Fini.st (fun _ k => XS.ifNo X0.here hx rfl (hb hby at_112) rfl (XT.i0_eq_f (by decide : ¬ (1 : Int32) = (0 : Int32))) k) ?_
    show Fini p e below s _ _ _ s₁ (mkF m 115 #[.val (.int p0), .val (.int p1), .val (.int p2), .val (.int p3), .val (.int p4), .val (.int p5), .val (.int (g0_6 p5)), .val (.int (g0_16 p5)), .val (.int (1 : Int32)), .val (.int (g0_39 p4)), .val (.int (g0_48 p4)), .val (.int (g0_58 p4)), .val (.int (g0_68 p4)), .val (.int (g0_78 p4)), .val (.int (g0_88 p4)), .val (.int (g0_98 p4)), .val (.int (g0_108 p4)), .unset, .unset, .unset, .unset, .unset, .unset, .unset] [])
    refine Fini.st (fun _ k => XS.iloadN X0.here hx rfl (hb hby at_115) rfl k) ?_
    show Fini p e below s _ _ _ s₁ (mkF m 116 #[.val (.int p0), .val (.int p1), .val (.int p2), .val (.int p3), .val (.int p4), .val (.int p5), .val (.int (g0_6 p5)), .val (.int (g0_16 p5)), .val (.int (1 : Int32)), .val (.int (g0_39 p4)), .val (.int (g0_48 p4)), .val (.int (g0_58 p4)), .val (.int (g0_68 p4)), .val (.int (g0_78 p4)), .val (.int (g0_88 p4)), .val (.int (g0_98 p4)), .val (.int (g0_108 p4)), .unset, .unset, .unset, .unset, .unset, .unset, .unset] [(.int p0)])
    refine Fini.st (fun _ k => XS.istoreN X0.here hx rfl (hb hby at_116) rfl (l' := #[.val (.int p0), .val (.int p1), .val (.int p0), .val (.int p3), .val (.int p4), .val (.int p5), .val (.int (g0_6 p5)), .val (.int (g0_16 p5)), .val (.int (1 : Int32)), .val (.int (g0_39 p4)), .val (.int (g0_48 p4)), .val (.int (g0_58 p4)), .val (.int (g0_68 p4)), .val (.int (g0_78 p4)), .val (.int (g0_88 p4)), .val (.int (g0_98 p4)), .val (.int (g0_108 p4)), .unset, .unset, .unset, .unset, .unset, .unset, .unset]) rfl k) ?_
    show Fini p e below s _ _ _ s₁ (mkF m 117 #[.val (.int p0), .val (.int p1), .val (.int p0), .val (.int p3), .val (.int p4), .val (.int p5), .val (.int (g0_6 p5)), .val (.int (g0_16 p5)), .val (.int (1 : Int32)), .val (.int (g0_39 p4)), .val (.int (g0_48 p4)), .val (.int (g0_58 p4)), .val (.int (g0_68 p4)), .val (.int (g0_78 p4)), .val (.int (g0_88 p4)), .val (.int (g0_98 p4)), .val (.int (g0_108 p4)), .unset, .unset, .unset, .unset, .unset, .unset, .unset] [])
    refine Fini.st (fun _ k => XS.iloadN X0.here hx rfl (hb hby at_117) rfl k) ?_
    show Fini p e below s _ _ _ s₁ (mkF m 118 #[.val (.int p0), .val (.int p1), .val (.int p0), .val (.int p3), .val (.int p4), .val (.int p5), .val (.int (g0_6 p5)), .val (.int (g0_16 p5)), .val (.int (1 : Int32)), .val (.int (g0_39 p4)), .val (.int (g0_48 p4)), .val (.int (g0_58 p4)), .val (.int (g0_68 p4)), .val (.int (g0_78 p4)), .val (.int (g0_88 p4)), .val (.int (g0_98 p4)), .val (.int (g0_108 p4)), .unset, .unset, .unset, .unset, .unset, .unset, .unset] [(.int p1)])
    refine Fini.st (fun _ k => XS.istoreN X0.here hx rfl (hb hby at_118) rfl (l' := #[.val (.int p0), .val (.int p1), .val (.int p0), .val (.int p1), .val (.int p4), .val (.int p5), .val (.int (g0_6 p5)), .val (.int (g0_16 p5)), .val (.int (1 : Int32)), .val (.int (g0_39 p4)), .val (.int (g0_48 p4)), .val (.int (g0_58 p4)), .val (.int (g0_68 p4)), .val (.int (g0_78 p4)), .val (.int (g0_88 p4)), .val (.int (g0_98 p4)), .val (.int (g0_108 p4)), .unset, .unset, .unset, .unset, .unset, .unset, .unset]) rfl k) ?_
    show Fini p e below s _ _ _ s₁ (mkF m 119 #[.val (.int p0), .val (.int p1), .val (.int p0), .val (.int p1), .val (.int p4), .val (.int p5), .val (.int (g0_6 p5)), .val (.int (g0_16 p5)), .val (.int (1 : Int32)), .val (.int (g0_39 p4)), .val (.int (g0_48 p4)), .val (.int (g0_58 p4)), .val (.int (g0_68 p4)), .val (.int (g0_78 p4)), .val (.int (g0_88 p4)), .val (.int (g0_98 p4)), .val (.int (g0_108 p4)), .unset, .unset, .unset, .unset, .unset, .unset, .unset] [])
    refine Fini.st (fun _ k => XS.iload X0.here hx rfl (hb hby at_119) rfl k) ?_
    show Fini p e below s _ _ _ s₁ (mkF m 121 #[.val (.int p0), .val (.int p1), .val (.int p0), .val (.int p1), .val (.int p4), .val (.int p5), .val (.int (g0_6 p5)), .val (.int (g0_16 p5)), .val (.int (1 : Int32)), .val (.int (g0_39 p4)), .val (.int (g0_48 p4)), .val (.int (g0_58 p4)), .val (.int (g0_68 p4)), .val (.int (g0_78 p4)), .val (.int (g0_88 p4)), .val (.int (g0_98 p4)), .val (.int (g0_108 p4)), .unset, .unset, .unset, .unset, .unset, .unset, .unset] [(.int (g0_39 p4))])
    refine Fini.st (fun _ k => XS.istore X0.here hx rfl (hb hby at_121) rfl (l' := #[.val (.int p0), .val (.int p1), .val (.int p0), .val (.int p1), .val (.int p4), .val (.int p5), .val (.int (g0_6 p5)), .val (.int (g0_16 p5)), .val (.int (1 : Int32)), .val (.int (g0_39 p4)), .val (.int (g0_48 p4)), .val (.int (g0_58 p4)), .val (.int (g0_68 p4)), .val (.int (g0_39 p4)), .val (.int (g0_88 p4)), .val (.int (g0_98 p4)), .val (.int (g0_108 p4)), .unset, .unset, .unset, .unset, .unset, .unset, .unset]) rfl k) ?_
    show Fini p e below s _ _ _ s₁ (mkF m 123 #[.val (.int p0), .val (.int p1), .val (.int p0), .val (.int p1), .val (.int p4), .val (.int p5), .val (.int (g0_6 p5)), .val (.int (g0_16 p5)), .val (.int (1 : Int32)), .val (.int (g0_39 p4)), .val (.int (g0_48 p4)), .val (.int (g0_58 p4)), .val (.int (g0_68 p4)), .val (.int (g0_39 p4)), .val (.int (g0_88 p4)), .val (.int (g0_98 p4)), .val (.int (g0_108 p4)), .unset, .unset, .unset, .unset, .unset, .unset, .unset] [])
    refine Fini.st (fun _ k => XS.iload X0.here hx rfl (hb hby at_123) rfl k) ?_
    show Fini p e below s _ _ _ s₁ (mkF m 125 #[.val (.int p0), .val (.int p1), .val (.int p0), .val (.int p1), .val (.int p4), .val (.int p5), .val (.int (g0_6 p5)), .val (.int (g0_16 p5)), .val (.int (1 : Int32)), .val (.int (g0_39 p4)), .val (.int (g0_48 p4)), .val (.int (g0_58 p4)), .val (.int (g0_68 p4)), .val (.int (g0_39 p4)), .val (.int (g0_88 p4)), .val (.int (g0_98 p4)), .val (.int (g0_108 p4)), .unset, .unset, .unset, .unset, .unset, .unset, .unset] [(.int (g0_48 p4))])
    refine Fini.st (fun _ k => XS.istore X0.here hx rfl (hb hby at_125) rfl (l' := #[.val (.int p0), .val (.int p1), .val (.int p0), .val (.int p1), .val (.int p4), .val (.int p5), .val (.int (g0_6 p5)), .val (.int (g0_16 p5)), .val (.int (1 : Int32)), .val (.int (g0_39 p4)), .val (.int (g0_48 p4)), .val (.int (g0_58 p4)), .val (.int (g0_68 p4)), .val (.int (g0_39 p4)), .val (.int (g0_48 p4)), .val (.int (g0_98 p4)), .val (.int (g0_108 p4)), .unset, .unset, .unset, .unset, .unset, .unset, .unset]) rfl k) ?_
    show Fini p e below s _ _ _ s₁ (mkF m 127 #[.val (.int p0), .val (.int p1), .val (.int p0), .val (.int p1), .val (.int p4), .val (.int p5), .val (.int (g0_6 p5)), .val (.int (g0_16 p5)), .val (.int (1 : Int32)), .val (.int (g0_39 p4)), .val (.int (g0_48 p4)), .val (.int (g0_58 p4)), .val (.int (g0_68 p4)), .val (.int (g0_39 p4)), .val (.int (g0_48 p4)), .val (.int (g0_98 p4)), .val (.int (g0_108 p4)), .unset, .unset, .unset, .unset, .unset, .unset, .unset] [])
    refine Fini.st (fun _ k => XS.iload X0.here hx rfl (hb hby at_127) rfl k) ?_
    show Fini p e below s _ _ _ s₁ (mkF m 129 #[.val (.int p0), .val (.int p1), .val (.int p0), .val (.int p1), .val (.int p4), .val (.int p5), .val (.int (g0_6 p5)), .val (.int (g0_16 p5)), .val (.int (1 : Int32)), .val (.int (g0_39 p4)), .val (.int (g0_48 p4)), .val (.int (g0_58 p4)), .val (.int (g0_68 p4)), .val (.int (g0_39 p4)), .val (.int (g0_48 p4)), .val (.int (g0_98 p4)), .val (.int (g0_108 p4)), .unset, .unset, .unset, .unset, .unset, .unset, .unset] [(.int (g0_58 p4))])
    refine Fini.st (fun _ k => XS.istore X0.here hx rfl (hb hby at_129) rfl (l' := #[.val (.int p0), .val (.int p1), .val (.int p0), .val (.int p1), .val (.int p4), .val (.int p5), .val (.int (g0_6 p5)), .val (.int (g0_16 p5)), .val (.int (1 : Int32)), .val (.int (g0_39 p4)), .val (.int (g0_48 p4)), .val (.int (g0_58 p4)), .val (.int (g0_68 p4)), .val (.int (g0_39 p4)), .val (.int (g0_48 p4)), .val (.int (g0_58 p4)), .val (.int (g0_108 p4)), .unset, .unset, .unset, .unset, .unset, .unset, .unset]) rfl k) ?_
    show Fini p e below s _ _ _ s₁ (mkF m 131 #[.val (.int p0), .val (.int p1), .val (.int p0), .val (.int p1), .val (.int p4), .val (.int p5), .val (.int (g0_6 p5)), .val (.int (g0_16 p5)), .val (.int (1 : Int32)), .val (.int (g0_39 p4)), .val (.int (g0_48 p4)), .val (.int (g0_58 p4)), .val (.int (g0_68 p4)), .val (.int (g0_39 p4)), .val (.int (g0_48 p4)), .val (.int (g0_58 p4)), .val (.int (g0_108 p4)), .unset, .unset, .unset, .unset, .unset, .unset, .unset] [])
    refine Fini.st (fun _ k => XS.iload X0.here hx rfl (hb hby at_131) rfl k) ?_
    show Fini p e below s _ _ _ s₁ (mkF m 133 #[.val (.int p0), .val (.int p1), .val (.int p0), .val (.int p1), .val (.int p4), .val (.int p5), .val (.int (g0_6 p5)), .val (.int (g0_16 p5)), .val (.int (1 : Int32)), .val (.int (g0_39 p4)), .val (.int (g0_48 p4)), .val (.int (g0_58 p4)), .val (.int (g0_68 p4)), .val (.int (g0_39 p4)), .val (.int (g0_48 p4)), .val (.int (g0_58 p4)), .val (.int (g0_108 p4)), .unset, .unset, .unset, .unset, .unset, .unset, .unset] [(.int (g0_68 p4))])
    refine Fini.st (fun _ k => XS.istore X0.here hx rfl (hb hby at_133) rfl (l' := #[.val (.int p0), .val (.int p1), .val (.int p0), .val (.int p1), .val (.int p4), .val (.int p5), .val (.int (g0_6 p5)), .val (.int (g0_16 p5)), .val (.int (1 : Int32)), .val (.int (g0_39 p4)), .val (.int (g0_48 p4)), .val (.int (g0_58 p4)), .val (.int (g0_68 p4)), .val (.int (g0_39 p4)), .val (.int (g0_48 p4)), .val (.int (g0_58 p4)), .val (.int (g0_68 p4)), .unset, .unset, .unset, .unset, .unset, .unset, .unset]) rfl k) ?_
    show Fini p e below s _ _ _ s₁ (mkF m 135 #[.val (.int p0), .val (.int p1), .val (.int p0), .val (.int p1), .val (.int p4), .val (.int p5), .val (.int (g0_6 p5)), .val (.int (g0_16 p5)), .val (.int (1 : Int32)), .val (.int (g0_39 p4)), .val (.int (g0_48 p4)), .val (.int (g0_58 p4)), .val (.int (g0_68 p4)), .val (.int (g0_39 p4)), .val (.int (g0_48 p4)), .val (.int (g0_58 p4)), .val (.int (g0_68 p4)), .unset, .unset, .unset, .unset, .unset, .unset, .unset] [])
    refine Fini.cast (g' := (mkF m 135 #[.val (.int p0), .val (.int p1), .val (.int (own_s p5 p2 p0)), .val (.int (own_s p5 p3 p1)), .val (.int p4), .val (.int p5), .val (.int (g0_6 p5)), .val (.int (g0_16 p5)), .val (.int (1 : Int32)), .val (.int (g0_39 p4)), .val (.int (g0_48 p4)), .val (.int (g0_58 p4)), .val (.int (g0_68 p4)), .val (.int (own_s p5 (g0_78 p4) (g0_39 p4))), .val (.int (own_s p5 (g0_88 p4) (g0_48 p4))), .val (.int (own_s p5 (g0_98 p4) (g0_58 p4))), .val (.int (own_s p5 (g0_108 p4) (g0_68 p4))), .unset, .unset, .unset, .unset, .unset, .unset, .unset] [])) (by rw [(show (own_s p5 p2 p0) = p0 from if_neg c1), (show (own_s p5 p3 p1) = p1 from if_neg c1), (show (own_s p5 (g0_78 p4) (g0_39 p4)) = (g0_39 p4) from if_neg c1), (show (own_s p5 (g0_88 p4) (g0_48 p4)) = (g0_48 p4) from if_neg c1), (show (own_s p5 (g0_98 p4) (g0_58 p4)) = (g0_58 p4) from if_neg c1), (show (own_s p5 (g0_108 p4) (g0_68 p4)) = (g0_68 p4) from if_neg c1)]) ?_
    show Fini p e below s _ _ _ s₁ (mkF m 135 #[.val (.int p0), .val (.int p1), .val (.int (own_s p5 p2 p0)), .val (.int (own_s p5 p3 p1)), .val (.int p4), .val (.int p5), .val (.int (g0_6 p5)), .val (.int (g0_16 p5)), .val (.int (1 : Int32)), .val (.int (g0_39 p4)), .val (.int (g0_48 p4)), .val (.int (g0_58 p4)), .val (.int (g0_68 p4)), .val (.int (own_s p5 (g0_78 p4) (g0_39 p4))), .val (.int (own_s p5 (g0_88 p4) (g0_48 p4))), .val (.int (own_s p5 (g0_98 p4) (g0_58 p4))), .val (.int (own_s p5 (g0_108 p4) (g0_68 p4))), .unset, .unset, .unset, .unset, .unset, .unset, .unset] [])
    exact B135 s₁ _ _ (X0.more (cells' := 0) (slots' := 0) (by decide) (by decide)) e0 (1 : Int32) N0 D0 S_cs S_hi S_ca Z0
theorem own_law (p0 p1 p2 p3 p4 p5 : Int32) : (1 : Int32) = 1 := rfl
theorem own_ncs {args : Array Value} {s : State} {t : Term} {cs : Int32} (ev : t.eval args s none [] s = some (.int cs)) (h : (Jvm.Cond.not (.eq t (.int 0))).value args s none s [] = some true) : ¬ cs = (0 : Int32) := fun q => by
  have e := Cond.eq_ints ev (Term.int_eval (args := args) (first := s) (o := none) (idx := []) (s := s) 0)
  have h2 := (not_v h).symm.trans e
  rw [q] at h2
  exact absurd h2 (by decide)
theorem own_cache {args : Array Value} {s : State} {t : Term} {ca : Addr} {cl : Cell} {c2 : Jvm.Cond} (hev : ∀ idx, t.eval args s none idx s = some (.ref ca)) (A : Arr s s.heap ca cl (.object "java/lang/Integer")) (hc : s.arrayAt? ca = some cl) (eL : (Term.length t).eval args s none [] s = some (.int 256))
    (h : (Jvm.Cond.all t (.and (.exactly (.elem t (.index 0)) "java/lang/Integer") c2)).value args s none s [] = some true) : CacheQ s s.heap ca := by
  have e : (Term.length t).eval args s none [] s = if cl.slots.size < 2 ^ 31 then some (.int cl.slots.size.toInt32) else none := by simp [Term.eval, hev, hc]
  rw [e] at eL
  by_cases q : cl.slots.size < 2 ^ 31
  · rw [if_pos q] at eL
    have e2 : cl.slots.size.toInt32 = 256 := Value.int.inj (Option.some.inj eL)
    have e3 : cl.slots.size = 256 := by
      have e4 := congrArg Int32.toInt e2
      rw [show cl.slots.size.toInt32 = Int32.ofNat cl.slots.size from rfl, Int32.toInt_ofNat_of_lt q] at e4
      have t : (256 : Int32).toInt = 256 := rfl
      omega
    refine ⟨cl, A, e3, fun i hi => ?_⟩
    have hi2 : i < 256 := hi
    obtain ⟨j, hj0, rfl⟩ : ∃ j : Int32, ¬ j < 0 ∧ j.toNatClampNeg = i := by
      have e5 : (Int32.ofNat i).toInt = i := Int32.toInt_ofNat_of_lt (by omega)
      refine ⟨Int32.ofNat i, ?_, ?_⟩
      · rw [Int32.lt_iff_toInt_lt, e5]
        have t : (0 : Int32).toInt = 0 := rfl
        omega
      · show (Int32.ofNat i).toInt.toNat = i
        rw [e5]; rfl
    have g := (and_e (Cond.all_elim (hev []) hc h j.toNatClampNeg (by rw [e3]; exact hi))).1
    obtain ⟨b, c', cell, k, g1, g2, g3, g4, g5, rfl, g7⟩ := Cond.exactly_spec (args := args) (first := s) (o := none) (s := s) (idx := [j.toNatClampNeg]) (t := .elem t (.index 0)) (cls := "java/lang/Integer") (by unfold Cond.holds; rw [g]; rfl)
    exact ⟨b, (elem_in g1 (hev _) (idx_at hj0) A.1).2, cell, k, g3, g2, g4, g5, g7⟩
  · rw [if_neg q] at eL; cases eL

theorem own_eqI {args : Array Value} {first s : State} {o : Option Outcome} {idx : List Nat} {a : Term} {n : Int32} (h : (Jvm.Cond.eq a (.int n)).value args first o s idx = some true) : a.eval args first o idx s = some (.int n) := by
  obtain ⟨x, y, h1, h2, k1, k2⟩ := cmp_v (Or.inl h)
  have e2 : y = .int n := Option.some.inj (h2.symm.trans (Term.int_eval n))
  subst e2
  obtain ⟨z, rfl⟩ : ∃ z, x = .int z := k2
  rw [h1, gotT (Cond.eq_ints h1 h2) h]
set_option maxRecDepth 65536 in
set_option maxHeartbeats 40000000 in
theorem comes_1 {Post : Tables → Env → Array Value → State → Outcome → State → Prop} (hpost : ∀ tb e args s v u, (limb_1_1.after args s (.returned v) u = true ∧ limb_1_2.after args s (.returned v) u = true ∧ True) → FrameEnd s (.returned v) u (Jvm.fieldLocs frame_1_writes args s ++ Jvm.arrayLocs frame_1_arrays args s ++ Jvm.staticLocs frame_1_statics s) 48 192 → Post tb e args s (.returned v) u) :
    ArmFor flags0 classFile x code maxLocals ret World_1 tables_1 room_1 Calls_1 rest_1 Pre_1 Post := by
  intro l hfl _ _ p e ha hc hk s m args below hf hA hF happ hP
  obtain ⟨hcalls, hrest, hpre⟩ := hP
  obtain ⟨-, -, -, hnamed, -, -, -, hat⟩ := (Spec.applies_iff hf).mp happ
  obtain ⟨hg, hn⟩ := and_e (Cond.before_iff.mp (show (Jvm.Cond.and given_1 narrow_1).before args s = true from hpre))
  obtain ⟨g1, g2⟩ := and_e hg
  obtain ⟨g3, g4⟩ := and_e g2
  obtain ⟨g5, g6⟩ := and_e g4
  obtain ⟨g7, g8⟩ := and_e g6
  obtain ⟨g9, g10⟩ := and_e g8
  obtain ⟨g11, g12⟩ := and_e g10
  obtain ⟨w0, w1, w2, w3, w4, w5, rfl⟩ : ∃ w0 w1 w2 w3 w4 w5 : Value, args = #[w0, w1, w2, w3, w4, w5] := by
    have hs : args.size = 6 := by simpa [Cond.value, given_1] using g1
    obtain ⟨L⟩ := args
    match L, hs with
    | [w0, w1, w2, w3, w4, w5], _ => exact ⟨w0, w1, w2, w3, w4, w5, rfl⟩
  have hw := fun d (hd : d ∈ tables_1) => atoms_spec (ws := Jvm.Cond.code x code maxLocals ret :: tables_1) hat d (List.mem_cons_of_mem _ hd)
  have hfit : Fit s := fun {y c} hc i hi => by
    obtain ⟨ha, rfl⟩ := Array.getElem?_eq_some_iff.mp hc
    have q := List.all_eq_true.mp ((Array.all_eq_true_iff_forall_mem.mp hF) _ (Array.getElem_mem ha)) i (List.mem_range.mpr hi)
    simpa [Array.getElem?_eq_getElem hi] using q
  obtain ⟨i0, ei0⟩ := is_v g3
  obtain rfl : w0 = (.int i0) := Option.some.inj ei0
  obtain ⟨i1, ei1⟩ := is_v g5
  obtain rfl : w1 = (.int i1) := Option.some.inj ei1
  obtain ⟨i2, ei2⟩ := is_v g7
  obtain rfl : w2 = (.int i2) := Option.some.inj ei2
  obtain ⟨i3, ei3⟩ := is_v g9
  obtain rfl : w3 = (.int i3) := Option.some.inj ei3
  obtain ⟨i4, ei4⟩ := is_v g11
  obtain rfl : w4 = (.int i4) := Option.some.inj ei4
  obtain ⟨i5, ei5⟩ := is_v g12
  obtain rfl : w5 = (.int i5) := Option.some.inj ei5
  obtain ⟨hsets, hown0⟩ := atoms_of _ (rest_1_c_eq ▸ (show rest_1_c.before _ s = true from hrest))
  have hr0 := Cond.before_iff.mp hown0
  obtain ⟨cs, evs⟩ := is_v (Cond.before_iff.mp (hsets _ (List.mem_of_getElem? (i := 9) rfl)))
  have Ss := Sta.start evs (Or.inl (hsets _ (List.mem_of_getElem? (i := 8) rfl)))
  have hcs : ¬ cs = (0 : Int32) := own_ncs evs (Cond.before_iff.mp (hsets _ (List.mem_of_getElem? (i := 10) rfl)))
  have Sh := Sta.start (own_eqI (Cond.before_iff.mp (hsets _ (List.mem_of_getElem? (i := 3) rfl)))) (Or.inl (hsets _ (List.mem_of_getElem? (i := 1) rfl)))
  have eL := own_eqI (Cond.before_iff.mp (hsets _ (List.mem_of_getElem? (i := 6) rfl)))
  obtain ⟨ca, evc⟩ := len_v eL
  have Sc := Sta.start evc (Or.inr ⟨(hw _ (List.mem_of_getElem? (i := 25) rfl)), (hsets _ (List.mem_of_getElem? (i := 2) rfl))⟩)
  obtain ⟨cl, A0⟩ := Arr.start evc (Cond.before_iff.mp (hsets _ (List.mem_of_getElem? (i := 4) rfl)))
  have hcl : s.arrayAt? ca = some cl := A0.fin (Vm.Alike.refl _)
  have hC := own_cache (fun idx => evc) A0 hcl eL (Cond.before_iff.mp (hsets _ (List.mem_of_getElem? (i := 7) rfl)))
  obtain ⟨n, o, h1, h2, h3, v, L, rfl, ⟨rfl, N⟩, hq⟩ := rm0 l s _ hw tables_1 i0 i1 i2 i3 i4 i5 cs ca s.heap s.heap.size (Nat.le_refl _) (Old.start s) Ss Sh Sc hcs hC p e ha hc hk s m _ below hf ((Spec.applies_iff_loose hf).mp happ).1 ⟨rfl, State.Warmed39.refl s, rfl⟩ trivial
  refine ⟨n, _, h1, h2, h3, hpost _ _ _ _ _ _ ⟨Cond.after_iff.mpr rfl, Cond.after_iff.mpr (eq_i res_at (Term.int_eval (1)) (congrArg Value.int (own_law i0 i1 i2 i3 i4 i5))), trivial⟩ ⟨hq.1, hq.2.1, (hq.2.2.sift fun y hy => Or.inr (N y hy)).mono (by decide) (by decide)⟩⟩
theorem main_1_1 : Claimed_1_1 := comes_1 fun _ _ _ _ _ _ h hF => ⟨h.1, hF⟩
theorem main_1_2 : Claimed_1_2 := comes_1 fun _ _ _ _ _ _ h hF => ⟨h.2.1, hF⟩
end Jvm.Pilot.@@N@@
namespace Jvm.Pilot.@@N@@
open Jvm Jvm.ClassFile Sem Op Lib Jvm.Free Jvm.Stand Jvm.Pilot.@@N@@.Jvm.D
/-! MADE BY PROGRAM (witnessworld.py) out of the Statement's table words and the real class files: 21 classes; the members and pool entries that the words name. The judged class is class 1, her method 2. -/
namespace start1
open Jvm.ClassFile
def u (s : String) : CpInfo := .utf8 (stringToUtf16 s)
/-- a pool by its gaps: so many unusable entries, then the entry; so many at the end -/
def gap : Nat → List CpInfo → List CpInfo
  | 0, r => r
  | n + 1, r => .unusable :: gap n r
def poolList (es : List (Nat × CpInfo)) (last : Nat) : List CpInfo := es.foldr (fun e r => gap e.1 (e.2 :: r)) (gap last [])
def pool (es : List (Nat × CpInfo)) (last : Nat) : Array CpInfo := ⟨poolList es last⟩
def fileOf (pool : Array CpInfo) (this : Nat) (attrs : Array Attribute := #[]) (ms : Array MethodInfo := #[]) (fl : Nat := 33) (sup : Nat := 0) (ifs : Array Nat := #[]) (fds : Array FieldInfo := #[]) : ClassFile where
  minorVersion := 0
  majorVersion := 65
  constantPool := pool
  accessFlags := fl
  thisClass := this
  superClass := sup
  interfaces := ifs
  fields := fds
  methods := ms
  attributes := attrs
def plain (name : String) (sup : Option ClassId) : Class where
  name := name
  kind := .ordinary
  loader := none
  accessFlags := 33
  super := sup
  interfaces := #[]
  cf := none
  fields := #[]
  methods := #[]
  instanceTypes := #[]
  staticTypes := #[]
  resolved := #[]
  callSites := []
  init := .initialized
  statics := none
  mirror := none

def pool0 : Array CpInfo := pool [(5, u "<init>"), (0, u "()V"), (1, .class_ 10), (1, u "java/lang/Object")] 113

def k0c0 : Code := { maxStack := 0, maxLocals := 1, code := object_method_1_code, exceptionTable := #[], attributes := #[] }
def k0m0 : Method := { name := "<init>", desc := "()V", sig := { parameters := [], returnType := none }, accessFlags := 1, code := some k0c0 }
/-- java/lang/Object -/
def k0 : Class := { plain "java/lang/Object" none with
  accessFlags := 33
  interfaces := #[]
  cf := some (fileOf pool0 8 #[] #[{ accessFlags := 1, nameIndex := 5, descriptorIndex := 6, attributes := #[] }] 33 0 #[] #[])
  fields := #[]
  methods := #[k0m0]
  instanceTypes := #[]
  staticTypes := #[]
  resolved := Array.replicate 124 none
  statics := none }

def pool1 : Array CpInfo := pool [(2, .class_ 4), (0, .nameAndType 5 6), (0, u "java/lang/Object"), (0, u "<init>"), (0, u "()V"), (0, .long 31), (1, .class_ 10), (0, u "com/example/framewire/framewire/bench/Tally"), (0, .methodref 9 3), (0, .methodref 13 14), (0, .class_ 15), (0, .nameAndType 16 17), (0, u "java/lang/String"), (0, u "valueOf"), (0, u "(C)Ljava/lang/String;"), (0, .methodref 9 19), (0, .nameAndType 20 21), (0, u "add"), (0, u "(I[BLjava/lang/String;Ljava/lang/String;)V"), (0, .methodref 23 24), (0, .class_ 25), (0, .nameAndType 26 27), (0, u "com/example/framewire/framewire/bench/TallyEqualsPinLaw"), (0, u "step"), (0, u "(JIII)J"), (0, .methodref 9 29), (0, .nameAndType 30 31), (0, u "equals"), (0, u "(Ljava/lang/Object;)Z"), (0, .methodref 33 34), (0, .class_ 35), (0, .nameAndType 16 36), (0, u "java/lang/Integer"), (0, u "(I)Ljava/lang/Integer;"), (2, u "law"), (0, u "(IIIIII)Z")] 3

def k1m0 : Method := { name := "<init>", desc := "()V", sig := { parameters := [], returnType := none }, accessFlags := 1, code := none }
def k1c1 : Code := { maxStack := 4, maxLocals := 7, code := method_2_code, exceptionTable := #[], attributes := #[] }
def k1m1 : Method := { name := "step", desc := "(JIII)J", sig := { parameters := [.long, .int, .int, .int], returnType := some .long }, accessFlags := 10, code := some k1c1 }
def k1c2 : Code := { maxStack := 5, maxLocals := 24, code := code, exceptionTable := #[], attributes := #[] }
def k1m2 : Method := { name := "law", desc := "(IIIIII)Z", sig := { parameters := [.int, .int, .int, .int, .int, .int], returnType := some .boolean }, accessFlags := 9, code := some k1c2 }
/-- com/example/framewire/framewire/bench/TallyEqualsPinLaw -/
def k1 : Class := { plain "com/example/framewire/framewire/bench/TallyEqualsPinLaw" (some 0) with
  accessFlags := 49
  interfaces := #[]
  cf := some (fileOf pool1 23 #[] #[{ accessFlags := 1, nameIndex := 5, descriptorIndex := 6, attributes := #[] }, { accessFlags := 10, nameIndex := 26, descriptorIndex := 27, attributes := #[] }, { accessFlags := 9, nameIndex := 39, descriptorIndex := 40, attributes := #[] }] 49 2 #[] #[])
  fields := #[]
  methods := #[k1m0, k1m1, k1m2]
  instanceTypes := #[]
  staticTypes := #[]
  resolved := Array.replicate 44 none
  statics := none }

def pool2 : Array CpInfo := pool [(1, .methodref 2 3), (0, .class_ 4), (0, .nameAndType 5 6), (0, u "java/lang/Object"), (0, u "<init>"), (0, u "()V"), (0, .long 31), (1, .fieldref 10 11), (0, .class_ 12), (0, .nameAndType 13 14), (0, u "com/example/framewire/framewire/bench/Tally"), (0, u "checksum"), (0, u "J"), (4, u "hashCode"), (1, .methodref 22 23), (0, .class_ 24), (0, .nameAndType 19 25), (0, u "java/lang/String"), (0, u "()I"), (0, .fieldref 10 27), (0, .nameAndType 28 14), (0, u "frames"), (20, u "add"), (0, u "(I[BLjava/lang/String;Ljava/lang/String;)V"), (2, u "equals"), (0, u "(Ljava/lang/Object;)Z")] 4

def k2c0 : Code := { maxStack := 1, maxLocals := 1, code := prog_34_method_1_code, exceptionTable := #[], attributes := #[] }
def k2m0 : Method := { name := "<init>", desc := "()V", sig := { parameters := [], returnType := none }, accessFlags := 0, code := some k2c0 }
def k2c1 : Code := { maxStack := 5, maxLocals := 7, code := prog_34_method_2_code, exceptionTable := #[], attributes := #[] }
def k2m1 : Method := { name := "add", desc := "(I[BLjava/lang/String;Ljava/lang/String;)V", sig := { parameters := [.int, (.array .byte), (.object "java/lang/String"), (.object "java/lang/String")], returnType := none }, accessFlags := 0, code := some k2c1 }
def k2c2 : Code := { maxStack := 4, maxLocals := 3, code := prog_34_method_4_code, exceptionTable := #[], attributes := #[] }
def k2m2 : Method := { name := "equals", desc := "(Ljava/lang/Object;)Z", sig := { parameters := [(.object "java/lang/Object")], returnType := some .boolean }, accessFlags := 1, code := some k2c2 }
/-- com/example/framewire/framewire/bench/Tally -/
def k2 : Class := { plain "com/example/framewire/framewire/bench/Tally" (some 0) with
  accessFlags := 48
  interfaces := #[]
  cf := some (fileOf pool2 10 #[] #[{ accessFlags := 0, nameIndex := 5, descriptorIndex := 6, attributes := #[] }, { accessFlags := 0, nameIndex := 49, descriptorIndex := 50, attributes := #[] }, { accessFlags := 1, nameIndex := 53, descriptorIndex := 54, attributes := #[] }] 48 2 #[] #[{ accessFlags := 2, nameIndex := 28, descriptorIndex := 14, attributes := #[] }, { accessFlags := 2, nameIndex := 13, descriptorIndex := 14, attributes := #[] }])
  fields := #[{ name := "frames", type := .long, accessFlags := 2, slot := 0, constantValue := 0 }, { name := "checksum", type := .long, accessFlags := 2, slot := 1, constantValue := 0 }]
  methods := #[k2m0, k2m1, k2m2]
  instanceTypes := #[.long, .long]
  staticTypes := #[]
  resolved := Array.replicate 59 none
  statics := none }

def pool3 : Array CpInfo := pool [(1, .class_ 2), (0, u "java/io/Serializable"), (0, .class_ 4), (0, u "java/lang/Object")] 2

/-- java/io/Serializable -/
def k3 : Class := { plain "java/io/Serializable" (some 0) with
  accessFlags := 1537
  interfaces := #[]
  cf := some (fileOf pool3 1 #[] #[] 1537 3 #[] #[])
  fields := #[]
  methods := #[]
  instanceTypes := #[]
  staticTypes := #[]
  resolved := Array.replicate 7 none
  statics := none }

def pool4 : Array CpInfo := pool [(1, .methodref 2 3), (0, .class_ 4), (0, .nameAndType 5 6), (0, u "java/lang/Object"), (0, u "<init>"), (0, u "()V"), (1, .class_ 10), (1, u "java/lang/Number"), (2, .class_ 14), (0, u "java/io/Serializable"), (0, u "serialVersionUID"), (0, u "J")] 20

def k4c0 : Code := { maxStack := 1, maxLocals := 1, code := jdk_18_method_1_code, exceptionTable := #[], attributes := #[] }
def k4m0 : Method := { name := "<init>", desc := "()V", sig := { parameters := [], returnType := none }, accessFlags := 1, code := some k4c0 }
/-- java/lang/Number -/
def k4 : Class := { plain "java/lang/Number" (some 0) with
  accessFlags := 1057
  interfaces := #[3]
  cf := some (fileOf pool4 8 #[] #[{ accessFlags := 1, nameIndex := 5, descriptorIndex := 6, attributes := #[] }] 1057 2 #[13] #[{ accessFlags := 26, nameIndex := 15, descriptorIndex := 16, attributes := #[] }])
  fields := #[{ name := "serialVersionUID", type := .long, accessFlags := 26, slot := 0, constantValue := 0 }]
  methods := #[k4m0]
  instanceTypes := #[]
  staticTypes := #[.long]
  resolved := Array.replicate 37 none
  statics := none }

def pool5 : Array CpInfo := pool [(1, .class_ 2), (0, u "java/lang/Comparable"), (0, .class_ 4), (0, u "java/lang/Object")] 7

/-- java/lang/Comparable -/
def k5 : Class := { plain "java/lang/Comparable" (some 0) with
  accessFlags := 1537
  interfaces := #[]
  cf := some (fileOf pool5 1 #[] #[] 1537 3 #[] #[])
  fields := #[]
  methods := #[]
  instanceTypes := #[]
  staticTypes := #[]
  resolved := Array.replicate 12 none
  statics := none }

def pool6 : Array CpInfo := pool [(1, .class_ 2), (0, u "java/lang/constant/Constable"), (0, .class_ 4), (0, u "java/lang/Object")] 6

/-- java/lang/constant/Constable -/
def k6 : Class := { plain "java/lang/constant/Constable" (some 0) with
  accessFlags := 1537
  interfaces := #[]
  cf := some (fileOf pool6 1 #[] #[] 1537 3 #[] #[])
  fields := #[]
  methods := #[]
  instanceTypes := #[]
  staticTypes := #[]
  resolved := Array.replicate 11 none
  statics := none }

def pool7 : Array CpInfo := pool [(1, .class_ 2), (0, u "java/lang/constant/ConstantDesc"), (0, .class_ 4), (0, u "java/lang/Object")] 32

/-- java/lang/constant/ConstantDesc -/
def k7 : Class := { plain "java/lang/constant/ConstantDesc" (some 0) with
  accessFlags := 1537
  interfaces := #[]
  cf := some (fileOf pool7 1 #[] #[] 1537 3 #[] #[])
  fields := #[]
  methods := #[]
  instanceTypes := #[]
  staticTypes := #[]
  resolved := Array.replicate 37 none
  statics := none }

def pool8 : Array CpInfo := pool [(1, .class_ 2), (0, u "java/lang/Integer"), (16, u "digits"), (0, u "[C"), (46, u "<init>"), (17, u "DigitOnes"), (0, u "[B"), (2, u "DigitTens"), (10, .nameAndType 67 101), (0, u "()V"), (85, u "valueOf"), (0, u "(I)Ljava/lang/Integer;"), (0, .class_ 190), (0, u "java/lang/Integer$IntegerCache"), (0, .fieldref 189 192), (0, .nameAndType 193 194), (0, u "high"), (0, u "I"), (0, .fieldref 189 196), (0, .nameAndType 197 198), (0, u "cache"), (0, u "[Ljava/lang/Integer;"), (0, .methodref 1 200), (0, .nameAndType 67 201), (0, u "(I)V"), (0, .methodref 203 100), (0, .class_ 204), (0, u "java/lang/Number"), (0, .fieldref 1 206), (0, .nameAndType 207 194), (0, u "value"), (94, u "TYPE"), (0, u "Ljava/lang/Class;"), (0, .class_ 305), (0, u "java/lang/Comparable"), (0, .class_ 307), (0, u "java/lang/constant/Constable"), (0, .class_ 309), (0, u "java/lang/constant/ConstantDesc"), (0, u "MIN_VALUE"), (1, u "MAX_VALUE"), (3, u "SIZE"), (1, u "BYTES"), (1, u "serialVersionUID"), (0, u "J")] 131

def k8c0 : Code := { maxStack := 3, maxLocals := 1, code := jdk_33_method_22_code, exceptionTable := #[], attributes := #[] }
def k8m0 : Method := { name := "valueOf", desc := "(I)Ljava/lang/Integer;", sig := { parameters := [.int], returnType := some (.object "java/lang/Integer") }, accessFlags := 9, code := some k8c0 }
def k8c1 : Code := { maxStack := 2, maxLocals := 2, code := jdk_33_method_23_code, exceptionTable := #[], attributes := #[] }
def k8m1 : Method := { name := "<init>", desc := "(I)V", sig := { parameters := [.int], returnType := none }, accessFlags := 1, code := some k8c1 }
/-- java/lang/Integer -/
def k8 : Class := { plain "java/lang/Integer" (some 4) with
  accessFlags := 49
  interfaces := #[5, 6, 7]
  cf := some (fileOf pool8 1 #[.nestMembers #[189]] #[{ accessFlags := 9, nameIndex := 187, descriptorIndex := 188, attributes := #[] }, { accessFlags := 1, nameIndex := 67, descriptorIndex := 201, attributes := #[] }] 49 203 #[304, 306, 308] #[{ accessFlags := 25, nameIndex := 310, descriptorIndex := 194, attributes := #[] }, { accessFlags := 25, nameIndex := 312, descriptorIndex := 194, attributes := #[] }, { accessFlags := 25, nameIndex := 302, descriptorIndex := 303, attributes := #[] }, { accessFlags := 24, nameIndex := 19, descriptorIndex := 20, attributes := #[] }, { accessFlags := 24, nameIndex := 89, descriptorIndex := 86, attributes := #[] }, { accessFlags := 24, nameIndex := 85, descriptorIndex := 86, attributes := #[] }, { accessFlags := 18, nameIndex := 207, descriptorIndex := 194, attributes := #[] }, { accessFlags := 25, nameIndex := 316, descriptorIndex := 194, attributes := #[] }, { accessFlags := 25, nameIndex := 318, descriptorIndex := 194, attributes := #[] }, { accessFlags := 26, nameIndex := 320, descriptorIndex := 321, attributes := #[] }])
  fields := #[{ name := "MIN_VALUE", type := .int, accessFlags := 25, slot := 0, constantValue := 0 }, { name := "MAX_VALUE", type := .int, accessFlags := 25, slot := 1, constantValue := 0 }, { name := "TYPE", type := (.object "java/lang/Class"), accessFlags := 25, slot := 2, constantValue := 0 }, { name := "digits", type := (.array .char), accessFlags := 24, slot := 3, constantValue := 0 }, { name := "DigitTens", type := (.array .byte), accessFlags := 24, slot := 4, constantValue := 0 }, { name := "DigitOnes", type := (.array .byte), accessFlags := 24, slot := 5, constantValue := 0 }, { name := "value", type := .int, accessFlags := 18, slot := 0, constantValue := 0 }, { name := "SIZE", type := .int, accessFlags := 25, slot := 6, constantValue := 0 }, { name := "BYTES", type := .int, accessFlags := 25, slot := 7, constantValue := 0 }, { name := "serialVersionUID", type := .long, accessFlags := 26, slot := 8, constantValue := 0 }]
  methods := #[k8m0, k8m1]
  instanceTypes := #[.int]
  staticTypes := #[.int, .int, (.object "java/lang/Class"), (.array .char), (.array .byte), (.array .byte), .int, .int, .long]
  resolved := Array.replicate 453 none
  statics := none }

def pool9 : Array CpInfo := pool [(2, .class_ 4), (1, u "java/lang/Object"), (0, u "<init>"), (0, u "()V"), (0, .class_ 8), (0, u "java/lang/Integer"), (7, .class_ 18), (1, u "java/lang/Integer$IntegerCache"), (0, u "$assertionsDisabled"), (0, u "Z"), (26, u "high"), (0, u "I"), (8, u "archivedCache"), (0, u "[Ljava/lang/Integer;"), (12, u "cache"), (0, u "low")] 27

def k9m0 : Method := { name := "<init>", desc := "()V", sig := { parameters := [], returnType := none }, accessFlags := 2, code := none }
/-- java/lang/Integer$IntegerCache -/
def k9 : Class := { plain "java/lang/Integer$IntegerCache" (some 0) with
  accessFlags := 48
  interfaces := #[]
  cf := some (fileOf pool9 16 #[.nestHost 7] #[{ accessFlags := 2, nameIndex := 5, descriptorIndex := 6, attributes := #[] }] 48 2 #[] #[{ accessFlags := 24, nameIndex := 72, descriptorIndex := 48, attributes := #[] }, { accessFlags := 24, nameIndex := 47, descriptorIndex := 48, attributes := #[] }, { accessFlags := 24, nameIndex := 71, descriptorIndex := 58, attributes := #[] }, { accessFlags := 8, nameIndex := 57, descriptorIndex := 58, attributes := #[] }, { accessFlags := 4120, nameIndex := 19, descriptorIndex := 20, attributes := #[] }])
  fields := #[{ name := "low", type := .int, accessFlags := 24, slot := 0, constantValue := 0 }, { name := "high", type := .int, accessFlags := 24, slot := 1, constantValue := 0 }, { name := "cache", type := (.array (.object "java/lang/Integer")), accessFlags := 24, slot := 2, constantValue := 0 }, { name := "archivedCache", type := (.array (.object "java/lang/Integer")), accessFlags := 8, slot := 3, constantValue := 0 }, { name := "$assertionsDisabled", type := .boolean, accessFlags := 4120, slot := 4, constantValue := 0 }]
  methods := #[k9m0]
  instanceTypes := #[]
  staticTypes := #[.int, .int, (.array (.object "java/lang/Integer")), (.array (.object "java/lang/Integer")), .boolean]
  resolved := Array.replicate 100 none
  statics := some 0 }

def pool10 : Array CpInfo := pool [(2, .class_ 4), (1, u "java/lang/CharSequence"), (42, .class_ 48), (0, u "java/lang/CharSequence$1CodePointIterator"), (10, .class_ 60), (0, u "java/lang/CharSequence$1CharIterator"), (5, .class_ 67), (0, u "java/lang/Object")] 63

/-- java/lang/CharSequence -/
def k10 : Class := { plain "java/lang/CharSequence" (some 0) with
  accessFlags := 1537
  interfaces := #[]
  cf := some (fileOf pool10 2 #[.nestMembers #[47, 59]] #[] 1537 66 #[] #[])
  fields := #[]
  methods := #[]
  instanceTypes := #[]
  staticTypes := #[]
  resolved := Array.replicate 131 none
  statics := none }

def pool11 : Array CpInfo := pool [(1, .methodref 2 3), (0, .class_ 4), (0, .nameAndType 5 6), (0, u "java/lang/Object"), (0, u "<init>"), (0, u "()V"), (2, .fieldref 10 11), (0, .class_ 12), (0, .nameAndType 13 14), (0, u "java/lang/String"), (0, u "value"), (0, u "[B"), (0, .fieldref 10 16), (0, .nameAndType 17 18), (0, u "coder"), (0, u "B"), (0, .fieldref 10 20), (0, .nameAndType 21 22), (0, u "hash"), (0, u "I"), (0, .fieldref 10 24), (0, .nameAndType 25 26), (0, u "hashIsZero"), (0, u "Z"), (11, .fieldref 10 39), (0, .nameAndType 40 26), (0, u "COMPACT_STRINGS"), (12, u "toBytes"), (53, .class_ 109), (1, u "java/lang/StringLatin1"), (32, u "()Z"), (66, .methodref 10 210), (0, .nameAndType 5 211), (0, u "([BB)V"), (122, u "()I"), (34, u "(C)Z"), (122, .methodref 10 493), (0, .nameAndType 494 142), (0, u "isLatin1"), (80, .class_ 576), (0, u "java/lang/CharSequence"), (22, u "CASE_INSENSITIVE_ORDER"), (0, u "Ljava/util/Comparator;"), (27, .methodref 107 629), (0, .nameAndType 630 631), (0, u "hashCode"), (0, u "([B)I"), (150, u "valueOf"), (0, u "(C)Ljava/lang/String;"), (231, .methodref 107 1016), (0, .nameAndType 1017 369), (0, u "canEncode"), (0, .methodref 107 1019), (0, .nameAndType 53 1020), (0, u "(C)[B"), (80, u "serialPersistentFields"), (0, u "[Ljava/io/ObjectStreamField;"), (0, .class_ 1104), (0, u "java/lang/String$CaseInsensitiveComparator"), (1, .class_ 1107), (0, u "java/io/Serializable"), (0, .class_ 1109), (0, u "java/lang/Comparable"), (0, .class_ 1111), (0, u "java/lang/constant/Constable"), (0, .class_ 1113), (0, u "java/lang/constant/ConstantDesc"), (2, u "serialVersionUID"), (0, u "J"), (3, u "REPL"), (0, u "C"), (2, u "LATIN1"), (1, u "UTF16")] 323

def k11m0 : Method := { name := "<init>", desc := "()V", sig := { parameters := [], returnType := none }, accessFlags := 1, code := none }
def k11c1 : Code := { maxStack := 2, maxLocals := 2, code := jdk_42_method_78_code, exceptionTable := #[], attributes := #[] }
def k11m1 : Method := { name := "hashCode", desc := "()I", sig := { parameters := [], returnType := some .int }, accessFlags := 1, code := some k11c1 }
def k11c2 : Code := { maxStack := 4, maxLocals := 1, code := jdk_42_method_139_code, exceptionTable := #[], attributes := #[] }
def k11m2 : Method := { name := "valueOf", desc := "(C)Ljava/lang/String;", sig := { parameters := [.char], returnType := some (.object "java/lang/String") }, accessFlags := 9, code := some k11c2 }
def k11c3 : Code := { maxStack := 2, maxLocals := 3, code := jdk_42_method_151_code, exceptionTable := #[], attributes := #[] }
def k11m3 : Method := { name := "<init>", desc := "([BB)V", sig := { parameters := [(.array .byte), .byte], returnType := none }, accessFlags := 0, code := some k11c3 }
def k11c4 : Code := { maxStack := 1, maxLocals := 1, code := jdk_42_method_154_code, exceptionTable := #[], attributes := #[] }
def k11m4 : Method := { name := "isLatin1", desc := "()Z", sig := { parameters := [], returnType := some .boolean }, accessFlags := 0, code := some k11c4 }
/-- java/lang/String -/
def k11 : Class := { plain "java/lang/String" (some 0) with
  accessFlags := 49
  interfaces := #[3, 5, 10, 6, 7]
  cf := some (fileOf pool11 10 #[.nestMembers #[1103]] #[{ accessFlags := 1, nameIndex := 5, descriptorIndex := 6, attributes := #[] }, { accessFlags := 1, nameIndex := 630, descriptorIndex := 334, attributes := #[] }, { accessFlags := 9, nameIndex := 782, descriptorIndex := 783, attributes := #[] }, { accessFlags := 0, nameIndex := 5, descriptorIndex := 211, attributes := #[] }, { accessFlags := 0, nameIndex := 494, descriptorIndex := 142, attributes := #[] }] 49 2 #[1106, 1108, 575, 1110, 1112] #[{ accessFlags := 18, nameIndex := 13, descriptorIndex := 14, attributes := #[] }, { accessFlags := 18, nameIndex := 17, descriptorIndex := 18, attributes := #[] }, { accessFlags := 2, nameIndex := 21, descriptorIndex := 22, attributes := #[] }, { accessFlags := 2, nameIndex := 25, descriptorIndex := 26, attributes := #[] }, { accessFlags := 26, nameIndex := 1116, descriptorIndex := 1117, attributes := #[] }, { accessFlags := 24, nameIndex := 40, descriptorIndex := 26, attributes := #[] }, { accessFlags := 26, nameIndex := 1101, descriptorIndex := 1102, attributes := #[] }, { accessFlags := 26, nameIndex := 1121, descriptorIndex := 1122, attributes := #[] }, { accessFlags := 25, nameIndex := 599, descriptorIndex := 600, attributes := #[] }, { accessFlags := 24, nameIndex := 1125, descriptorIndex := 18, attributes := #[] }, { accessFlags := 24, nameIndex := 1127, descriptorIndex := 18, attributes := #[] }])
  fields := #[{ name := "value", type := (.array .byte), accessFlags := 18, slot := 0, constantValue := 0 }, { name := "coder", type := .byte, accessFlags := 18, slot := 1, constantValue := 0 }, { name := "hash", type := .int, accessFlags := 2, slot := 2, constantValue := 0 }, { name := "hashIsZero", type := .boolean, accessFlags := 2, slot := 3, constantValue := 0 }, { name := "serialVersionUID", type := .long, accessFlags := 26, slot := 0, constantValue := 0 }, { name := "COMPACT_STRINGS", type := .boolean, accessFlags := 24, slot := 1, constantValue := 0 }, { name := "serialPersistentFields", type := (.array (.object "java/io/ObjectStreamField")), accessFlags := 26, slot := 2, constantValue := 0 }, { name := "REPL", type := .char, accessFlags := 26, slot := 3, constantValue := 0 }, { name := "CASE_INSENSITIVE_ORDER", type := (.object "java/util/Comparator"), accessFlags := 25, slot := 4, constantValue := 0 }, { name := "LATIN1", type := .byte, accessFlags := 24, slot := 5, constantValue := 0 }, { name := "UTF16", type := .byte, accessFlags := 24, slot := 6, constantValue := 0 }]
  methods := #[k11m0, k11m1, k11m2, k11m3, k11m4]
  instanceTypes := #[(.array .byte), .byte, .int, .boolean]
  staticTypes := #[.long, .boolean, (.array (.object "java/io/ObjectStreamField")), .char, (.object "java/util/Comparator"), .byte, .byte]
  resolved := Array.replicate 1451 none
  statics := some 1 }

def pool12 : Array CpInfo := pool [(4, .class_ 6), (1, u "java/lang/Object"), (0, u "<init>"), (0, u "()V"), (5, .class_ 16), (1, u "java/lang/StringLatin1"), (40, u "([B)I"), (32, u "canEncode"), (14, u "(C)Z"), (15, u "$assertionsDisabled"), (0, u "Z"), (98, .class_ 223), (1, u "java/lang/StringLatin1$LinesSpliterator"), (74, u "hashCode"), (81, u "toBytes"), (1, u "(C)[B"), (7, .class_ 391), (0, u "java/lang/StringLatin1$CharsSpliterator")] 3

def k12m0 : Method := { name := "<init>", desc := "()V", sig := { parameters := [], returnType := none }, accessFlags := 0, code := none }
def k12c1 : Code := { maxStack := 2, maxLocals := 1, code := jdk_43_method_3_code, exceptionTable := #[], attributes := #[] }
def k12m1 : Method := { name := "canEncode", desc := "(C)Z", sig := { parameters := [.char], returnType := some .boolean }, accessFlags := 9, code := some k12c1 }
def k12c2 : Code := { maxStack := 5, maxLocals := 1, code := jdk_43_method_21_code, exceptionTable := #[], attributes := #[] }
def k12m2 : Method := { name := "hashCode", desc := "([B)I", sig := { parameters := [(.array .byte)], returnType := some .int }, accessFlags := 9, code := some k12c2 }
def k12c3 : Code := { maxStack := 4, maxLocals := 1, code := jdk_43_method_46_code, exceptionTable := #[], attributes := #[] }
def k12m3 : Method := { name := "toBytes", desc := "(C)[B", sig := { parameters := [.char], returnType := some (.array .byte) }, accessFlags := 9, code := some k12c3 }
/-- java/lang/StringLatin1 -/
def k12 : Class := { plain "java/lang/StringLatin1" (some 0) with
  accessFlags := 48
  interfaces := #[]
  cf := some (fileOf pool12 14 #[.nestMembers #[390, 221]] #[{ accessFlags := 0, nameIndex := 7, descriptorIndex := 8, attributes := #[] }, { accessFlags := 9, nameIndex := 90, descriptorIndex := 105, attributes := #[] }, { accessFlags := 9, nameIndex := 298, descriptorIndex := 57, attributes := #[] }, { accessFlags := 9, nameIndex := 380, descriptorIndex := 382, attributes := #[] }] 48 4 #[] #[{ accessFlags := 4120, nameIndex := 121, descriptorIndex := 122, attributes := #[] }])
  fields := #[{ name := "$assertionsDisabled", type := .boolean, accessFlags := 4120, slot := 0, constantValue := 0 }]
  methods := #[k12m0, k12m1, k12m2, k12m3]
  instanceTypes := #[]
  staticTypes := #[.boolean]
  resolved := Array.replicate 395 none
  statics := none }

def pool13 : Array CpInfo := pool [(2, .class_ 4), (1, u "java/lang/Object"), (0, u "<init>"), (0, u "()V"), (17, .class_ 26), (1, u "jdk/internal/util/Preconditions"), (28, .class_ 56), (0, u "jdk/internal/util/Preconditions$4"), (57, .class_ 115), (0, u "jdk/internal/util/Preconditions$1"), (7, u "SIOOBE_FORMATTER"), (0, u "Ljava/util/function/BiFunction;"), (0, .class_ 126), (0, u "jdk/internal/util/Preconditions$2"), (3, u "AIOOBE_FORMATTER"), (0, .class_ 132), (0, u "jdk/internal/util/Preconditions$3"), (3, u "IOOBE_FORMATTER")] 57

def k13m0 : Method := { name := "<init>", desc := "()V", sig := { parameters := [], returnType := none }, accessFlags := 1, code := none }
/-- jdk/internal/util/Preconditions -/
def k13 : Class := { plain "jdk/internal/util/Preconditions" (some 0) with
  accessFlags := 33
  interfaces := #[]
  cf := some (fileOf pool13 24 #[.nestMembers #[55, 131, 125, 114]] #[{ accessFlags := 1, nameIndex := 5, descriptorIndex := 6, attributes := #[] }] 33 2 #[] #[{ accessFlags := 25, nameIndex := 123, descriptorIndex := 124, attributes := #[] }, { accessFlags := 25, nameIndex := 130, descriptorIndex := 124, attributes := #[] }, { accessFlags := 25, nameIndex := 136, descriptorIndex := 124, attributes := #[] }])
  fields := #[{ name := "SIOOBE_FORMATTER", type := (.object "java/util/function/BiFunction"), accessFlags := 25, slot := 0, constantValue := 0 }, { name := "AIOOBE_FORMATTER", type := (.object "java/util/function/BiFunction"), accessFlags := 25, slot := 1, constantValue := 0 }, { name := "IOOBE_FORMATTER", type := (.object "java/util/function/BiFunction"), accessFlags := 25, slot := 2, constantValue := 0 }]
  methods := #[k13m0]
  instanceTypes := #[]
  staticTypes := #[(.object "java/util/function/BiFunction"), (.object "java/util/function/BiFunction"), (.object "java/util/function/BiFunction")]
  resolved := Array.replicate 194 none
  statics := some 2 }

def pool14 : Array CpInfo := pool [(9, u "<init>"), (6, .class_ 18), (1, u "java/lang/Object"), (0, u "()V"), (1, .class_ 23), (1, u "jdk/internal/util/ArraysSupport"), (0, u "LOG2_ARRAY_LONG_INDEX_SCALE"), (0, u "I"), (2, u "U"), (0, u "Ljdk/internal/misc/Unsafe;"), (8, u "BIG_ENDIAN"), (0, u "Z"), (8, u "LOG2_BYTE_BIT_SIZE"), (4, u "LOG2_ARRAY_INT_INDEX_SCALE"), (54, u "JLA"), (0, u "Ljdk/internal/access/JavaLangAccess;"), (11, u "LOG2_ARRAY_BOOLEAN_INDEX_SCALE"), (9, u "LOG2_ARRAY_BYTE_INDEX_SCALE"), (5, u "LOG2_ARRAY_CHAR_INDEX_SCALE"), (5, u "LOG2_ARRAY_SHORT_INDEX_SCALE"), (18, u "LOG2_ARRAY_FLOAT_INDEX_SCALE"), (24, u "LOG2_ARRAY_DOUBLE_INDEX_SCALE"), (89, u "T_BOOLEAN"), (2, u "T_CHAR"), (1, u "T_FLOAT"), (1, u "T_DOUBLE"), (1, u "T_BYTE"), (1, u "T_SHORT"), (1, u "T_INT"), (1, u "T_LONG"), (1, u "SOFT_MAX_ARRAY_LENGTH")] 83

def k14m0 : Method := { name := "<init>", desc := "()V", sig := { parameters := [], returnType := none }, accessFlags := 2, code := none }
/-- jdk/internal/util/ArraysSupport -/
def k14 : Class := { plain "jdk/internal/util/ArraysSupport" (some 0) with
  accessFlags := 33
  interfaces := #[]
  cf := some (fileOf pool14 21 #[] #[{ accessFlags := 2, nameIndex := 9, descriptorIndex := 19, attributes := #[] }] 33 16 #[] #[{ accessFlags := 24, nameIndex := 28, descriptorIndex := 29, attributes := #[] }, { accessFlags := 26, nameIndex := 38, descriptorIndex := 39, attributes := #[] }, { accessFlags := 25, nameIndex := 121, descriptorIndex := 25, attributes := #[] }, { accessFlags := 25, nameIndex := 131, descriptorIndex := 25, attributes := #[] }, { accessFlags := 25, nameIndex := 137, descriptorIndex := 25, attributes := #[] }, { accessFlags := 25, nameIndex := 143, descriptorIndex := 25, attributes := #[] }, { accessFlags := 25, nameIndex := 53, descriptorIndex := 25, attributes := #[] }, { accessFlags := 25, nameIndex := 24, descriptorIndex := 25, attributes := #[] }, { accessFlags := 25, nameIndex := 162, descriptorIndex := 25, attributes := #[] }, { accessFlags := 25, nameIndex := 187, descriptorIndex := 25, attributes := #[] }, { accessFlags := 26, nameIndex := 48, descriptorIndex := 25, attributes := #[] }, { accessFlags := 25, nameIndex := 277, descriptorIndex := 25, attributes := #[] }, { accessFlags := 25, nameIndex := 280, descriptorIndex := 25, attributes := #[] }, { accessFlags := 25, nameIndex := 282, descriptorIndex := 25, attributes := #[] }, { accessFlags := 25, nameIndex := 284, descriptorIndex := 25, attributes := #[] }, { accessFlags := 25, nameIndex := 286, descriptorIndex := 25, attributes := #[] }, { accessFlags := 25, nameIndex := 288, descriptorIndex := 25, attributes := #[] }, { accessFlags := 25, nameIndex := 290, descriptorIndex := 25, attributes := #[] }, { accessFlags := 25, nameIndex := 292, descriptorIndex := 25, attributes := #[] }, { accessFlags := 26, nameIndex := 108, descriptorIndex := 109, attributes := #[] }, { accessFlags := 25, nameIndex := 294, descriptorIndex := 25, attributes := #[] }])
  fields := #[{ name := "U", type := (.object "jdk/internal/misc/Unsafe"), accessFlags := 24, slot := 0, constantValue := 0 }, { name := "BIG_ENDIAN", type := .boolean, accessFlags := 26, slot := 1, constantValue := 0 }, { name := "LOG2_ARRAY_BOOLEAN_INDEX_SCALE", type := .int, accessFlags := 25, slot := 2, constantValue := 0 }, { name := "LOG2_ARRAY_BYTE_INDEX_SCALE", type := .int, accessFlags := 25, slot := 3, constantValue := 0 }, { name := "LOG2_ARRAY_CHAR_INDEX_SCALE", type := .int, accessFlags := 25, slot := 4, constantValue := 0 }, { name := "LOG2_ARRAY_SHORT_INDEX_SCALE", type := .int, accessFlags := 25, slot := 5, constantValue := 0 }, { name := "LOG2_ARRAY_INT_INDEX_SCALE", type := .int, accessFlags := 25, slot := 6, constantValue := 0 }, { name := "LOG2_ARRAY_LONG_INDEX_SCALE", type := .int, accessFlags := 25, slot := 7, constantValue := 0 }, { name := "LOG2_ARRAY_FLOAT_INDEX_SCALE", type := .int, accessFlags := 25, slot := 8, constantValue := 0 }, { name := "LOG2_ARRAY_DOUBLE_INDEX_SCALE", type := .int, accessFlags := 25, slot := 9, constantValue := 0 }, { name := "LOG2_BYTE_BIT_SIZE", type := .int, accessFlags := 26, slot := 10, constantValue := 0 }, { name := "T_BOOLEAN", type := .int, accessFlags := 25, slot := 11, constantValue := 0 }, { name := "T_CHAR", type := .int, accessFlags := 25, slot := 12, constantValue := 0 }, { name := "T_FLOAT", type := .int, accessFlags := 25, slot := 13, constantValue := 0 }, { name := "T_DOUBLE", type := .int, accessFlags := 25, slot := 14, constantValue := 0 }, { name := "T_BYTE", type := .int, accessFlags := 25, slot := 15, constantValue := 0 }, { name := "T_SHORT", type := .int, accessFlags := 25, slot := 16, constantValue := 0 }, { name := "T_INT", type := .int, accessFlags := 25, slot := 17, constantValue := 0 }, { name := "T_LONG", type := .int, accessFlags := 25, slot := 18, constantValue := 0 }, { name := "JLA", type := (.object "jdk/internal/access/JavaLangAccess"), accessFlags := 26, slot := 19, constantValue := 0 }, { name := "SOFT_MAX_ARRAY_LENGTH", type := .int, accessFlags := 25, slot := 20, constantValue := 0 }]
  methods := #[k14m0]
  instanceTypes := #[]
  staticTypes := #[(.object "jdk/internal/misc/Unsafe"), .boolean, .int, .int, .int, .int, .int, .int, .int, .int, .int, .int, .int, .int, .int, .int, .int, .int, .int, (.object "jdk/internal/access/JavaLangAccess"), .int]
  resolved := Array.replicate 378 none
  statics := none }

def pool15 : Array CpInfo := pool [(1, u "java/lang/Cloneable"), (0, .class_ 1), (0, u "java/lang/Object"), (0, .class_ 3)] 3

/-- java/lang/Cloneable -/
def k15 : Class := { plain "java/lang/Cloneable" (some 0) with
  accessFlags := 1537
  interfaces := #[]
  cf := some (fileOf pool15 2 #[] #[] 1537 4 #[] #[])
  fields := #[]
  methods := #[]
  instanceTypes := #[]
  staticTypes := #[]
  resolved := Array.replicate 8 none
  statics := none }

/-- the primitive byte -/
def k16 : Class := { plain "byte" none with kind := .primitive 'B', accessFlags := 0x411 }
/-- [B -/
def k17 : Class := { plain "[B" (some 0) with kind := .array 16 .byte, interfaces := #[15, 3], accessFlags := 1041 }

/-- the primitive int -/
def k18 : Class := { plain "int" none with kind := .primitive 'I', accessFlags := 0x411 }
/-- [I -/
def k19 : Class := { plain "[I" (some 0) with kind := .array 18 .int, interfaces := #[15, 3], accessFlags := 1041 }

/-- [Ljava/lang/Integer; -/
def k20 : Class := { plain "[Ljava/lang/Integer;" (some 0) with kind := .array 8 (.object "java/lang/Integer"), interfaces := #[15, 3], accessFlags := 1041 }

def heap : Heap := #[{ cls := 9, slots := #[.int 0, .int 127, .ref 259, .null, .int 0], vm := .statics 9 },
  { cls := 11, slots := #[.long 0, .int 1, .null, .int 0, .null, .int 0, .int 0], vm := .statics 11 },
  { cls := 13, slots := #[.null, .null, .null], vm := .statics 13 },
  { cls := 8, slots := #[.int (-128)], vm := .none },
  { cls := 8, slots := #[.int (-127)], vm := .none },
  { cls := 8, slots := #[.int (-126)], vm := .none },
  { cls := 8, slots := #[.int (-125)], vm := .none },
  { cls := 8, slots := #[.int (-124)], vm := .none },
  { cls := 8, slots := #[.int (-123)], vm := .none },
  { cls := 8, slots := #[.int (-122)], vm := .none },
  { cls := 8, slots := #[.int (-121)], vm := .none },
  { cls := 8, slots := #[.int (-120)], vm := .none },
  { cls := 8, slots := #[.int (-119)], vm := .none },
  { cls := 8, slots := #[.int (-118)], vm := .none },
  { cls := 8, slots := #[.int (-117)], vm := .none },
  { cls := 8, slots := #[.int (-116)], vm := .none },
  { cls := 8, slots := #[.int (-115)], vm := .none },
  { cls := 8, slots := #[.int (-114)], vm := .none },
  { cls := 8, slots := #[.int (-113)], vm := .none },
  { cls := 8, slots := #[.int (-112)], vm := .none },
  { cls := 8, slots := #[.int (-111)], vm := .none },
  { cls := 8, slots := #[.int (-110)], vm := .none },
  { cls := 8, slots := #[.int (-109)], vm := .none },
  { cls := 8, slots := #[.int (-108)], vm := .none },
  { cls := 8, slots := #[.int (-107)], vm := .none },
  { cls := 8, slots := #[.int (-106)], vm := .none },
  { cls := 8, slots := #[.int (-105)], vm := .none },
  { cls := 8, slots := #[.int (-104)], vm := .none },
  { cls := 8, slots := #[.int (-103)], vm := .none },
  { cls := 8, slots := #[.int (-102)], vm := .none },
  { cls := 8, slots := #[.int (-101)], vm := .none },
  { cls := 8, slots := #[.int (-100)], vm := .none },
  { cls := 8, slots := #[.int (-99)], vm := .none },
  { cls := 8, slots := #[.int (-98)], vm := .none },
  { cls := 8, slots := #[.int (-97)], vm := .none },
  { cls := 8, slots := #[.int (-96)], vm := .none },
  { cls := 8, slots := #[.int (-95)], vm := .none },
  { cls := 8, slots := #[.int (-94)], vm := .none },
  { cls := 8, slots := #[.int (-93)], vm := .none },
  { cls := 8, slots := #[.int (-92)], vm := .none },
  { cls := 8, slots := #[.int (-91)], vm := .none },
  { cls := 8, slots := #[.int (-90)], vm := .none },
  { cls := 8, slots := #[.int (-89)], vm := .none },
  { cls := 8, slots := #[.int (-88)], vm := .none },
  { cls := 8, slots := #[.int (-87)], vm := .none },
  { cls := 8, slots := #[.int (-86)], vm := .none },
  { cls := 8, slots := #[.int (-85)], vm := .none },
  { cls := 8, slots := #[.int (-84)], vm := .none },
  { cls := 8, slots := #[.int (-83)], vm := .none },
  { cls := 8, slots := #[.int (-82)], vm := .none },
  { cls := 8, slots := #[.int (-81)], vm := .none },
  { cls := 8, slots := #[.int (-80)], vm := .none },
  { cls := 8, slots := #[.int (-79)], vm := .none },
  { cls := 8, slots := #[.int (-78)], vm := .none },
  { cls := 8, slots := #[.int (-77)], vm := .none },
  { cls := 8, slots := #[.int (-76)], vm := .none },
  { cls := 8, slots := #[.int (-75)], vm := .none },
  { cls := 8, slots := #[.int (-74)], vm := .none },
  { cls := 8, slots := #[.int (-73)], vm := .none },
  { cls := 8, slots := #[.int (-72)], vm := .none },
  { cls := 8, slots := #[.int (-71)], vm := .none },
  { cls := 8, slots := #[.int (-70)], vm := .none },
  { cls := 8, slots := #[.int (-69)], vm := .none },
  { cls := 8, slots := #[.int (-68)], vm := .none },
  { cls := 8, slots := #[.int (-67)], vm := .none },
  { cls := 8, slots := #[.int (-66)], vm := .none },
  { cls := 8, slots := #[.int (-65)], vm := .none },
  { cls := 8, slots := #[.int (-64)], vm := .none },
  { cls := 8, slots := #[.int (-63)], vm := .none },
  { cls := 8, slots := #[.int (-62)], vm := .none },
  { cls := 8, slots := #[.int (-61)], vm := .none },
  { cls := 8, slots := #[.int (-60)], vm := .none },
  { cls := 8, slots := #[.int (-59)], vm := .none },
  { cls := 8, slots := #[.int (-58)], vm := .none },
  { cls := 8, slots := #[.int (-57)], vm := .none },
  { cls := 8, slots := #[.int (-56)], vm := .none },
  { cls := 8, slots := #[.int (-55)], vm := .none },
  { cls := 8, slots := #[.int (-54)], vm := .none },
  { cls := 8, slots := #[.int (-53)], vm := .none },
  { cls := 8, slots := #[.int (-52)], vm := .none },
  { cls := 8, slots := #[.int (-51)], vm := .none },
  { cls := 8, slots := #[.int (-50)], vm := .none },
  { cls := 8, slots := #[.int (-49)], vm := .none },
  { cls := 8, slots := #[.int (-48)], vm := .none },
  { cls := 8, slots := #[.int (-47)], vm := .none },
  { cls := 8, slots := #[.int (-46)], vm := .none },
  { cls := 8, slots := #[.int (-45)], vm := .none },
  { cls := 8, slots := #[.int (-44)], vm := .none },
  { cls := 8, slots := #[.int (-43)], vm := .none },
  { cls := 8, slots := #[.int (-42)], vm := .none },
  { cls := 8, slots := #[.int (-41)], vm := .none },
  { cls := 8, slots := #[.int (-40)], vm := .none },
  { cls := 8, slots := #[.int (-39)], vm := .none },
  { cls := 8, slots := #[.int (-38)], vm := .none },
  { cls := 8, slots := #[.int (-37)], vm := .none },
  { cls := 8, slots := #[.int (-36)], vm := .none },
  { cls := 8, slots := #[.int (-35)], vm := .none },
  { cls := 8, slots := #[.int (-34)], vm := .none },
  { cls := 8, slots := #[.int (-33)], vm := .none },
  { cls := 8, slots := #[.int (-32)], vm := .none },
  { cls := 8, slots := #[.int (-31)], vm := .none },
  { cls := 8, slots := #[.int (-30)], vm := .none },
  { cls := 8, slots := #[.int (-29)], vm := .none },
  { cls := 8, slots := #[.int (-28)], vm := .none },
  { cls := 8, slots := #[.int (-27)], vm := .none },
  { cls := 8, slots := #[.int (-26)], vm := .none },
  { cls := 8, slots := #[.int (-25)], vm := .none },
  { cls := 8, slots := #[.int (-24)], vm := .none },
  { cls := 8, slots := #[.int (-23)], vm := .none },
  { cls := 8, slots := #[.int (-22)], vm := .none },
  { cls := 8, slots := #[.int (-21)], vm := .none },
  { cls := 8, slots := #[.int (-20)], vm := .none },
  { cls := 8, slots := #[.int (-19)], vm := .none },
  { cls := 8, slots := #[.int (-18)], vm := .none },
  { cls := 8, slots := #[.int (-17)], vm := .none },
  { cls := 8, slots := #[.int (-16)], vm := .none },
  { cls := 8, slots := #[.int (-15)], vm := .none },
  { cls := 8, slots := #[.int (-14)], vm := .none },
  { cls := 8, slots := #[.int (-13)], vm := .none },
  { cls := 8, slots := #[.int (-12)], vm := .none },
  { cls := 8, slots := #[.int (-11)], vm := .none },
  { cls := 8, slots := #[.int (-10)], vm := .none },
  { cls := 8, slots := #[.int (-9)], vm := .none },
  { cls := 8, slots := #[.int (-8)], vm := .none },
  { cls := 8, slots := #[.int (-7)], vm := .none },
  { cls := 8, slots := #[.int (-6)], vm := .none },
  { cls := 8, slots := #[.int (-5)], vm := .none },
  { cls := 8, slots := #[.int (-4)], vm := .none },
  { cls := 8, slots := #[.int (-3)], vm := .none },
  { cls := 8, slots := #[.int (-2)], vm := .none },
  { cls := 8, slots := #[.int (-1)], vm := .none },
  { cls := 8, slots := #[.int 0], vm := .none },
  { cls := 8, slots := #[.int 1], vm := .none },
  { cls := 8, slots := #[.int 2], vm := .none },
  { cls := 8, slots := #[.int 3], vm := .none },
  { cls := 8, slots := #[.int 4], vm := .none },
  { cls := 8, slots := #[.int 5], vm := .none },
  { cls := 8, slots := #[.int 6], vm := .none },
  { cls := 8, slots := #[.int 7], vm := .none },
  { cls := 8, slots := #[.int 8], vm := .none },
  { cls := 8, slots := #[.int 9], vm := .none },
  { cls := 8, slots := #[.int 10], vm := .none },
  { cls := 8, slots := #[.int 11], vm := .none },
  { cls := 8, slots := #[.int 12], vm := .none },
  { cls := 8, slots := #[.int 13], vm := .none },
  { cls := 8, slots := #[.int 14], vm := .none },
  { cls := 8, slots := #[.int 15], vm := .none },
  { cls := 8, slots := #[.int 16], vm := .none },
  { cls := 8, slots := #[.int 17], vm := .none },
  { cls := 8, slots := #[.int 18], vm := .none },
  { cls := 8, slots := #[.int 19], vm := .none },
  { cls := 8, slots := #[.int 20], vm := .none },
  { cls := 8, slots := #[.int 21], vm := .none },
  { cls := 8, slots := #[.int 22], vm := .none },
  { cls := 8, slots := #[.int 23], vm := .none },
  { cls := 8, slots := #[.int 24], vm := .none },
  { cls := 8, slots := #[.int 25], vm := .none },
  { cls := 8, slots := #[.int 26], vm := .none },
  { cls := 8, slots := #[.int 27], vm := .none },
  { cls := 8, slots := #[.int 28], vm := .none },
  { cls := 8, slots := #[.int 29], vm := .none },
  { cls := 8, slots := #[.int 30], vm := .none },
  { cls := 8, slots := #[.int 31], vm := .none },
  { cls := 8, slots := #[.int 32], vm := .none },
  { cls := 8, slots := #[.int 33], vm := .none },
  { cls := 8, slots := #[.int 34], vm := .none },
  { cls := 8, slots := #[.int 35], vm := .none },
  { cls := 8, slots := #[.int 36], vm := .none },
  { cls := 8, slots := #[.int 37], vm := .none },
  { cls := 8, slots := #[.int 38], vm := .none },
  { cls := 8, slots := #[.int 39], vm := .none },
  { cls := 8, slots := #[.int 40], vm := .none },
  { cls := 8, slots := #[.int 41], vm := .none },
  { cls := 8, slots := #[.int 42], vm := .none },
  { cls := 8, slots := #[.int 43], vm := .none },
  { cls := 8, slots := #[.int 44], vm := .none },
  { cls := 8, slots := #[.int 45], vm := .none },
  { cls := 8, slots := #[.int 46], vm := .none },
  { cls := 8, slots := #[.int 47], vm := .none },
  { cls := 8, slots := #[.int 48], vm := .none },
  { cls := 8, slots := #[.int 49], vm := .none },
  { cls := 8, slots := #[.int 50], vm := .none },
  { cls := 8, slots := #[.int 51], vm := .none },
  { cls := 8, slots := #[.int 52], vm := .none },
  { cls := 8, slots := #[.int 53], vm := .none },
  { cls := 8, slots := #[.int 54], vm := .none },
  { cls := 8, slots := #[.int 55], vm := .none },
  { cls := 8, slots := #[.int 56], vm := .none },
  { cls := 8, slots := #[.int 57], vm := .none },
  { cls := 8, slots := #[.int 58], vm := .none },
  { cls := 8, slots := #[.int 59], vm := .none },
  { cls := 8, slots := #[.int 60], vm := .none },
  { cls := 8, slots := #[.int 61], vm := .none },
  { cls := 8, slots := #[.int 62], vm := .none },
  { cls := 8, slots := #[.int 63], vm := .none },
  { cls := 8, slots := #[.int 64], vm := .none },
  { cls := 8, slots := #[.int 65], vm := .none },
  { cls := 8, slots := #[.int 66], vm := .none },
  { cls := 8, slots := #[.int 67], vm := .none },
  { cls := 8, slots := #[.int 68], vm := .none },
  { cls := 8, slots := #[.int 69], vm := .none },
  { cls := 8, slots := #[.int 70], vm := .none },
  { cls := 8, slots := #[.int 71], vm := .none },
  { cls := 8, slots := #[.int 72], vm := .none },
  { cls := 8, slots := #[.int 73], vm := .none },
  { cls := 8, slots := #[.int 74], vm := .none },
  { cls := 8, slots := #[.int 75], vm := .none },
  { cls := 8, slots := #[.int 76], vm := .none },
  { cls := 8, slots := #[.int 77], vm := .none },
  { cls := 8, slots := #[.int 78], vm := .none },
  { cls := 8, slots := #[.int 79], vm := .none },
  { cls := 8, slots := #[.int 80], vm := .none },
  { cls := 8, slots := #[.int 81], vm := .none },
  { cls := 8, slots := #[.int 82], vm := .none },
  { cls := 8, slots := #[.int 83], vm := .none },
  { cls := 8, slots := #[.int 84], vm := .none },
  { cls := 8, slots := #[.int 85], vm := .none },
  { cls := 8, slots := #[.int 86], vm := .none },
  { cls := 8, slots := #[.int 87], vm := .none },
  { cls := 8, slots := #[.int 88], vm := .none },
  { cls := 8, slots := #[.int 89], vm := .none },
  { cls := 8, slots := #[.int 90], vm := .none },
  { cls := 8, slots := #[.int 91], vm := .none },
  { cls := 8, slots := #[.int 92], vm := .none },
  { cls := 8, slots := #[.int 93], vm := .none },
  { cls := 8, slots := #[.int 94], vm := .none },
  { cls := 8, slots := #[.int 95], vm := .none },
  { cls := 8, slots := #[.int 96], vm := .none },
  { cls := 8, slots := #[.int 97], vm := .none },
  { cls := 8, slots := #[.int 98], vm := .none },
  { cls := 8, slots := #[.int 99], vm := .none },
  { cls := 8, slots := #[.int 100], vm := .none },
  { cls := 8, slots := #[.int 101], vm := .none },
  { cls := 8, slots := #[.int 102], vm := .none },
  { cls := 8, slots := #[.int 103], vm := .none },
  { cls := 8, slots := #[.int 104], vm := .none },
  { cls := 8, slots := #[.int 105], vm := .none },
  { cls := 8, slots := #[.int 106], vm := .none },
  { cls := 8, slots := #[.int 107], vm := .none },
  { cls := 8, slots := #[.int 108], vm := .none },
  { cls := 8, slots := #[.int 109], vm := .none },
  { cls := 8, slots := #[.int 110], vm := .none },
  { cls := 8, slots := #[.int 111], vm := .none },
  { cls := 8, slots := #[.int 112], vm := .none },
  { cls := 8, slots := #[.int 113], vm := .none },
  { cls := 8, slots := #[.int 114], vm := .none },
  { cls := 8, slots := #[.int 115], vm := .none },
  { cls := 8, slots := #[.int 116], vm := .none },
  { cls := 8, slots := #[.int 117], vm := .none },
  { cls := 8, slots := #[.int 118], vm := .none },
  { cls := 8, slots := #[.int 119], vm := .none },
  { cls := 8, slots := #[.int 120], vm := .none },
  { cls := 8, slots := #[.int 121], vm := .none },
  { cls := 8, slots := #[.int 122], vm := .none },
  { cls := 8, slots := #[.int 123], vm := .none },
  { cls := 8, slots := #[.int 124], vm := .none },
  { cls := 8, slots := #[.int 125], vm := .none },
  { cls := 8, slots := #[.int 126], vm := .none },
  { cls := 8, slots := #[.int 127], vm := .none },
  { cls := 20, slots := #[.ref 3, .ref 4, .ref 5, .ref 6, .ref 7, .ref 8, .ref 9, .ref 10, .ref 11, .ref 12, .ref 13, .ref 14, .ref 15, .ref 16, .ref 17, .ref 18, .ref 19, .ref 20, .ref 21, .ref 22, .ref 23, .ref 24, .ref 25, .ref 26, .ref 27, .ref 28, .ref 29, .ref 30, .ref 31, .ref 32, .ref 33, .ref 34, .ref 35, .ref 36, .ref 37, .ref 38, .ref 39, .ref 40, .ref 41, .ref 42, .ref 43, .ref 44, .ref 45, .ref 46, .ref 47, .ref 48, .ref 49, .ref 50, .ref 51, .ref 52, .ref 53, .ref 54, .ref 55, .ref 56, .ref 57, .ref 58, .ref 59, .ref 60, .ref 61, .ref 62, .ref 63, .ref 64, .ref 65, .ref 66, .ref 67, .ref 68, .ref 69, .ref 70, .ref 71, .ref 72, .ref 73, .ref 74, .ref 75, .ref 76, .ref 77, .ref 78, .ref 79, .ref 80, .ref 81, .ref 82, .ref 83, .ref 84, .ref 85, .ref 86, .ref 87, .ref 88, .ref 89, .ref 90, .ref 91, .ref 92, .ref 93, .ref 94, .ref 95, .ref 96, .ref 97, .ref 98, .ref 99, .ref 100, .ref 101, .ref 102, .ref 103, .ref 104, .ref 105, .ref 106, .ref 107, .ref 108, .ref 109, .ref 110, .ref 111, .ref 112, .ref 113, .ref 114, .ref 115, .ref 116, .ref 117, .ref 118, .ref 119, .ref 120, .ref 121, .ref 122, .ref 123, .ref 124, .ref 125, .ref 126, .ref 127, .ref 128, .ref 129, .ref 130, .ref 131, .ref 132, .ref 133, .ref 134, .ref 135, .ref 136, .ref 137, .ref 138, .ref 139, .ref 140, .ref 141, .ref 142, .ref 143, .ref 144, .ref 145, .ref 146, .ref 147, .ref 148, .ref 149, .ref 150, .ref 151, .ref 152, .ref 153, .ref 154, .ref 155, .ref 156, .ref 157, .ref 158, .ref 159, .ref 160, .ref 161, .ref 162, .ref 163, .ref 164, .ref 165, .ref 166, .ref 167, .ref 168, .ref 169, .ref 170, .ref 171, .ref 172, .ref 173, .ref 174, .ref 175, .ref 176, .ref 177, .ref 178, .ref 179, .ref 180, .ref 181, .ref 182, .ref 183, .ref 184, .ref 185, .ref 186, .ref 187, .ref 188, .ref 189, .ref 190, .ref 191, .ref 192, .ref 193, .ref 194, .ref 195, .ref 196, .ref 197, .ref 198, .ref 199, .ref 200, .ref 201, .ref 202, .ref 203, .ref 204, .ref 205, .ref 206, .ref 207, .ref 208, .ref 209, .ref 210, .ref 211, .ref 212, .ref 213, .ref 214, .ref 215, .ref 216, .ref 217, .ref 218, .ref 219, .ref 220, .ref 221, .ref 222, .ref 223, .ref 224, .ref 225, .ref 226, .ref 227, .ref 228, .ref 229, .ref 230, .ref 231, .ref 232, .ref 233, .ref 234, .ref 235, .ref 236, .ref 237, .ref 238, .ref 239, .ref 240, .ref 241, .ref 242, .ref 243, .ref 244, .ref 245, .ref 246, .ref 247, .ref 248, .ref 249, .ref 250, .ref 251, .ref 252, .ref 253, .ref 254, .ref 255, .ref 256, .ref 257, .ref 258], vm := .none }]
def classes : Array Class := #[k0, k1, k2, k3, k4, k5, k6, k7, k8, k9, k10, k11, k12, k13, k14, k15, k16, k17, k18, k19, k20]
def interned : List (Array UInt16 × Addr) := []
def slotsUsed : Nat := 527
def theMethod : MethodId := ⟨1, 2⟩
def args0 : Array Value := #[.int 5, .int 7, .int 3, .int 2, .int 4, .int 9]
def aboutOver (below : List Frame) : State where
  vm := { classes := classes, interned := interned.toArray }
  heap := heap
  slotsUsed := slotsUsed
  threads := #[{ frames := .invoking theMethod args0 :: below }]
def below0 : List Frame := [.native { method := ⟨0, 0⟩, args := #[] }]
def about1 : State := aboutOver below0
def p0 : Program := .bare "" "" ""
def e0 : Env := launch0.env 0 0 0
theorem w_frames : about1.frames = Frame.invoking theMethod args0 :: below0 := rfl
set_option maxRecDepth 65536 in
theorem w_args : argsFit about1.vm theMethod args0 = true := by decide +kernel
set_option maxRecDepth 65536 in
theorem w_heap : heapFits about1 = true := by decide +kernel
set_option maxRecDepth 65536 in
theorem w_runnable : about1.curStatus? = some .runnable := by decide +kernel
set_option maxRecDepth 65536 in
theorem w_alone : about1.alone = true := by decide +kernel
set_option maxRecDepth 65536 in
theorem w_named : about1.methodNamed? x = some theMethod := by decide +kernel
set_option maxRecDepth 65536 in
theorem w_hears : about1.hears theMethod below0 = true := by decide +kernel
set_option maxRecDepth 65536 in
theorem w_ripe : about1.ripe theMethod args0 below0 = true := by decide +kernel
theorem w_running : about1.status = .running := rfl
set_option maxRecDepth 65536 in
theorem w_room : about1.hasRoom e0.platform room_1 = true :=
  launch0.hasRoom_least _ room_1 (by decide +kernel) (by decide +kernel) (by decide +kernel) (by decide +kernel) (by decide +kernel) (by decide +kernel)
theorem allAtoms_all (ts : List Jvm.Cond) (a : Array Jvm.Value) (st : Jvm.State) : (allAtoms ts).before a st = ts.all (fun c => c.before a st) := by
  induction ts with
  | nil => rfl
  | cons c t ih =>
    show (Jvm.Cond.and c (allAtoms t)).before a st = _
    rw [Jvm.Cond.before_and, ih, List.all_cons]
def words1 : List Jvm.Cond := Jvm.Cond.code x code maxLocals ret :: tables_1
/-- a 'code' word, met by the world's own term for the bytes: nothing is compared byte by byte -/
theorem code_word {y : MethodName} {bytes : ByteArray} {mx : Nat} {rt : Option FieldType} {a : Array Value} {s : State} {m : MethodId} {meth : Method} {c : Code} (h1 : s.methodNamed? y = some m) (h2 : s.vm.method? m = some meth) (h3 : meth.code = some c) (h4 : c.code = bytes)
    (h5 : (c.maxLocals == mx && c.exceptionTable.isEmpty && decide (c.maxStack ≤ mostOperands) && decide (meth.sig.returnType = rt) && !meth.locks && decide (parseMethodDescriptor y.desc = some meth.sig)) = true) : (Jvm.Cond.code y bytes mx rt).before a s = true := by
  simp only [Bool.and_eq_true, beq_iff_eq, Bool.not_eq_true', decide_eq_true_eq] at h5
  obtain ⟨⟨⟨⟨⟨g1, g2⟩, g3⟩, g4⟩, g5⟩, g6⟩ := h5
  simp [Cond.before, Cond.holds, Cond.value, h1, h2, h3, h4, g1, g2, g3, g4, g5, g6]
def isCode : Jvm.Cond → Bool
  | .code _ _ _ _ => true
  | _ => false
theorem all_split {L : List Jvm.Cond} {P : Jvm.Cond → Bool} (h1 : L.all (fun c => isCode c || P c) = true) (h2 : ∀ c ∈ L.filter isCode, P c = true) : L.all P = true := by
  refine List.all_eq_true.mpr fun c hc => ?_
  have h := List.all_eq_true.mp h1 c hc
  rcases Bool.eq_false_or_eq_true (isCode c) with hi | hi
  · exact h2 c (List.mem_filter.mpr ⟨hc, hi⟩)
  · simpa [hi] using h
set_option maxRecDepth 65536 in
theorem w_c0 : (Jvm.Cond.code x code maxLocals ret).before args0 about1 = true := code_word (m := ⟨1, 2⟩) (meth := k1m2) (c := k1c2) (by decide +kernel) rfl rfl rfl (by decide +kernel)
set_option maxRecDepth 65536 in
theorem w_c1 : (Jvm.Cond.code ({ cls := "com/example/framewire/framewire/bench/Tally", name := "<init>", desc := "()V" } : Jvm.MethodName) prog_34_method_1_code (1 : Nat) (Option.none : Option Jvm.ClassFile.FieldType)).before args0 about1 = true := code_word (m := ⟨2, 0⟩) (meth := k2m0) (c := k2c0) (by decide +kernel) rfl rfl rfl (by decide +kernel)
set_option maxRecDepth 65536 in
theorem w_c2 : (Jvm.Cond.code ({ cls := "java/lang/Object", name := "<init>", desc := "()V" } : Jvm.MethodName) object_method_1_code (1 : Nat) (Option.none : Option Jvm.ClassFile.FieldType)).before args0 about1 = true := code_word (m := ⟨0, 0⟩) (meth := k0m0) (c := k0c0) (by decide +kernel) rfl rfl rfl (by decide +kernel)
set_option maxRecDepth 65536 in
theorem w_c3 : (Jvm.Cond.code ({ cls := "com/example/framewire/framewire/bench/Tally", name := "equals", desc := "(Ljava/lang/Object;)Z" } : Jvm.MethodName) prog_34_method_4_code (3 : Nat) (Option.some Jvm.ClassFile.FieldType.boolean)).before args0 about1 = true := code_word (m := ⟨2, 2⟩) (meth := k2m2) (c := k2c2) (by decide +kernel) rfl rfl rfl (by decide +kernel)
set_option maxRecDepth 65536 in
theorem w_c4 : (Jvm.Cond.code ({ cls := "java/lang/Integer", name := "valueOf", desc := "(I)Ljava/lang/Integer;" } : Jvm.MethodName) jdk_33_method_22_code (1 : Nat) (Option.some (Jvm.ClassFile.FieldType.object "java/lang/Integer"))).before args0 about1 = true := code_word (m := ⟨8, 0⟩) (meth := k8m0) (c := k8c0) (by decide +kernel) rfl rfl rfl (by decide +kernel)
set_option maxRecDepth 65536 in
theorem w_c5 : (Jvm.Cond.code ({ cls := "java/lang/String", name := "valueOf", desc := "(C)Ljava/lang/String;" } : Jvm.MethodName) jdk_42_method_139_code (1 : Nat) (Option.some (Jvm.ClassFile.FieldType.object "java/lang/String"))).before args0 about1 = true := code_word (m := ⟨11, 2⟩) (meth := k11m2) (c := k11c2) (by decide +kernel) rfl rfl rfl (by decide +kernel)
set_option maxRecDepth 65536 in
theorem w_c6 : (Jvm.Cond.code ({ cls := "java/lang/StringLatin1", name := "canEncode", desc := "(C)Z" } : Jvm.MethodName) jdk_43_method_3_code (1 : Nat) (Option.some Jvm.ClassFile.FieldType.boolean)).before args0 about1 = true := code_word (m := ⟨12, 1⟩) (meth := k12m1) (c := k12c1) (by decide +kernel) rfl rfl rfl (by decide +kernel)
set_option maxRecDepth 65536 in
theorem w_c7 : (Jvm.Cond.code ({ cls := "java/lang/StringLatin1", name := "toBytes", desc := "(C)[B" } : Jvm.MethodName) jdk_43_method_46_code (1 : Nat) (Option.some (Jvm.ClassFile.FieldType.array Jvm.ClassFile.FieldType.byte))).before args0 about1 = true := code_word (m := ⟨12, 3⟩) (meth := k12m3) (c := k12c3) (by decide +kernel) rfl rfl rfl (by decide +kernel)
set_option maxRecDepth 65536 in
theorem w_c8 : (Jvm.Cond.code ({ cls := "java/lang/String", name := "<init>", desc := "([BB)V" } : Jvm.MethodName) jdk_42_method_151_code (3 : Nat) (Option.none : Option Jvm.ClassFile.FieldType)).before args0 about1 = true := code_word (m := ⟨11, 3⟩) (meth := k11m3) (c := k11c3) (by decide +kernel) rfl rfl rfl (by decide +kernel)
set_option maxRecDepth 65536 in
theorem w_c9 : (Jvm.Cond.code ({ cls := "com/example/framewire/framewire/bench/Tally", name := "add", desc := "(I[BLjava/lang/String;Ljava/lang/String;)V" } : Jvm.MethodName) prog_34_method_2_code (7 : Nat) (Option.none : Option Jvm.ClassFile.FieldType)).before args0 about1 = true := code_word (m := ⟨2, 1⟩) (meth := k2m1) (c := k2c1) (by decide +kernel) rfl rfl rfl (by decide +kernel)
set_option maxRecDepth 65536 in
theorem w_c10 : (Jvm.Cond.code ({ cls := "java/lang/String", name := "hashCode", desc := "()I" } : Jvm.MethodName) jdk_42_method_78_code (2 : Nat) (Option.some Jvm.ClassFile.FieldType.int)).before args0 about1 = true := code_word (m := ⟨11, 1⟩) (meth := k11m1) (c := k11c1) (by decide +kernel) rfl rfl rfl (by decide +kernel)
set_option maxRecDepth 65536 in
theorem w_c11 : (Jvm.Cond.code ({ cls := "java/lang/String", name := "isLatin1", desc := "()Z" } : Jvm.MethodName) jdk_42_method_154_code (1 : Nat) (Option.some Jvm.ClassFile.FieldType.boolean)).before args0 about1 = true := code_word (m := ⟨11, 4⟩) (meth := k11m4) (c := k11c4) (by decide +kernel) rfl rfl rfl (by decide +kernel)
set_option maxRecDepth 65536 in
theorem w_c12 : (Jvm.Cond.code ({ cls := "java/lang/StringLatin1", name := "hashCode", desc := "([B)I" } : Jvm.MethodName) jdk_43_method_21_code (1 : Nat) (Option.some Jvm.ClassFile.FieldType.int)).before args0 about1 = true := code_word (m := ⟨12, 2⟩) (meth := k12m2) (c := k12c2) (by decide +kernel) rfl rfl rfl (by decide +kernel)
set_option maxRecDepth 65536 in
theorem w_c13 : (Jvm.Cond.code ({ cls := "com/example/framewire/framewire/bench/TallyEqualsPinLaw", name := "step", desc := "(JIII)J" } : Jvm.MethodName) method_2_code (7 : Nat) (Option.some Jvm.ClassFile.FieldType.long)).before args0 about1 = true := code_word (m := ⟨1, 1⟩) (meth := k1m1) (c := k1c1) (by decide +kernel) rfl rfl rfl (by decide +kernel)
set_option maxRecDepth 65536 in
theorem w_c14 : (Jvm.Cond.code ({ cls := "java/lang/Integer", name := "<init>", desc := "(I)V" } : Jvm.MethodName) jdk_33_method_23_code (2 : Nat) (Option.none : Option Jvm.ClassFile.FieldType)).before args0 about1 = true := code_word (m := ⟨8, 1⟩) (meth := k8m1) (c := k8c1) (by decide +kernel) rfl rfl rfl (by decide +kernel)
set_option maxRecDepth 65536 in
theorem w_c15 : (Jvm.Cond.code ({ cls := "java/lang/Number", name := "<init>", desc := "()V" } : Jvm.MethodName) jdk_18_method_1_code (1 : Nat) (Option.none : Option Jvm.ClassFile.FieldType)).before args0 about1 = true := code_word (m := ⟨4, 0⟩) (meth := k4m0) (c := k4c0) (by decide +kernel) rfl rfl rfl (by decide +kernel)
def codes1 : List Jvm.Cond := [Jvm.Cond.code x code maxLocals ret, Jvm.Cond.code ({ cls := "com/example/framewire/framewire/bench/Tally", name := "<init>", desc := "()V" } : Jvm.MethodName) prog_34_method_1_code (1 : Nat) (Option.none : Option Jvm.ClassFile.FieldType), Jvm.Cond.code ({ cls := "java/lang/Object", name := "<init>", desc := "()V" } : Jvm.MethodName) object_method_1_code (1 : Nat) (Option.none : Option Jvm.ClassFile.FieldType), Jvm.Cond.code ({ cls := "com/example/framewire/framewire/bench/Tally", name := "equals", desc := "(Ljava/lang/Object;)Z" } : Jvm.MethodName) prog_34_method_4_code (3 : Nat) (Option.some Jvm.ClassFile.FieldType.boolean), Jvm.Cond.code ({ cls := "java/lang/Integer", name := "valueOf", desc := "(I)Ljava/lang/Integer;" } : Jvm.MethodName) jdk_33_method_22_code (1 : Nat) (Option.some (Jvm.ClassFile.FieldType.object "java/lang/Integer")), Jvm.Cond.code ({ cls := "java/lang/String", name := "valueOf", desc := "(C)Ljava/lang/String;" } : Jvm.MethodName) jdk_42_method_139_code (1 : Nat) (Option.some (Jvm.ClassFile.FieldType.object "java/lang/String")), Jvm.Cond.code ({ cls := "java/lang/StringLatin1", name := "canEncode", desc := "(C)Z" } : Jvm.MethodName) jdk_43_method_3_code (1 : Nat) (Option.some Jvm.ClassFile.FieldType.boolean), Jvm.Cond.code ({ cls := "java/lang/StringLatin1", name := "toBytes", desc := "(C)[B" } : Jvm.MethodName) jdk_43_method_46_code (1 : Nat) (Option.some (Jvm.ClassFile.FieldType.array Jvm.ClassFile.FieldType.byte)), Jvm.Cond.code ({ cls := "java/lang/String", name := "<init>", desc := "([BB)V" } : Jvm.MethodName) jdk_42_method_151_code (3 : Nat) (Option.none : Option Jvm.ClassFile.FieldType), Jvm.Cond.code ({ cls := "com/example/framewire/framewire/bench/Tally", name := "add", desc := "(I[BLjava/lang/String;Ljava/lang/String;)V" } : Jvm.MethodName) prog_34_method_2_code (7 : Nat) (Option.none : Option Jvm.ClassFile.FieldType), Jvm.Cond.code ({ cls := "java/lang/String", name := "hashCode", desc := "()I" } : Jvm.MethodName) jdk_42_method_78_code (2 : Nat) (Option.some Jvm.ClassFile.FieldType.int), Jvm.Cond.code ({ cls := "java/lang/String", name := "isLatin1", desc := "()Z" } : Jvm.MethodName) jdk_42_method_154_code (1 : Nat) (Option.some Jvm.ClassFile.FieldType.boolean), Jvm.Cond.code ({ cls := "java/lang/StringLatin1", name := "hashCode", desc := "([B)I" } : Jvm.MethodName) jdk_43_method_21_code (1 : Nat) (Option.some Jvm.ClassFile.FieldType.int), Jvm.Cond.code ({ cls := "com/example/framewire/framewire/bench/TallyEqualsPinLaw", name := "step", desc := "(JIII)J" } : Jvm.MethodName) method_2_code (7 : Nat) (Option.some Jvm.ClassFile.FieldType.long), Jvm.Cond.code ({ cls := "java/lang/Integer", name := "<init>", desc := "(I)V" } : Jvm.MethodName) jdk_33_method_23_code (2 : Nat) (Option.none : Option Jvm.ClassFile.FieldType), Jvm.Cond.code ({ cls := "java/lang/Number", name := "<init>", desc := "()V" } : Jvm.MethodName) jdk_18_method_1_code (1 : Nat) (Option.none : Option Jvm.ClassFile.FieldType)]
set_option maxRecDepth 65536 in
theorem codes_eq : words1.filter isCode = codes1 := rfl
theorem w_codes : ∀ c ∈ words1.filter isCode, c.before args0 about1 = true := by
  rw [codes_eq]
  intro c hc
  simp only [codes1, List.mem_cons, List.not_mem_nil, or_false] at hc
  rcases hc with rfl | rfl | rfl | rfl | rfl | rfl | rfl | rfl | rfl | rfl | rfl | rfl | rfl | rfl | rfl | rfl
  · exact w_c0
  · exact w_c1
  · exact w_c2
  · exact w_c3
  · exact w_c4
  · exact w_c5
  · exact w_c6
  · exact w_c7
  · exact w_c8
  · exact w_c9
  · exact w_c10
  · exact w_c11
  · exact w_c12
  · exact w_c13
  · exact w_c14
  · exact w_c15
set_option maxRecDepth 65536 in
theorem w_t1 : (words1.take 24).all (fun c => isCode c || c.before args0 about1) = true := by decide +kernel
set_option maxRecDepth 65536 in
theorem w_t2 : ((words1.drop 24).take 24).all (fun c => isCode c || c.before args0 about1) = true := by decide +kernel
set_option maxRecDepth 65536 in
theorem w_t3 : (((words1.drop 24).drop 24).take 24).all (fun c => isCode c || c.before args0 about1) = true := by decide +kernel
set_option maxRecDepth 65536 in
theorem w_t4 : ((((words1.drop 24).drop 24).drop 24).take 24).all (fun c => isCode c || c.before args0 about1) = true := by decide +kernel
set_option maxRecDepth 65536 in
theorem w_t5 : ((((words1.drop 24).drop 24).drop 24).drop 24).all (fun c => isCode c || c.before args0 about1) = true := by decide +kernel
theorem w_tables : (allAtoms (Jvm.Cond.code x code maxLocals ret :: tables_1)).before args0 about1 = true := by
  rw [allAtoms_all]
  show words1.all (fun c => c.before args0 about1) = true
  refine all_split ?_ w_codes
  rw [← List.take_append_drop 24 words1, List.all_append, w_t1, ← List.take_append_drop 24 (words1.drop 24), List.all_append, w_t2, ← List.take_append_drop 24 ((words1.drop 24).drop 24), List.all_append, w_t3, ← List.take_append_drop 24 (((words1.drop 24).drop 24).drop 24), List.all_append, w_t4, w_t5]
  rfl
set_option maxRecDepth 65536 in
theorem w_rest : rest_1_c.before args0 about1 = true := by decide +kernel
set_option maxRecDepth 65536 in
theorem w_case : (Jvm.Cond.and given_1 narrow_1).before args0 about1 = true := by decide +kernel
theorem w_applies : (headSpec (Jvm.Cond.code x code maxLocals ret :: tables_1) room_1).applies x e0.platform about1 = true :=
  (Spec.applies_iff w_frames).mpr ⟨w_running, w_runnable, w_alone, w_named, w_hears, w_ripe, w_room, w_tables⟩
theorem atStart : AtStart classFile x code maxLocals ret World_1 tables_1 room_1 Calls_1 rest_1 Pre_1 launch0 p0 e0 about1 theMethod args0 below0 :=
  ⟨lists_1, trivial, launch0.admits_env _ _ _, launch0.least_env, fairChoices_fair.cas, fairChoices_fair.clock, w_frames, w_args, w_heap, w_applies, trivial, w_rest, w_case⟩
end start1
theorem witness_1 : WitnessClaimed_1 := ⟨start1.p0, start1.e0, start1.about1, start1.theMethod, start1.args0, start1.below0, start1.atStart⟩
end Jvm.Pilot.@@N@@
