import JvmDerived
import JvmDerived.Pilot.@@N@@Statement
import JvmDerived.Pilot.@@N@@Code
set_option linter.unusedVariables false
set_option linter.unusedSimpArgs false
namespace Jvm.RoadKit
open Sem ClassFile Op Lib Jvm.Stand Jvm.Free Jvm.LawKit
section New
variable {p : Program} {l : Launch} {e : Env} {R : Room} {s : State} {m : MethodId} {args : Array Value} {below : List Frame} {meth : Method} {c : Code} {T : State} {locs : List Loc} {cells slots : Nat}
theorem retI (X : Stand p l e R s m args below meth c T locs cells slots) (hx : p.tables.exec = Jvm.exec) {pc : Nat} {Ls : Array Slot} {z : Int32} {rest : List Value} (hret : meth.sig.returnType = some .int) (hd : decode c.code pc = .ok (.ireturn, 1)) {fs : List Frame}
    (hl : ∀ (f : JFrame) (acts : List Action), f.method = m → f.locked = none → f.entered = [] → (doReturn e (T.setTop f) acts (some (.int z))).1 = T.setFrames fs) : Steps p.tables e below (T.setTop (mkF m pc Ls (.int z :: rest))) (T.setFrames fs) := by
  have hm' : T.vm.method? m = some meth := X.method'
  have hn : narrow .int (.int z) = .int z := rfl
  show Steps p.tables e below (T.setTop { method := m, pc := pc, locals := Ls, stack := _ :: rest, locked := none }) _
  jvm_step X.here [X.here.top, hx, hd, hm', hret, hn]
  first | (intro acts; rw [hl _ acts rfl rfl rfl]) | rw [hl _ _ rfl rfl rfl]
  exact Steps.refl _
end New
end Jvm.RoadKit
namespace Jvm.Pilot.@@N@@
open Jvm Jvm.ClassFile Sem Op Lib Jvm.Free Jvm.Stand Jvm.LawKit Jvm.RoadKit Bundle Jvm.Pilot.@@N@@.Jvm.D

/-! the walk's goal: from this frame the run comes to its end, and Q holds of what it returns, of the heap and of the places written -/
def Fini (p : Program) (e : Env) (below : List Frame) (s : State) (Q : Option Value → Heap → List Loc → Prop) (C S : Nat) (T : State) (g : JFrame) : Prop :=
  ∃ s₂ o, Steps p.tables e below (T.setTop g) s₂ ∧ s₂.status = .running ∧ Ended s₂ below o ∧ ∃ v L, o = .returned v ∧ Q v s₂.heap L ∧ FrameEnd s o s₂ L C S
abbrev Cmet (l : Launch) (Z : State) (y : MethodName) (bytes : ByteArray) (ml : Nat) (ret : Option FieldType) (ws : List Jvm.Cond) (rm : Room) (as : Array Value) (h0 : Heap) (Q : Option Value → Heap → List Loc → Prop) : Prop :=
  MetFree l y (head1 (Jvm.Cond.code y bytes ml ret :: ws) rm) (fun a U => a = as ∧ Z.Warmed39 U.vm ∧ U.heap = h0) (fun _ _ _ _ _ => True) (fun _ U o U' => ∃ v L, o = .returned v ∧ Q v U'.heap L ∧ FrameEnd U o U' L rm.cells rm.slots)
section Own
variable {p : Program} {l : Launch} {e : Env} {R : Room} {s : State} {m : MethodId} {args : Array Value} {below : List Frame} {meth : Method} {c : Code} {T T' : State} {locs : List Loc} {cells slots : Nat} {Q : Option Value → Heap → List Loc → Prop} {C S : Nat} {g g' : JFrame} {Z : State} {a0 : Array Value} {h : Heap}
theorem Fini.st (k : ∀ t, Steps p.tables e below (T'.setTop g') t → Steps p.tables e below (T.setTop g) t) (f : Fini p e below s Q C S T' g') : Fini p e below s Q C S T g := by
  obtain ⟨s2, o, h1, r⟩ := f
  exact ⟨s2, o, k _ h1, r⟩
theorem Fini.cast (q : g = g') (f : Fini p e below s Q C S T g') : Fini p e below s Q C S T g := q ▸ f
theorem Fini.retI (X : Stand p l e R s m args below meth c T locs cells slots) (hx : p.tables.exec = Jvm.exec) (hl : meth.locks = false) (hret : meth.sig.returnType = some .int) {pc : Nat} {Ls : Array Slot} {z : Int32} {rest : List Value} (hd : decode c.code pc = .ok (.ireturn, 1))
    (hC : cells ≤ C) (hS : slots ≤ S) (hQ : Q (some (.int z)) T.heap locs) : Fini p e below s Q C S T (mkF m pc Ls (.int z :: rest)) := by
  obtain ⟨fs, hr, hrun, hended, hW, hsame⟩ := X.leave (v := some (.int z)) (fun h => by rw [hret] at h; cases h) hl
  exact ⟨_, _, Jvm.RoadKit.retI X hx hret hd hr, hrun, hended, _, _, rfl, hQ, ⟨_, rfl⟩, hW, hsame.mono hC hS⟩
theorem Fini.retN (X : Stand p l e R s m args below meth c T locs cells slots) (hx : p.tables.exec = Jvm.exec) (hl : meth.locks = false) {t : FieldType} (hret : meth.sig.returnType = some t) (ht : t = .boolean ∨ t = .byte ∨ t = .char ∨ t = .short) {pc : Nat} {Ls : Array Slot} {z z' : Int32} {rest : List Value} (hd : decode c.code pc = .ok (.ireturn, 1))
    (hz : nar t z = z') (hC : cells ≤ C) (hS : slots ≤ S) (hQ : Q (some (.int z')) T.heap locs) : Fini p e below s Q C S T (mkF m pc Ls (.int z :: rest)) := by
  subst hz
  obtain ⟨fs, hr, hrun, hended, hW, hsame⟩ := X.leave (v := some (.int (nar t z))) (fun h => by rw [hret] at h; cases h) hl
  exact ⟨_, _, Jvm.RoadKit.retN X hx hret ht hd hr, hrun, hended, _, _, rfl, hQ, ⟨_, rfl⟩, hW, hsame.mono hC hS⟩
theorem Fini.retJ (X : Stand p l e R s m args below meth c T locs cells slots) (hx : p.tables.exec = Jvm.exec) (hl : meth.locks = false) (hret : meth.sig.returnType = some .long) {pc : Nat} {Ls : Array Slot} {z : Int64} {rest : List Value} (hd : decode c.code pc = .ok (.lreturn, 1))
    (hC : cells ≤ C) (hS : slots ≤ S) (hQ : Q (some (.long z)) T.heap locs) : Fini p e below s Q C S T (mkF m pc Ls (.long z :: rest)) := by
  obtain ⟨fs, hr, hrun, hended, hW, hsame⟩ := X.leave (v := some (.long z)) (fun h => by rw [hret] at h; cases h) hl
  exact ⟨_, _, retOut X hx hret rfl (Or.inr (Or.inl ⟨rfl, rfl, z, rfl⟩)) hd hr, hrun, hended, _, _, rfl, hQ, ⟨_, rfl⟩, hW, hsame.mono hC hS⟩
theorem Fini.retA (X : Stand p l e R s m args below meth c T locs cells slots) (hx : p.tables.exec = Jvm.exec) (hl : meth.locks = false) {t : FieldType} (hret : meth.sig.returnType = some t) (ht : t.isReference = true) {pc : Nat} {Ls : Array Slot} {w : Value} {rest : List Value} (hd : decode c.code pc = .ok (.areturn, 1)) (hw : w.isRef = true) (hn : narrow t w = w)
    (hC : cells ≤ C) (hS : slots ≤ S) (hQ : Q (some w) T.heap locs) : Fini p e below s Q C S T (mkF m pc Ls (w :: rest)) := by
  obtain ⟨fs, hr, hrun, hended, hW, hsame⟩ := X.leave (v := some w) (fun h => by rw [hret] at h; cases h) hl
  exact ⟨_, _, retOut X hx hret hn (Or.inr (Or.inr (Or.inr (Or.inr ⟨rfl, ht, hw⟩)))) hd hr, hrun, hended, _, _, rfl, hQ, ⟨_, rfl⟩, hW, hsame.mono hC hS⟩
theorem Fini.ret0 (X : Stand p l e R s m args below meth c T locs cells slots) (hx : p.tables.exec = Jvm.exec) (hl : meth.locks = false) (hret : meth.sig.returnType = none) {pc : Nat} {Ls : Array Slot} (hd : decode c.code pc = .ok (.return_, 1))
    (hC : cells ≤ C) (hS : slots ≤ S) (hQ : Q none T.heap locs) : Fini p e below s Q C S T (mkF m pc Ls []) := by
  obtain ⟨fs, hr, hrun, hended, hW, hsame⟩ := X.leave (v := none) (fun _ => rfl) hl
  exact ⟨_, _, X.returnOut hx hret hd hr, hrun, hended, _, _, rfl, hQ, ⟨_, rfl⟩, hW, hsame.mono hC hS⟩
/-- a static call by its contract -/
theorem callQ (X : Stand p l e R s m args below meth c T locs cells slots) (hx : p.tables.exec = Jvm.exec) (hZ : Z.Warmed39 s.vm) {own : String} {index : Nat} {y : MethodName} {bytes : ByteArray} {maxL : Nat} {ret : Option FieldType} {rm : Room} {as : Array Value}
    (hown : s.vm.findClass own = some m.cls) (w1 : (Cond.methodLink own index y).before a0 Z = true) (w2 : (Cond.static y).before a0 Z = true) (w3 : (Cond.initialized y.cls).before a0 Z = true) (w4 : (Cond.code y bytes maxL ret).before a0 Z = true)
    (hy : y.cls ≠ "java/lang/invoke/MethodHandle" ∧ y.cls ≠ "java/lang/invoke/VarHandle") (M : Cmet l Z y bytes maxL ret [] rm as h Q) (eT : T.heap = h) {W : Nat} (hf : rm.frames + 1 ≤ R.frames) (hl : W + (maxL + 11) + rm.locals ≤ R.locals) (hc : cells + rm.cells ≤ R.cells) (hs : slots + rm.slots ≤ R.slots)
    (hg : g.method = m) (hsize : g.locals.size = c.maxLocals) {argsL rest : List Value} (has : argsL.toArray = as) (hlen : ∀ sig, parseMethodDescriptor y.desc = some sig → argsL.length = sig.parameters.length)
    (hstack : g.stack = argsL.reverse ++ rest) (hW : 2 * g.monitorRoom + (rest.map fun v => v.category).sum ≤ W) (hdg : decode c.code g.pc = .ok (.invokestatic index, 3)) :
    ∃ (v : Option Value) (T' : State) (L : List Loc), Stand p l e R s m args below meth c T' (locs ++ L) (cells + rm.cells) (slots + rm.slots) ∧ Q v T'.heap L ∧
      ∀ target, Steps p.tables e below (T'.setTop { g with pc := g.pc + 3, stack := v.toList ++ rest }) target → Steps p.tables e below (T.setTop g) target := by
  obtain ⟨v, vm1, ⟨T', L', c', n'⟩, -, X', ⟨L, hQ, q1, q2, q3⟩, st⟩ := Jvm.LawKit.callS X hx hown (mvT hZ w1) (mvT hZ w2) (mvT hZ w3) (mvT hZ w4) hy (backOf (W := W) M hZ w4 w3 hf hl) hg hsize hlen hstack hW hdg (fun _ _ => ⟨has, eT, hc, hs⟩)
  dsimp only [Pt.U, Pt.locs, Pt.cells, Pt.slots] at X' q1 q2 q3 st hQ
  subst q1 q2 q3
  exact ⟨v, T', L, X', hQ, st⟩
/-- a static call that leaves the heap as it was -/
theorem pureS (X : Stand p l e R s m args below meth c T locs cells slots) (hx : p.tables.exec = Jvm.exec) (hZ : Z.Warmed39 s.vm) {own : String} {index : Nat} {y : MethodName} {bytes : ByteArray} {maxL : Nat} {ret : Option FieldType} {fr lo : Nat} {as : Array Value} {w : Option Value}
    (hown : s.vm.findClass own = some m.cls) (w1 : (Cond.methodLink own index y).before a0 Z = true) (w2 : (Cond.static y).before a0 Z = true) (w3 : (Cond.initialized y.cls).before a0 Z = true) (w4 : (Cond.code y bytes maxL ret).before a0 Z = true)
    (hy : y.cls ≠ "java/lang/invoke/MethodHandle" ∧ y.cls ≠ "java/lang/invoke/VarHandle") (M : Cmet l Z y bytes maxL ret [] ({ frames := fr, cells := 0, slots := 0, locals := lo } : Room) as h (fun v h' L => v = w ∧ h' = h ∧ L = [])) (eT : T.heap = h) {W : Nat} (hf : fr + 1 ≤ R.frames) (hl : W + (maxL + 11) + lo ≤ R.locals) (hc : cells ≤ R.cells) (hs : slots ≤ R.slots)
    (hg : g.method = m) (hsize : g.locals.size = c.maxLocals) {argsL rest : List Value} (has : argsL.toArray = as) (hlen : ∀ sig, parseMethodDescriptor y.desc = some sig → argsL.length = sig.parameters.length)
    (hstack : g.stack = argsL.reverse ++ rest) (hW : 2 * g.monitorRoom + (rest.map fun v => v.category).sum ≤ W) (hdg : decode c.code g.pc = .ok (.invokestatic index, 3)) :
    ∃ (T' : State), Stand p l e R s m args below meth c T' locs cells slots ∧ T'.heap = h ∧
      ∀ target, Steps p.tables e below (T'.setTop { g with pc := g.pc + 3, stack := w.toList ++ rest }) target → Steps p.tables e below (T.setTop g) target := by
  obtain ⟨v, T', L, X', ⟨rfl, q, rfl⟩, st⟩ := callQ X hx hZ hown w1 w2 w3 w4 hy M eT (W := W) hf hl hc hs hg hsize has hlen hstack hW hdg
  rw [List.append_nil] at X'
  exact ⟨T', X', q, st⟩
/-- an instance method by the contract of the body that the receiver's class selects -/
theorem callV (X : Stand p l e R s m args below meth c T locs cells slots) (hx : p.tables.exec = Jvm.exec) (hZ : Z.Warmed39 s.vm) {own C' : String} {index : Nat} {y z : MethodName} {bytes : ByteArray} {maxL : Nat} {ret : Option FieldType} {rm : Room} {as : Array Value} {b : Addr}
    (hown : s.vm.findClass own = some m.cls) (w1 : (Cond.methodLink own index y).before a0 Z = true) (w2 : (Cond.declares y).before a0 Z = true) (w3 : (Cond.selects C' y z).before a0 Z = true) (w4 : (Cond.instanceMethod z).before a0 Z = true) (w5 : (Cond.initialized z.cls).before a0 Z = true) (w6 : (Cond.code z bytes maxL ret).before a0 Z = true)
    (nf : NotFace s y) (E : Exa Z h b C') (hy : y.cls ≠ "java/lang/invoke/MethodHandle" ∧ y.cls ≠ "java/lang/invoke/VarHandle") (M : Cmet l Z z bytes maxL ret [] rm as h Q) (eT : T.heap = h) {W : Nat} (hf : rm.frames + 1 ≤ R.frames) (hl : W + (maxL + 11) + rm.locals ≤ R.locals) (hc : cells + rm.cells ≤ R.cells) (hs : slots + rm.slots ≤ R.slots)
    (hg : g.method = m) (hsize : g.locals.size = c.maxLocals) {argsL rest : List Value} (has : (Value.ref b :: argsL).toArray = as) (hlen : ∀ sig, parseMethodDescriptor y.desc = some sig → argsL.length = sig.parameters.length)
    (hstack : g.stack = argsL.reverse ++ .ref b :: rest) (hW : 2 * g.monitorRoom + (rest.map fun v => v.category).sum ≤ W) (hdg : decode c.code g.pc = .ok (.invokevirtual index, 3)) :
    ∃ (v : Option Value) (T' : State) (L : List Loc), Stand p l e R s m args below meth c T' (locs ++ L) (cells + rm.cells) (slots + rm.slots) ∧ Q v T'.heap L ∧
      ∀ target, Steps p.tables e below (T'.setTop { g with pc := g.pc + 3, stack := v.toList ++ rest }) target → Steps p.tables e below (T.setTop g) target := by
  obtain ⟨cB, kB, q1, q2, q3⟩ := isOf hZ eT E
  obtain ⟨v, vm1, ⟨T', L', c', n'⟩, -, X', ⟨L, hQ, r1, r2, r3⟩, st⟩ := X.virtualBack hx hown (mvT hZ w1) (mvT hZ w2) nf (mvT hZ w3) (mvT hZ w4) hy (backOf (W := W) M hZ w6 w5 hf hl) q1 q3 hg hsize (Steps.refl _) hlen hstack hW hdg (fun _ _ => ⟨has, eT, hc, hs⟩)
  dsimp only [Pt.U, Pt.locs, Pt.cells, Pt.slots] at X' r1 r2 r3 st hQ
  subst r1 r2 r3
  exact ⟨v, T', L, X', hQ, fun _ k => st.trans k⟩
theorem pureV (X : Stand p l e R s m args below meth c T locs cells slots) (hx : p.tables.exec = Jvm.exec) (hZ : Z.Warmed39 s.vm) {own C' : String} {index : Nat} {y z : MethodName} {bytes : ByteArray} {maxL : Nat} {ret : Option FieldType} {fr lo : Nat} {as : Array Value} {b : Addr} {w : Option Value}
    (hown : s.vm.findClass own = some m.cls) (w1 : (Cond.methodLink own index y).before a0 Z = true) (w2 : (Cond.declares y).before a0 Z = true) (w3 : (Cond.selects C' y z).before a0 Z = true) (w4 : (Cond.instanceMethod z).before a0 Z = true) (w5 : (Cond.initialized z.cls).before a0 Z = true) (w6 : (Cond.code z bytes maxL ret).before a0 Z = true)
    (nf : NotFace s y) (E : Exa Z h b C') (hy : y.cls ≠ "java/lang/invoke/MethodHandle" ∧ y.cls ≠ "java/lang/invoke/VarHandle") (M : Cmet l Z z bytes maxL ret [] ({ frames := fr, cells := 0, slots := 0, locals := lo } : Room) as h (fun v h' L => v = w ∧ h' = h ∧ L = [])) (eT : T.heap = h) {W : Nat} (hf : fr + 1 ≤ R.frames) (hl : W + (maxL + 11) + lo ≤ R.locals) (hc : cells ≤ R.cells) (hs : slots ≤ R.slots)
    (hg : g.method = m) (hsize : g.locals.size = c.maxLocals) {argsL rest : List Value} (has : (Value.ref b :: argsL).toArray = as) (hlen : ∀ sig, parseMethodDescriptor y.desc = some sig → argsL.length = sig.parameters.length)
    (hstack : g.stack = argsL.reverse ++ .ref b :: rest) (hW : 2 * g.monitorRoom + (rest.map fun v => v.category).sum ≤ W) (hdg : decode c.code g.pc = .ok (.invokevirtual index, 3)) :
    ∃ (T' : State), Stand p l e R s m args below meth c T' locs cells slots ∧ T'.heap = h ∧
      ∀ target, Steps p.tables e below (T'.setTop { g with pc := g.pc + 3, stack := w.toList ++ rest }) target → Steps p.tables e below (T.setTop g) target := by
  obtain ⟨v, T', L, X', ⟨rfl, q, rfl⟩, st⟩ := callV X hx hZ hown w1 w2 w3 w4 w5 w6 nf E hy M eT (W := W) hf hl hc hs hg hsize has hlen hstack hW hdg
  rw [List.append_nil] at X'
  exact ⟨T', X', q, st⟩
/-- a constructor by its contract -/
theorem callNew (X : Stand p l e R s m args below meth c T locs cells slots) (hx : p.tables.exec = Jvm.exec) (hZ : Z.Warmed39 s.vm) {own : String} {index : Nat} {y : MethodName} {bytes : ByteArray} {maxL : Nat} {rm : Room} {as : Array Value} {b : Addr}
    (hown : s.vm.findClass own = some m.cls) (hy1 : y.name = "<init>") (w1 : (Cond.methodLink own index y).before a0 Z = true) (w2 : (Cond.instanceMethod y).before a0 Z = true) (w3 : (Cond.initialized y.cls).before a0 Z = true) (w4 : (Cond.code y bytes maxL none).before a0 Z = true)
    (hy : y.cls ≠ "java/lang/invoke/MethodHandle" ∧ y.cls ≠ "java/lang/invoke/VarHandle") (M : Cmet l Z y bytes maxL none [] rm as h Q) (eT : T.heap = h) {W : Nat} (hf : rm.frames + 1 ≤ R.frames) (hl : W + (maxL + 11) + rm.locals ≤ R.locals) (hc : cells + rm.cells ≤ R.cells) (hs : slots + rm.slots ≤ R.slots)
    (hg : g.method = m) (hsize : g.locals.size = c.maxLocals) {argsL rest : List Value} (has : (Value.ref b :: argsL).toArray = as) (hlen : ∀ sig, parseMethodDescriptor y.desc = some sig → argsL.length = sig.parameters.length)
    (hstack : g.stack = argsL.reverse ++ .ref b :: rest) (hW : 2 * g.monitorRoom + (rest.map fun v => v.category).sum ≤ W) (hdg : decode c.code g.pc = .ok (.invokespecial index, 3)) :
    ∃ (v : Option Value) (T' : State) (L : List Loc), Stand p l e R s m args below meth c T' (locs ++ L) (cells + rm.cells) (slots + rm.slots) ∧ Q v T'.heap L ∧
      ∀ target, Steps p.tables e below (T'.setTop { g with pc := g.pc + 3, stack := v.toList ++ rest }) target → Steps p.tables e below (T.setTop g) target := by
  obtain ⟨v, vm1, ⟨T', L', c', n'⟩, -, X', ⟨L, hQ, r1, r2, r3⟩, st⟩ := X.specialBack hx hy1 hown (mvT hZ w1) (mvT hZ w2) (mvT hZ w4) hy (backOf (W := W) M hZ w4 w3 hf hl) hg hsize (Steps.refl _) hlen hstack hW hdg (fun _ _ => ⟨has, eT, hc, hs⟩)
  dsimp only [Pt.U, Pt.locs, Pt.cells, Pt.slots] at X' r1 r2 r3 st hQ
  subst r1 r2 r3
  exact ⟨v, T', L, X', hQ, fun _ k => st.trans k⟩
theorem nb0 : nar .boolean (0 : Int32) = 0 := by decide
theorem nb1 : nar .boolean (1 : Int32) = 1 := by decide
end Own
theorem d1_0 : decode method_4_code 0 = .ok (.iload_n 0, 1) := by decide +kernel
theorem d1_1 : decode method_4_code 1 = .ok (.iload_n 1, 1) := by decide +kernel
theorem d1_2 : decode method_4_code 2 = .ok (.iushr, 1) := by decide +kernel
theorem d1_3 : decode method_4_code 3 = .ok (.iconst 1, 1) := by decide +kernel
theorem d1_4 : decode method_4_code 4 = .ok (.iand, 1) := by decide +kernel
theorem d1_5 : decode method_4_code 5 = .ok (.ifCond .eq 14, 3) := by decide +kernel
theorem d1_8 : decode method_4_code 8 = .ok (.ldc2_w 29, 3) := by decide +kernel
theorem d1_11 : decode method_4_code 11 = .ok (.bipush 8, 2) := by decide +kernel
theorem d1_13 : decode method_4_code 13 = .ok (.iload_n 1, 1) := by decide +kernel
theorem d1_14 : decode method_4_code 14 = .ok (.imul, 1) := by decide +kernel
theorem d1_15 : decode method_4_code 15 = .ok (.lshl, 1) := by decide +kernel
theorem d1_16 : decode method_4_code 16 = .ok (.goto 4, 3) := by decide +kernel
theorem d1_19 : decode method_4_code 19 = .ok (.lconst 0, 1) := by decide +kernel
theorem d1_20 : decode method_4_code 20 = .ok (.lreturn, 1) := by decide +kernel
theorem pn_0 : plainName "com/example/bounds/bounds/json/WordsEqualPinLaw" = true := by first | (simp [plainName, overriddenIn]; done) | decide +kernel
theorem ef1 (m : MethodId) (x0 : Int32) (x1 : Int32) : entryFrame m #[(.int x0), (.int x1)] 2 = mkF m 0 #[.val (.int x0), .val (.int x1)] [] := by first | (simp [entryFrame, mkF, argsToLocals, Value.category]; done) | rfl
def f1 (p0 : Int32) (p1 : Int32) : Int64 := (if ((p0.toUInt32 >>> (p1 &&& 31).toUInt32).toInt32 &&& (1 : Int32)) = (0 : Int32) then (0 : Int64) else ((255 : Int64) <<< (((8 : Int32) * p1) &&& 0x3f).toInt64))
set_option maxRecDepth 65536 in
set_option maxHeartbeats 40000000 in
theorem rm1 (l : Launch) (Z : State) (a0 : Array Value) (hw : ∀ d ∈ tables_1, d.before a0 Z = true) (ws : List Jvm.Cond) (p0 : Int32) (p1 : Int32) (h0 : Heap) :
    Cmet l Z (⟨"com/example/bounds/bounds/json/WordsEqualPinLaw", "keep", "(II)J"⟩ : MethodName) method_4_code 2 (some .long) ws ({ frames := 0, cells := 0, slots := 0, locals := 0 } : Room) #[(.int p0), (.int p1)] h0 (fun v h' L => v = some (.long (f1 p0 p1)) ∧ h' = h0 ∧ L = []) := by
  refine MetFree.of_bodySF (plainFor_of_name pn_0) hisR ?_
  intro p e s m args below meth c s₁ Bd hml0 hP hK
  obtain ⟨rfl, hZ, hh⟩ := hP
  have hx := Bd.exec
  have hlk : meth.locks = false := BodyLoose.notSynchronized Bd
  have hby := Bd.bytes
  have hml : c.maxLocals = 2 := hml0
  have hown : s.vm.findClass "com/example/bounds/bounds/json/WordsEqualPinLaw" = some m.cls := findClass_of_methodNamed Bd.named
  have hnm := (name_of_methodNamed Bd.named Bd.method).1
  have X0 : Stand p l e ({ frames := 0, cells := 0, slots := 0, locals := 0 } : Room) s m #[(.int p0), (.int p1)] below meth c s₁ [] 0 0 := Stand.of_body Bd
  have e0 : s₁.heap = h0 := by rw [← hh, Bd.state]; rfl
  have hv0 : f1 p0 p1 = f1 p0 p1 := rfl
  show Fini p e below s (fun v h' L => v = some (.long (f1 p0 p1)) ∧ h' = h0 ∧ L = []) _ _ s₁ (entryFrame m #[(.int p0), (.int p1)] 2)
  refine Fini.cast (ef1 m p0 p1) ?_
  show Fini p e below s _ _ _ s₁ (mkF m 0 #[.val (.int p0), .val (.int p1)] [])
  refine Fini.st (fun _ k => XS.iloadN X0.here hx rfl (hb hby d1_0) rfl k) ?_
  show Fini p e below s _ _ _ s₁ (mkF m 1 #[.val (.int p0), .val (.int p1)] [(.int p0)])
  refine Fini.st (fun _ k => XS.iloadN X0.here hx rfl (hb hby d1_1) rfl k) ?_
  show Fini p e below s _ _ _ s₁ (mkF m 2 #[.val (.int p0), .val (.int p1)] [(.int p1), (.int p0)])
  refine Fini.st (fun _ k => XS.iushr X0.here hx rfl (hb hby d1_2) rfl k) ?_
  show Fini p e below s _ _ _ s₁ (mkF m 3 #[.val (.int p0), .val (.int p1)] [(.int (p0.toUInt32 >>> (p1 &&& 31).toUInt32).toInt32)])
  refine Fini.st (fun _ k => XS.iconst X0.here hx rfl (hb hby d1_3) k) ?_
  show Fini p e below s _ _ _ s₁ (mkF m 4 #[.val (.int p0), .val (.int p1)] [(.int (1 : Int32)), (.int (p0.toUInt32 >>> (p1 &&& 31).toUInt32).toInt32)])
  refine Fini.st (fun _ k => XS.iand X0.here hx rfl (hb hby d1_4) rfl k) ?_
  show Fini p e below s _ _ _ s₁ (mkF m 5 #[.val (.int p0), .val (.int p1)] [(.int ((p0.toUInt32 >>> (p1 &&& 31).toUInt32).toInt32 &&& (1 : Int32)))])
  by_cases c1 : ((p0.toUInt32 >>> (p1 &&& 31).toUInt32).toInt32 &&& (1 : Int32)) = (0 : Int32)
  · have hv2 := hv0.trans (if_pos c1)
    refine Fini.st (fun _ k => XS.ifYes X0.here hx rfl (pc0 := 5) (pc' := 19) rfl (hb hby d1_5) rfl (XT.i0_eq_t c1) (by decide) (by decide) k) ?_
    show Fini p e below s _ _ _ s₁ (mkF m 19 #[.val (.int p0), .val (.int p1)] [])
    refine Fini.st (fun _ k => XS.lconst X0.here hx rfl (hb hby d1_19) k) ?_
    show Fini p e below s _ _ _ s₁ (mkF m 20 #[.val (.int p0), .val (.int p1)] [(.long (0 : Int64))])
    exact Fini.retJ X0 hx hlk Bd.returns (hb hby d1_20) (by decide) (by decide) ⟨congrArg (fun z => some (Value.long z)) hv2.symm, e0, rfl⟩
  · have hv3 := hv0.trans (if_neg c1)
    refine Fini.st (fun _ k => XS.ifNo X0.here hx rfl (hb hby d1_5) rfl (XT.i0_eq_f c1) k) ?_
    show Fini p e below s _ _ _ s₁ (mkF m 8 #[.val (.int p0), .val (.int p1)] [])
    refine Fini.st (fun _ k => X0.ldc2J hx hown (mvT hZ (hw _ (List.mem_of_getElem? (i := 5) rfl))) rfl (hb hby d1_8) k) ?_
    show Fini p e below s _ _ _ s₁ (mkF m 11 #[.val (.int p0), .val (.int p1)] [(.long (255 : Int64))])
    refine Fini.st (fun _ k => XS.bipush X0.here hx rfl (hb hby d1_11) k) ?_
    show Fini p e below s _ _ _ s₁ (mkF m 13 #[.val (.int p0), .val (.int p1)] [(.int (8 : Int32)), (.long (255 : Int64))])
    refine Fini.st (fun _ k => XS.iloadN X0.here hx rfl (hb hby d1_13) rfl k) ?_
    show Fini p e below s _ _ _ s₁ (mkF m 14 #[.val (.int p0), .val (.int p1)] [(.int p1), (.int (8 : Int32)), (.long (255 : Int64))])
    refine Fini.st (fun _ k => XS.imul X0.here hx rfl (hb hby d1_14) rfl k) ?_
    show Fini p e below s _ _ _ s₁ (mkF m 15 #[.val (.int p0), .val (.int p1)] [(.int ((8 : Int32) * p1)), (.long (255 : Int64))])
    refine Fini.st (fun _ k => XS.lshl X0.here hx rfl (hb hby d1_15) rfl k) ?_
    show Fini p e below s _ _ _ s₁ (mkF m 16 #[.val (.int p0), .val (.int p1)] [(.long ((255 : Int64) <<< (((8 : Int32) * p1) &&& 0x3f).toInt64))])
    refine Fini.st (fun _ k => XS.goto X0.here hx rfl (pc0 := 16) (pc' := 20) rfl (hb hby d1_16) (by decide) (by decide) k) ?_
    show Fini p e below s _ _ _ s₁ (mkF m 20 #[.val (.int p0), .val (.int p1)] [(.long ((255 : Int64) <<< (((8 : Int32) * p1) &&& 0x3f).toInt64))])
    exact Fini.retJ X0 hx hlk Bd.returns (hb hby d1_20) (by decide) (by decide) ⟨congrArg (fun z => some (Value.long z)) hv3.symm, e0, rfl⟩
theorem d2_0 : decode prog_9_method_4_code 0 = .ok (.lload_n 0, 1) := by decide +kernel
theorem d2_1 : decode prog_9_method_4_code 1 = .ok (.lload_n 2, 1) := by decide +kernel
theorem d2_2 : decode prog_9_method_4_code 2 = .ok (.lxor, 1) := by decide +kernel
theorem d2_3 : decode prog_9_method_4_code 3 = .ok (.lstore 4, 2) := by decide +kernel
theorem d2_5 : decode prog_9_method_4_code 5 = .ok (.lload 4, 2) := by decide +kernel
theorem d2_7 : decode prog_9_method_4_code 7 = .ok (.ldc2_w 29, 3) := by decide +kernel
theorem d2_10 : decode prog_9_method_4_code 10 = .ok (.lsub, 1) := by decide +kernel
theorem d2_11 : decode prog_9_method_4_code 11 = .ok (.lload 4, 2) := by decide +kernel
theorem d2_13 : decode prog_9_method_4_code 13 = .ok (.ldc2_w 31, 3) := by decide +kernel
theorem d2_16 : decode prog_9_method_4_code 16 = .ok (.lxor, 1) := by decide +kernel
theorem d2_17 : decode prog_9_method_4_code 17 = .ok (.land, 1) := by decide +kernel
theorem d2_18 : decode prog_9_method_4_code 18 = .ok (.ldc2_w 33, 3) := by decide +kernel
theorem d2_21 : decode prog_9_method_4_code 21 = .ok (.land, 1) := by decide +kernel
theorem d2_22 : decode prog_9_method_4_code 22 = .ok (.lreturn, 1) := by decide +kernel
theorem pn_1 : plainName "com/example/bounds/bounds/json/Words" = true := by first | (simp [plainName, overriddenIn]; done) | decide +kernel
theorem ef2 (m : MethodId) (x0 : Int64) (x1 : Int64) : entryFrame m #[(.long x0), (.long x1)] 6 = mkF m 0 #[.val (.long x0), .second, .val (.long x1), .second, .unset, .unset] [] := by first | (simp [entryFrame, mkF, argsToLocals, Value.category]; done) | rfl
def f2 (q0 : Int64) (q1 : Int64) : Int64 := ((((q0 ^^^ q1) - (72340172838076673 : Int64)) &&& ((q0 ^^^ q1) ^^^ (-1 : Int64))) &&& (-9187201950435737472 : Int64))
set_option maxRecDepth 65536 in
set_option maxHeartbeats 40000000 in
theorem rm2 (l : Launch) (Z : State) (a0 : Array Value) (hw : ∀ d ∈ tables_1, d.before a0 Z = true) (ws : List Jvm.Cond) (q0 : Int64) (q1 : Int64) (h0 : Heap) :
    Cmet l Z (⟨"com/example/bounds/bounds/json/Words", "equal", "(JJ)J"⟩ : MethodName) prog_9_method_4_code 6 (some .long) ws ({ frames := 0, cells := 0, slots := 0, locals := 0 } : Room) #[(.long q0), (.long q1)] h0 (fun v h' L => v = some (.long (f2 q0 q1)) ∧ h' = h0 ∧ L = []) := by
  refine MetFree.of_bodySF (plainFor_of_name pn_1) hisR ?_
  intro p e s m args below meth c s₁ Bd hml0 hP hK
  obtain ⟨rfl, hZ, hh⟩ := hP
  have hx := Bd.exec
  have hlk : meth.locks = false := BodyLoose.notSynchronized Bd
  have hby := Bd.bytes
  have hml : c.maxLocals = 6 := hml0
  have hown : s.vm.findClass "com/example/bounds/bounds/json/Words" = some m.cls := findClass_of_methodNamed Bd.named
  have hnm := (name_of_methodNamed Bd.named Bd.method).1
  have X0 : Stand p l e ({ frames := 0, cells := 0, slots := 0, locals := 0 } : Room) s m #[(.long q0), (.long q1)] below meth c s₁ [] 0 0 := Stand.of_body Bd
  have e0 : s₁.heap = h0 := by rw [← hh, Bd.state]; rfl
  have hv0 : f2 q0 q1 = f2 q0 q1 := rfl
  show Fini p e below s (fun v h' L => v = some (.long (f2 q0 q1)) ∧ h' = h0 ∧ L = []) _ _ s₁ (entryFrame m #[(.long q0), (.long q1)] 6)
  refine Fini.cast (ef2 m q0 q1) ?_
  show Fini p e below s _ _ _ s₁ (mkF m 0 #[.val (.long q0), .second, .val (.long q1), .second, .unset, .unset] [])
  refine Fini.st (fun _ k => XS.lloadN X0.here hx rfl (hb hby d2_0) rfl k) ?_
  show Fini p e below s _ _ _ s₁ (mkF m 1 #[.val (.long q0), .second, .val (.long q1), .second, .unset, .unset] [(.long q0)])
  refine Fini.st (fun _ k => XS.lloadN X0.here hx rfl (hb hby d2_1) rfl k) ?_
  show Fini p e below s _ _ _ s₁ (mkF m 2 #[.val (.long q0), .second, .val (.long q1), .second, .unset, .unset] [(.long q1), (.long q0)])
  refine Fini.st (fun _ k => XS.lxor X0.here hx rfl (hb hby d2_2) rfl k) ?_
  show Fini p e below s _ _ _ s₁ (mkF m 3 #[.val (.long q0), .second, .val (.long q1), .second, .unset, .unset] [(.long (q0 ^^^ q1))])
  refine Fini.st (fun _ k => XS.lstore X0.here hx rfl (hb hby d2_3) rfl (l' := #[.val (.long q0), .second, .val (.long q1), .second, .val (.long (q0 ^^^ q1)), .second]) rfl k) ?_
  show Fini p e below s _ _ _ s₁ (mkF m 5 #[.val (.long q0), .second, .val (.long q1), .second, .val (.long (q0 ^^^ q1)), .second] [])
  refine Fini.st (fun _ k => XS.lload X0.here hx rfl (hb hby d2_5) rfl k) ?_
  show Fini p e below s _ _ _ s₁ (mkF m 7 #[.val (.long q0), .second, .val (.long q1), .second, .val (.long (q0 ^^^ q1)), .second] [(.long (q0 ^^^ q1))])
  refine Fini.st (fun _ k => X0.ldc2J hx hown (mvT hZ (hw _ (List.mem_of_getElem? (i := 11) rfl))) rfl (hb hby d2_7) k) ?_
  show Fini p e below s _ _ _ s₁ (mkF m 10 #[.val (.long q0), .second, .val (.long q1), .second, .val (.long (q0 ^^^ q1)), .second] [(.long (72340172838076673 : Int64)), (.long (q0 ^^^ q1))])
  refine Fini.st (fun _ k => XS.lsub X0.here hx rfl (hb hby d2_10) rfl k) ?_
  show Fini p e below s _ _ _ s₁ (mkF m 11 #[.val (.long q0), .second, .val (.long q1), .second, .val (.long (q0 ^^^ q1)), .second] [(.long ((q0 ^^^ q1) - (72340172838076673 : Int64)))])
  refine Fini.st (fun _ k => XS.lload X0.here hx rfl (hb hby d2_11) rfl k) ?_
  show Fini p e below s _ _ _ s₁ (mkF m 13 #[.val (.long q0), .second, .val (.long q1), .second, .val (.long (q0 ^^^ q1)), .second] [(.long (q0 ^^^ q1)), (.long ((q0 ^^^ q1) - (72340172838076673 : Int64)))])
  refine Fini.st (fun _ k => X0.ldc2J hx hown (mvT hZ (hw _ (List.mem_of_getElem? (i := 12) rfl))) rfl (hb hby d2_13) k) ?_
  show Fini p e below s _ _ _ s₁ (mkF m 16 #[.val (.long q0), .second, .val (.long q1), .second, .val (.long (q0 ^^^ q1)), .second] [(.long (-1 : Int64)), (.long (q0 ^^^ q1)), (.long ((q0 ^^^ q1) - (72340172838076673 : Int64)))])
  refine Fini.st (fun _ k => XS.lxor X0.here hx rfl (hb hby d2_16) rfl k) ?_
  show Fini p e below s _ _ _ s₁ (mkF m 17 #[.val (.long q0), .second, .val (.long q1), .second, .val (.long (q0 ^^^ q1)), .second] [(.long ((q0 ^^^ q1) ^^^ (-1 : Int64))), (.long ((q0 ^^^ q1) - (72340172838076673 : Int64)))])
  refine Fini.st (fun _ k => XS.land X0.here hx rfl (hb hby d2_17) rfl k) ?_
  show Fini p e below s _ _ _ s₁ (mkF m 18 #[.val (.long q0), .second, .val (.long q1), .second, .val (.long (q0 ^^^ q1)), .second] [(.long (((q0 ^^^ q1) - (72340172838076673 : Int64)) &&& ((q0 ^^^ q1) ^^^ (-1 : Int64))))])
  refine Fini.st (fun _ k => X0.ldc2J hx hown (mvT hZ (hw _ (List.mem_of_getElem? (i := 13) rfl))) rfl (hb hby d2_18) k) ?_
  show Fini p e below s _ _ _ s₁ (mkF m 21 #[.val (.long q0), .second, .val (.long q1), .second, .val (.long (q0 ^^^ q1)), .second] [(.long (-9187201950435737472 : Int64)), (.long (((q0 ^^^ q1) - (72340172838076673 : Int64)) &&& ((q0 ^^^ q1) ^^^ (-1 : Int64))))])
  refine Fini.st (fun _ k => XS.land X0.here hx rfl (hb hby d2_21) rfl k) ?_
  show Fini p e below s _ _ _ s₁ (mkF m 22 #[.val (.long q0), .second, .val (.long q1), .second, .val (.long (q0 ^^^ q1)), .second] [(.long ((((q0 ^^^ q1) - (72340172838076673 : Int64)) &&& ((q0 ^^^ q1) ^^^ (-1 : Int64))) &&& (-9187201950435737472 : Int64)))])
  exact Fini.retJ X0 hx hlk Bd.returns (hb hby d2_22) (by decide) (by decide) ⟨congrArg (fun z => some (Value.long z)) hv0.symm, e0, rfl⟩
theorem d3_0 : decode method_3_code 0 = .ok (.lload_n 0, 1) := by decide +kernel
theorem d3_1 : decode method_3_code 1 = .ok (.bipush 8, 2) := by decide +kernel
theorem d3_3 : decode method_3_code 3 = .ok (.iload 4, 2) := by decide +kernel
theorem d3_5 : decode method_3_code 5 = .ok (.imul, 1) := by decide +kernel
theorem d3_6 : decode method_3_code 6 = .ok (.lushr, 1) := by decide +kernel
theorem d3_7 : decode method_3_code 7 = .ok (.ldc2_w 29, 3) := by decide +kernel
theorem d3_10 : decode method_3_code 10 = .ok (.land, 1) := by decide +kernel
theorem d3_11 : decode method_3_code 11 = .ok (.lload_n 2, 1) := by decide +kernel
theorem d3_12 : decode method_3_code 12 = .ok (.lcmp, 1) := by decide +kernel
theorem d3_13 : decode method_3_code 13 = .ok (.ifCond .ne 15, 3) := by decide +kernel
theorem d3_16 : decode method_3_code 16 = .ok (.ldc2_w 31, 3) := by decide +kernel
theorem d3_19 : decode method_3_code 19 = .ok (.bipush 8, 2) := by decide +kernel
theorem d3_21 : decode method_3_code 21 = .ok (.iload 4, 2) := by decide +kernel
theorem d3_23 : decode method_3_code 23 = .ok (.imul, 1) := by decide +kernel
theorem d3_24 : decode method_3_code 24 = .ok (.lshl, 1) := by decide +kernel
theorem d3_25 : decode method_3_code 25 = .ok (.goto 4, 3) := by decide +kernel
theorem d3_28 : decode method_3_code 28 = .ok (.lconst 0, 1) := by decide +kernel
theorem d3_29 : decode method_3_code 29 = .ok (.lreturn, 1) := by decide +kernel
theorem ef3 (m : MethodId) (x0 : Int64) (x1 : Int64) (x2 : Int32) : entryFrame m #[(.long x0), (.long x1), (.int x2)] 5 = mkF m 0 #[.val (.long x0), .second, .val (.long x1), .second, .val (.int x2)] [] := by first | (simp [entryFrame, mkF, argsToLocals, Value.category]; done) | rfl
def f3 (q0 : Int64) (q1 : Int64) (p2 : Int32) : Int64 := (if ((q0.toUInt64 >>> (((8 : Int32) * p2) &&& 0x3f).toInt64.toUInt64).toInt64 &&& (255 : Int64)) = q1 then ((128 : Int64) <<< (((8 : Int32) * p2) &&& 0x3f).toInt64) else (0 : Int64))
set_option maxRecDepth 65536 in
set_option maxHeartbeats 40000000 in
theorem rm3 (l : Launch) (Z : State) (a0 : Array Value) (hw : ∀ d ∈ tables_1, d.before a0 Z = true) (ws : List Jvm.Cond) (q0 : Int64) (q1 : Int64) (p2 : Int32) (h0 : Heap) :
    Cmet l Z (⟨"com/example/bounds/bounds/json/WordsEqualPinLaw", "mark", "(JJI)J"⟩ : MethodName) method_3_code 5 (some .long) ws ({ frames := 0, cells := 0, slots := 0, locals := 0 } : Room) #[(.long q0), (.long q1), (.int p2)] h0 (fun v h' L => v = some (.long (f3 q0 q1 p2)) ∧ h' = h0 ∧ L = []) := by
  refine MetFree.of_bodySF (plainFor_of_name pn_0) hisR ?_
  intro p e s m args below meth c s₁ Bd hml0 hP hK
  obtain ⟨rfl, hZ, hh⟩ := hP
  have hx := Bd.exec
  have hlk : meth.locks = false := BodyLoose.notSynchronized Bd
  have hby := Bd.bytes
  have hml : c.maxLocals = 5 := hml0
  have hown : s.vm.findClass "com/example/bounds/bounds/json/WordsEqualPinLaw" = some m.cls := findClass_of_methodNamed Bd.named
  have hnm := (name_of_methodNamed Bd.named Bd.method).1
  have X0 : Stand p l e ({ frames := 0, cells := 0, slots := 0, locals := 0 } : Room) s m #[(.long q0), (.long q1), (.int p2)] below meth c s₁ [] 0 0 := Stand.of_body Bd
  have e0 : s₁.heap = h0 := by rw [← hh, Bd.state]; rfl
  have hv0 : f3 q0 q1 p2 = f3 q0 q1 p2 := rfl
  show Fini p e below s (fun v h' L => v = some (.long (f3 q0 q1 p2)) ∧ h' = h0 ∧ L = []) _ _ s₁ (entryFrame m #[(.long q0), (.long q1), (.int p2)] 5)
  refine Fini.cast (ef3 m q0 q1 p2) ?_
  show Fini p e below s _ _ _ s₁ (mkF m 0 #[.val (.long q0), .second, .val (.long q1), .second, .val (.int p2)] [])
  refine Fini.st (fun _ k => XS.lloadN X0.here hx rfl (hb hby d3_0) rfl k) ?_
  show Fini p e below s _ _ _ s₁ (mkF m 1 #[.val (.long q0), .second, .val (.long q1), .second, .val (.int p2)] [(.long q0)])
  refine Fini.st (fun _ k => XS.bipush X0.here hx rfl (hb hby d3_1) k) ?_
  show Fini p e below s _ _ _ s₁ (mkF m 3 #[.val (.long q0), .second, .val (.long q1), .second, .val (.int p2)] [(.int (8 : Int32)), (.long q0)])
  refine Fini.st (fun _ k => XS.iload X0.here hx rfl (hb hby d3_3) rfl k) ?_
  show Fini p e below s _ _ _ s₁ (mkF m 5 #[.val (.long q0), .second, .val (.long q1), .second, .val (.int p2)] [(.int p2), (.int (8 : Int32)), (.long q0)])
  refine Fini.st (fun _ k => XS.imul X0.here hx rfl (hb hby d3_5) rfl k) ?_
  show Fini p e below s _ _ _ s₁ (mkF m 6 #[.val (.long q0), .second, .val (.long q1), .second, .val (.int p2)] [(.int ((8 : Int32) * p2)), (.long q0)])
  refine Fini.st (fun _ k => XS.lushr X0.here hx rfl (hb hby d3_6) rfl k) ?_
  show Fini p e below s _ _ _ s₁ (mkF m 7 #[.val (.long q0), .second, .val (.long q1), .second, .val (.int p2)] [(.long (q0.toUInt64 >>> (((8 : Int32) * p2) &&& 0x3f).toInt64.toUInt64).toInt64)])
  refine Fini.st (fun _ k => X0.ldc2J hx hown (mvT hZ (hw _ (List.mem_of_getElem? (i := 5) rfl))) rfl (hb hby d3_7) k) ?_
  show Fini p e below s _ _ _ s₁ (mkF m 10 #[.val (.long q0), .second, .val (.long q1), .second, .val (.int p2)] [(.long (255 : Int64)), (.long (q0.toUInt64 >>> (((8 : Int32) * p2) &&& 0x3f).toInt64.toUInt64).toInt64)])
  refine Fini.st (fun _ k => XS.land X0.here hx rfl (hb hby d3_10) rfl k) ?_
  show Fini p e below s _ _ _ s₁ (mkF m 11 #[.val (.long q0), .second, .val (.long q1), .second, .val (.int p2)] [(.long ((q0.toUInt64 >>> (((8 : Int32) * p2) &&& 0x3f).toInt64.toUInt64).toInt64 &&& (255 : Int64)))])
  refine Fini.st (fun _ k => XS.lloadN X0.here hx rfl (hb hby d3_11) rfl k) ?_
  show Fini p e below s _ _ _ s₁ (mkF m 12 #[.val (.long q0), .second, .val (.long q1), .second, .val (.int p2)] [(.long q1), (.long ((q0.toUInt64 >>> (((8 : Int32) * p2) &&& 0x3f).toInt64.toUInt64).toInt64 &&& (255 : Int64)))])
  refine Fini.st (fun _ k => XT.lcmp X0.here hx rfl (hb hby d3_12) rfl k) ?_
  show Fini p e below s _ _ _ s₁ (mkF m 13 #[.val (.long q0), .second, .val (.long q1), .second, .val (.int p2)] [(.int (XT.cmpL ((q0.toUInt64 >>> (((8 : Int32) * p2) &&& 0x3f).toInt64.toUInt64).toInt64 &&& (255 : Int64)) q1))])
  by_cases c1 : ((q0.toUInt64 >>> (((8 : Int32) * p2) &&& 0x3f).toInt64.toUInt64).toInt64 &&& (255 : Int64)) = q1
  · have hv2 := hv0.trans (if_pos c1)
    refine Fini.st (fun _ k => XS.ifNo X0.here hx rfl (hb hby d3_13) rfl (XT.ll_ne_f c1) k) ?_
    show Fini p e below s _ _ _ s₁ (mkF m 16 #[.val (.long q0), .second, .val (.long q1), .second, .val (.int p2)] [])
    refine Fini.st (fun _ k => X0.ldc2J hx hown (mvT hZ (hw _ (List.mem_of_getElem? (i := 17) rfl))) rfl (hb hby d3_16) k) ?_
    show Fini p e below s _ _ _ s₁ (mkF m 19 #[.val (.long q0), .second, .val (.long q1), .second, .val (.int p2)] [(.long (128 : Int64))])
    refine Fini.st (fun _ k => XS.bipush X0.here hx rfl (hb hby d3_19) k) ?_
    show Fini p e below s _ _ _ s₁ (mkF m 21 #[.val (.long q0), .second, .val (.long q1), .second, .val (.int p2)] [(.int (8 : Int32)), (.long (128 : Int64))])
    refine Fini.st (fun _ k => XS.iload X0.here hx rfl (hb hby d3_21) rfl k) ?_
    show Fini p e below s _ _ _ s₁ (mkF m 23 #[.val (.long q0), .second, .val (.long q1), .second, .val (.int p2)] [(.int p2), (.int (8 : Int32)), (.long (128 : Int64))])
    refine Fini.st (fun _ k => XS.imul X0.here hx rfl (hb hby d3_23) rfl k) ?_
    show Fini p e below s _ _ _ s₁ (mkF m 24 #[.val (.long q0), .second, .val (.long q1), .second, .val (.int p2)] [(.int ((8 : Int32) * p2)), (.long (128 : Int64))])
    refine Fini.st (fun _ k => XS.lshl X0.here hx rfl (hb hby d3_24) rfl k) ?_
    show Fini p e below s _ _ _ s₁ (mkF m 25 #[.val (.long q0), .second, .val (.long q1), .second, .val (.int p2)] [(.long ((128 : Int64) <<< (((8 : Int32) * p2) &&& 0x3f).toInt64))])
    refine Fini.st (fun _ k => XS.goto X0.here hx rfl (pc0 := 25) (pc' := 29) rfl (hb hby d3_25) (by decide) (by decide) k) ?_
    show Fini p e below s _ _ _ s₁ (mkF m 29 #[.val (.long q0), .second, .val (.long q1), .second, .val (.int p2)] [(.long ((128 : Int64) <<< (((8 : Int32) * p2) &&& 0x3f).toInt64))])
    exact Fini.retJ X0 hx hlk Bd.returns (hb hby d3_29) (by decide) (by decide) ⟨congrArg (fun z => some (Value.long z)) hv2.symm, e0, rfl⟩
  · have hv3 := hv0.trans (if_neg c1)
    refine Fini.st (fun _ k => XS.ifYes X0.here hx rfl (pc0 := 13) (pc' := 28) rfl (hb hby d3_13) rfl (XT.ll_ne_t c1) (by decide) (by decide) k) ?_
    show Fini p e below s _ _ _ s₁ (mkF m 28 #[.val (.long q0), .second, .val (.long q1), .second, .val (.int p2)] [])
    refine Fini.st (fun _ k => XS.lconst X0.here hx rfl (hb hby d3_28) k) ?_
    show Fini p e below s _ _ _ s₁ (mkF m 29 #[.val (.long q0), .second, .val (.long q1), .second, .val (.int p2)] [(.long (0 : Int64))])
    exact Fini.retJ X0 hx hlk Bd.returns (hb hby d3_29) (by decide) (by decide) ⟨congrArg (fun z => some (Value.long z)) hv3.symm, e0, rfl⟩
theorem pd_0 : parseMethodDescriptor "(II)J" = some ⟨[.int, .int], some .long⟩ := by decide +kernel
theorem pd_1 : parseMethodDescriptor "(JJ)J" = some ⟨[.long, .long], some .long⟩ := by decide +kernel
theorem pd_2 : parseMethodDescriptor "(JJI)J" = some ⟨[.long, .long, .int], some .long⟩ := by decide +kernel
theorem ef0 (m : MethodId) (x0 : Int64) (x1 : Int32) (x2 : Int32) : entryFrame m #[(.long x0), (.int x1), (.int x2)] maxLocals = mkF m 0 #[.val (.long x0), .second, .val (.int x1), .val (.int x2), .unset, .unset, .unset, .unset, .unset, .unset, .unset, .unset, .unset, .unset, .unset, .unset, .unset, .unset, .unset, .unset, .unset, .unset, .unset] [] := by first | (simp [entryFrame, mkF, argsToLocals, Value.category, maxLocals]; done) | rfl
def g0_65 (p2 : Int32) : Int64 := ((((((((f1 p2 (0 : Int32)) ||| (f1 p2 (1 : Int32))) ||| (f1 p2 (2 : Int32))) ||| (f1 p2 (3 : Int32))) ||| (f1 p2 (4 : Int32))) ||| (f1 p2 (5 : Int32))) ||| (f1 p2 (6 : Int32))) ||| (f1 p2 (7 : Int32)))
def g0_81 (q0 : Int64) (p1 : Int32) (p2 : Int32) : Int64 := ((q0 &&& ((g0_65 p2) ^^^ (-1 : Int64))) ||| (((72340172838076673 : Int64) * (p1 &&& (255 : Int32)).toInt64) &&& (g0_65 p2)))
def g0_165 (q0 : Int64) (p1 : Int32) (p2 : Int32) : Int64 := ((((((((f3 (g0_81 q0 p1 p2) ((p1 &&& (255 : Int32)).toInt64) (0 : Int32)) ||| (f3 (g0_81 q0 p1 p2) ((p1 &&& (255 : Int32)).toInt64) (1 : Int32))) ||| (f3 (g0_81 q0 p1 p2) ((p1 &&& (255 : Int32)).toInt64) (2 : Int32))) ||| (f3 (g0_81 q0 p1 p2) ((p1 &&& (255 : Int32)).toInt64) (3 : Int32))) ||| (f3 (g0_81 q0 p1 p2) ((p1 &&& (255 : Int32)).toInt64) (4 : Int32))) ||| (f3 (g0_81 q0 p1 p2) ((p1 &&& (255 : Int32)).toInt64) (5 : Int32))) ||| (f3 (g0_81 q0 p1 p2) ((p1 &&& (255 : Int32)).toInt64) (6 : Int32))) ||| (f3 (g0_81 q0 p1 p2) ((p1 &&& (255 : Int32)).toInt64) (7 : Int32)))
def g0_182 (q0 : Int64) (p1 : Int32) (p2 : Int32) : Int64 := ((((g0_165 q0 p1 p2) &&& (-(g0_165 q0 p1 p2))) - (1 : Int64)) ||| ((g0_165 q0 p1 p2) &&& (-(g0_165 q0 p1 p2))))
def f0_239 (q0 : Int64) (p1 : Int32) (p2 : Int32) (z239_s0 : Int32) (z200_s0 : Int32) (z218_s0 : Int32) : Int32 := (if z200_s0 = (0 : Int32) then (0 : Int32) else (if z218_s0 = (0 : Int32) then (0 : Int32) else (if z239_s0 = (0 : Int32) then (0 : Int32) else (1 : Int32))))
def f0_218 (q0 : Int64) (p1 : Int32) (p2 : Int32) (z218_s0 : Int32) (z200_s0 : Int32) : Int32 := (if ((f2 (g0_81 q0 p1 p2) ((72340172838076673 : Int64) * (p1 &&& (255 : Int32)).toInt64)) &&& (g0_182 q0 p1 p2)) = ((g0_165 q0 p1 p2) &&& (g0_182 q0 p1 p2)) then (f0_239 q0 p1 p2 (1 : Int32) z200_s0 z218_s0) else (f0_239 q0 p1 p2 (0 : Int32) z200_s0 z218_s0))
def f0_200 (q0 : Int64) (p1 : Int32) (p2 : Int32) (z200_s0 : Int32) : Int32 := (if ((f2 (g0_81 q0 p1 p2) ((72340172838076673 : Int64) * (p1 &&& (255 : Int32)).toInt64)) &&& (g0_165 q0 p1 p2)) = (g0_165 q0 p1 p2) then (f0_218 q0 p1 p2 (1 : Int32) z200_s0) else (f0_218 q0 p1 p2 (0 : Int32) z200_s0))
def f0 (q0 : Int64) (p1 : Int32) (p2 : Int32) : Int32 := (if ((f2 (g0_81 q0 p1 p2) ((72340172838076673 : Int64) * (p1 &&& (255 : Int32)).toInt64)) &&& (9187201950435737471 : Int64)) = (0 : Int64) then (f0_200 q0 p1 p2 (1 : Int32)) else (f0_200 q0 p1 p2 (0 : Int32)))
set_option maxRecDepth 65536 in
set_option maxHeartbeats 40000000 in
theorem rm0 (l : Launch) (Z : State) (a0 : Array Value) (hw : ∀ d ∈ tables_1, d.before a0 Z = true) (ws : List Jvm.Cond) (q0 : Int64) (p1 : Int32) (p2 : Int32) (h0 : Heap) :
    Cmet l Z x code maxLocals ret ws room_1 #[(.long q0), (.int p1), (.int p2)] h0 (fun v h' L => v = some (.int (f0 q0 p1 p2)) ∧ h' = h0 ∧ L = []) := by
  refine MetFree.of_bodySF (plainFor_of_name pn_0) hisR ?_
  intro p e s m args below meth c s₁ Bd hml0 hP hK
  obtain ⟨rfl, hZ, hh⟩ := hP
  have hx := Bd.exec
  have hlk : meth.locks = false := BodyLoose.notSynchronized Bd
  have hby := Bd.bytes
  have hml : c.maxLocals = 23 := hml0
  have hown : s.vm.findClass "com/example/bounds/bounds/json/WordsEqualPinLaw" = some m.cls := findClass_of_methodNamed Bd.named
  have hnm := (name_of_methodNamed Bd.named Bd.method).1
  have X0 : Stand p l e room_1 s m #[(.long q0), (.int p1), (.int p2)] below meth c s₁ [] 0 0 := Stand.of_body Bd
  have e0 : s₁.heap = h0 := by rw [← hh, Bd.state]; rfl
  have hv0 : f0 q0 p1 p2 = f0 q0 p1 p2 := rfl
  have B239 : ∀ (T_239 : State) (X_239 : Stand p l e room_1 s m #[(.long q0), (.int p1), (.int p2)] below meth c T_239 [] 0 0) (e_239 : T_239.heap = h0) (z239_s0 : Int32) (z200_s0 : Int32) (z218_s0 : Int32), f0 q0 p1 p2 = f0_239 q0 p1 p2 z239_s0 z200_s0 z218_s0 → Fini p e below s (fun v h' L => v = some (.int (f0 q0 p1 p2)) ∧ h' = h0 ∧ L = []) (Room.cells room_1) (Room.slots room_1) T_239 (mkF m 239 #[.val (.long q0), .second, .val (.int p1), .val (.int p2), .val (.long (p1 &&& (255 : Int32)).toInt64), .second, .val (.long ((72340172838076673 : Int64) * (p1 &&& (255 : Int32)).toInt64)), .second, .val (.long (g0_65 p2)), .second, .val (.long (g0_81 q0 p1 p2)), .second, .val (.long (f2 (g0_81 q0 p1 p2) ((72340172838076673 : Int64) * (p1 &&& (255 : Int32)).toInt64))), .second, .val (.long (g0_165 q0 p1 p2)), .second, .val (.long ((g0_165 q0 p1 p2) &&& (-(g0_165 q0 p1 p2)))), .second, .val (.long (g0_182 q0 p1 p2)), .second, .val (.int z200_s0), .val (.int z218_s0), .unset] [(.int z239_s0)]) := by
    intro T_239 X_239 e_239 z239_s0 z200_s0 z218_s0 hv_239
    refine Fini.st (fun _ k => XS.istore X_239.here hx rfl (hb hby at_239) rfl (l' := #[.val (.long q0), .second, .val (.int p1), .val (.int p2), .val (.long (p1 &&& (255 : Int32)).toInt64), .second, .val (.long ((72340172838076673 : Int64) * (p1 &&& (255 : Int32)).toInt64)), .second, .val (.long (g0_65 p2)), .second, .val (.long (g0_81 q0 p1 p2)), .second, .val (.long (f2 (g0_81 q0 p1 p2) ((72340172838076673 : Int64) * (p1 &&& (255 : Int32)).toInt64))), .second, .val (.long (g0_165 q0 p1 p2)), .second, .val (.long ((g0_165 q0 p1 p2) &&& (-(g0_165 q0 p1 p2)))), .second, .val (.long (g0_182 q0 p1 p2)), .second, .val (.int z200_s0), .val (.int z218_s0), .val (.int z239_s0)]) rfl k) ?_
    show Fini p e below s _ _ _ T_239 (mkF m 241 #[.val (.long q0), .second, .val (.int p1), .val (.int p2), .val (.long (p1 &&& (255 : Int32)).toInt64), .second, .val (.long ((72340172838076673 : Int64) * (p1 &&& (255 : Int32)).toInt64)), .second, .val (.long (g0_65 p2)), .second, .val (.long (g0_81 q0 p1 p2)), .second, .val (.long (f2 (g0_81 q0 p1 p2) ((72340172838076673 : Int64) * (p1 &&& (255 : Int32)).toInt64))), .second, .val (.long (g0_165 q0 p1 p2)), .second, .val (.long ((g0_165 q0 p1 p2) &&& (-(g0_165 q0 p1 p2)))), .second, .val (.long (g0_182 q0 p1 p2)), .second, .val (.int z200_s0), .val (.int z218_s0), .val (.int z239_s0)] [])
    refine Fini.st (fun _ k => XS.iload X_239.here hx rfl (hb hby at_241) rfl k) ?_
    show Fini p e below s _ _ _ T_239 (mkF m 243 #[.val (.long q0), .second, .val (.int p1), .val (.int p2), .val (.long (p1 &&& (255 : Int32)).toInt64), .second, .val (.long ((72340172838076673 : Int64) * (p1 &&& (255 : Int32)).toInt64)), .second, .val (.long (g0_65 p2)), .second, .val (.long (g0_81 q0 p1 p2)), .second, .val (.long (f2 (g0_81 q0 p1 p2) ((72340172838076673 : Int64) * (p1 &&& (255 : Int32)).toInt64))), .second, .val (.long (g0_165 q0 p1 p2)), .second, .val (.long ((g0_165 q0 p1 p2) &&& (-(g0_165 q0 p1 p2)))), .second, .val (.long (g0_182 q0 p1 p2)), .second, .val (.int z200_s0), .val (.int z218_s0), .val (.int z239_s0)] [(.int z200_s0)])
    by_cases c27 : z200_s0 = (0 : Int32)
    · have hv28 := hv_239.trans (if_pos c27)
      refine Fini.st (fun _ k => XS.ifYes X_239.here hx rfl (pc0 := 243) (pc' := 260) rfl (hb hby at_243) rfl (XT.i0_eq_t c27) (by decide) (by decide) k) ?_
      show Fini p e below s _ _ _ T_239 (mkF m 260 #[.val (.long q0), .second, .val (.int p1), .val (.int p2), .val (.long (p1 &&& (255 : Int32)).toInt64), .second, .val (.long ((72340172838076673 : Int64) * (p1 &&& (255 : Int32)).toInt64)), .second, .val (.long (g0_65 p2)), .second, .val (.long (g0_81 q0 p1 p2)), .second, .val (.long (f2 (g0_81 q0 p1 p2) ((72340172838076673 : Int64) * (p1 &&& (255 : Int32)).toInt64))), .second, .val (.long (g0_165 q0 p1 p2)), .second, .val (.long ((g0_165 q0 p1 p2) &&& (-(g0_165 q0 p1 p2)))), .second, .val (.long (g0_182 q0 p1 p2)), .second, .val (.int z200_s0), .val (.int z218_s0), .val (.int z239_s0)] [])
      refine Fini.st (fun _ k => XS.iconst X_239.here hx rfl (hb hby at_260) k) ?_
      show Fini p e below s _ _ _ T_239 (mkF m 261 #[.val (.long q0), .second, .val (.int p1), .val (.int p2), .val (.long (p1 &&& (255 : Int32)).toInt64), .second, .val (.long ((72340172838076673 : Int64) * (p1 &&& (255 : Int32)).toInt64)), .second, .val (.long (g0_65 p2)), .second, .val (.long (g0_81 q0 p1 p2)), .second, .val (.long (f2 (g0_81 q0 p1 p2) ((72340172838076673 : Int64) * (p1 &&& (255 : Int32)).toInt64))), .second, .val (.long (g0_165 q0 p1 p2)), .second, .val (.long ((g0_165 q0 p1 p2) &&& (-(g0_165 q0 p1 p2)))), .second, .val (.long (g0_182 q0 p1 p2)), .second, .val (.int z200_s0), .val (.int z218_s0), .val (.int z239_s0)] [(.int (0 : Int32))])
      exact Fini.retN X_239 hx hlk (t := .boolean) Bd.returns (by simp) (hb hby at_261) nb0 (by decide) (by decide) ⟨congrArg (fun z => some (Value.int z)) hv28.symm, e_239, rfl⟩
    · have hv29 := hv_239.trans (if_neg c27)
      refine Fini.st (fun _ k => XS.ifNo X_239.here hx rfl (hb hby at_243) rfl (XT.i0_eq_f c27) k) ?_
      show Fini p e below s _ _ _ T_239 (mkF m 246 #[.val (.long q0), .second, .val (.int p1), .val (.int p2), .val (.long (p1 &&& (255 : Int32)).toInt64), .second, .val (.long ((72340172838076673 : Int64) * (p1 &&& (255 : Int32)).toInt64)), .second, .val (.long (g0_65 p2)), .second, .val (.long (g0_81 q0 p1 p2)), .second, .val (.long (f2 (g0_81 q0 p1 p2) ((72340172838076673 : Int64) * (p1 &&& (255 : Int32)).toInt64))), .second, .val (.long (g0_165 q0 p1 p2)), .second, .val (.long ((g0_165 q0 p1 p2) &&& (-(g0_165 q0 p1 p2)))), .second, .val (.long (g0_182 q0 p1 p2)), .second, .val (.int z200_s0), .val (.int z218_s0), .val (.int z239_s0)] [])
      refine Fini.st (fun _ k => XS.iload X_239.here hx rfl (hb hby at_246) rfl k) ?_
      show Fini p e below s _ _ _ T_239 (mkF m 248 #[.val (.long q0), .second, .val (.int p1), .val (.int p2), .val (.long (p1 &&& (255 : Int32)).toInt64), .second, .val (.long ((72340172838076673 : Int64) * (p1 &&& (255 : Int32)).toInt64)), .second, .val (.long (g0_65 p2)), .second, .val (.long (g0_81 q0 p1 p2)), .second, .val (.long (f2 (g0_81 q0 p1 p2) ((72340172838076673 : Int64) * (p1 &&& (255 : Int32)).toInt64))), .second, .val (.long (g0_165 q0 p1 p2)), .second, .val (.long ((g0_165 q0 p1 p2) &&& (-(g0_165 q0 p1 p2)))), .second, .val (.long (g0_182 q0 p1 p2)), .second, .val (.int z200_s0), .val (.int z218_s0), .val (.int z239_s0)] [(.int z218_s0)])
      by_cases c30 : z218_s0 = (0 : Int32)
      · have hv31 := hv29.trans (if_pos c30)
        refine Fini.st (fun _ k => XS.ifYes X_239.here hx rfl (pc0 := 248) (pc' := 260) rfl (hb hby at_248) rfl (XT.i0_eq_t c30) (by decide) (by decide) k) ?_
        show Fini p e below s _ _ _ T_239 (mkF m 260 #[.val (.long q0), .second, .val (.int p1), .val (.int p2), .val (.long (p1 &&& (255 : Int32)).toInt64), .second, .val (.long ((72340172838076673 : Int64) * (p1 &&& (255 : Int32)).toInt64)), .second, .val (.long (g0_65 p2)), .second, .val (.long (g0_81 q0 p1 p2)), .second, .val (.long (f2 (g0_81 q0 p1 p2) ((72340172838076673 : Int64) * (p1 &&& (255 : Int32)).toInt64))), .second, .val (.long (g0_165 q0 p1 p2)), .second, .val (.long ((g0_165 q0 p1 p2) &&& (-(g0_165 q0 p1 p2)))), .second, .val (.long (g0_182 q0 p1 p2)), .second, .val (.int z200_s0), .val (.int z218_s0), .val (.int z239_s0)] [])
        refine Fini.st (fun _ k => XS.iconst X_239.here hx rfl (hb hby at_260) k) ?_
        show Fini p e below s _ _ _ T_239 (mkF m 261 #[.val (.long q0), .second, .val (.int p1), .val (.int p2), .val (.long (p1 &&& (255 : Int32)).toInt64), .second, .val (.long ((72340172838076673 : Int64) * (p1 &&& (255 : Int32)).toInt64)), .second, .val (.long (g0_65 p2)), .second, .val (.long (g0_81 q0 p1 p2)), .second, .val (.long (f2 (g0_81 q0 p1 p2) ((72340172838076673 : Int64) * (p1 &&& (255 : Int32)).toInt64))), .second, .val (.long (g0_165 q0 p1 p2)), .second, .val (.long ((g0_165 q0 p1 p2) &&& (-(g0_165 q0 p1 p2)))), .second, .val (.long (g0_182 q0 p1 p2)), .second, .val (.int z200_s0), .val (.int z218_s0), .val (.int z239_s0)] [(.int (0 : Int32))])
        exact Fini.retN X_239 hx hlk (t := .boolean) Bd.returns (by simp) (hb hby at_261) nb0 (by decide) (by decide) ⟨congrArg (fun z => some (Value.int z)) hv31.symm, e_239, rfl⟩
      · have hv32 := hv29.trans (if_neg c30)
        refine Fini.st (fun _ k => XS.ifNo X_239.here hx rfl (hb hby at_248) rfl (XT.i0_eq_f c30) k) ?_
        show Fini p e below s _ _ _ T_239 (mkF m 251 #[.val (.long q0), .second, .val (.int p1), .val (.int p2), .val (.long (p1 &&& (255 : Int32)).toInt64), .second, .val (.long ((72340172838076673 : Int64) * (p1 &&& (255 : Int32)).toInt64)), .second, .val (.long (g0_65 p2)), .second, .val (.long (g0_81 q0 p1 p2)), .second, .val (.long (f2 (g0_81 q0 p1 p2) ((72340172838076673 : Int64) * (p1 &&& (255 : Int32)).toInt64))), .second, .val (.long (g0_165 q0 p1 p2)), .second, .val (.long ((g0_165 q0 p1 p2) &&& (-(g0_165 q0 p1 p2)))), .second, .val (.long (g0_182 q0 p1 p2)), .second, .val (.int z200_s0), .val (.int z218_s0), .val (.int z239_s0)] [])
        refine Fini.st (fun _ k => XS.iload X_239.here hx rfl (hb hby at_251) rfl k) ?_
        show Fini p e below s _ _ _ T_239 (mkF m 253 #[.val (.long q0), .second, .val (.int p1), .val (.int p2), .val (.long (p1 &&& (255 : Int32)).toInt64), .second, .val (.long ((72340172838076673 : Int64) * (p1 &&& (255 : Int32)).toInt64)), .second, .val (.long (g0_65 p2)), .second, .val (.long (g0_81 q0 p1 p2)), .second, .val (.long (f2 (g0_81 q0 p1 p2) ((72340172838076673 : Int64) * (p1 &&& (255 : Int32)).toInt64))), .second, .val (.long (g0_165 q0 p1 p2)), .second, .val (.long ((g0_165 q0 p1 p2) &&& (-(g0_165 q0 p1 p2)))), .second, .val (.long (g0_182 q0 p1 p2)), .second, .val (.int z200_s0), .val (.int z218_s0), .val (.int z239_s0)] [(.int z239_s0)])
        by_cases c33 : z239_s0 = (0 : Int32)
        · have hv34 := hv32.trans (if_pos c33)
          refine Fini.st (fun _ k => XS.ifYes X_239.here hx rfl (pc0 := 253) (pc' := 260) rfl (hb hby at_253) rfl (XT.i0_eq_t c33) (by decide) (by decide) k) ?_
          show Fini p e below s _ _ _ T_239 (mkF m 260 #[.val (.long q0), .second, .val (.int p1), .val (.int p2), .val (.long (p1 &&& (255 : Int32)).toInt64), .second, .val (.long ((72340172838076673 : Int64) * (p1 &&& (255 : Int32)).toInt64)), .second, .val (.long (g0_65 p2)), .second, .val (.long (g0_81 q0 p1 p2)), .second, .val (.long (f2 (g0_81 q0 p1 p2) ((72340172838076673 : Int64) * (p1 &&& (255 : Int32)).toInt64))), .second, .val (.long (g0_165 q0 p1 p2)), .second, .val (.long ((g0_165 q0 p1 p2) &&& (-(g0_165 q0 p1 p2)))), .second, .val (.long (g0_182 q0 p1 p2)), .second, .val (.int z200_s0), .val (.int z218_s0), .val (.int z239_s0)] [])
          refine Fini.st (fun _ k => XS.iconst X_239.here hx rfl (hb hby at_260) k) ?_
          show Fini p e below s _ _ _ T_239 (mkF m 261 #[.val (.long q0), .second, .val (.int p1), .val (.int p2), .val (.long (p1 &&& (255 : Int32)).toInt64), .second, .val (.long ((72340172838076673 : Int64) * (p1 &&& (255 : Int32)).toInt64)), .second, .val (.long (g0_65 p2)), .second, .val (.long (g0_81 q0 p1 p2)), .second, .val (.long (f2 (g0_81 q0 p1 p2) ((72340172838076673 : Int64) * (p1 &&& (255 : Int32)).toInt64))), .second, .val (.long (g0_165 q0 p1 p2)), .second, .val (.long ((g0_165 q0 p1 p2) &&& (-(g0_165 q0 p1 p2)))), .second, .val (.long (g0_182 q0 p1 p2)), .second, .val (.int z200_s0), .val (.int z218_s0), .val (.int z239_s0)] [(.int (0 : Int32))])
          exact Fini.retN X_239 hx hlk (t := .boolean) Bd.returns (by simp) (hb hby at_261) nb0 (by decide) (by decide) ⟨congrArg (fun z => some (Value.int z)) hv34.symm, e_239, rfl⟩
        · have hv35 := hv32.trans (if_neg c33)
          refine Fini.st (fun _ k => XS.ifNo X_239.here hx rfl (hb hby at_253) rfl (XT.i0_eq_f c33) k) ?_
          show Fini p e below s _ _ _ T_239 (mkF m 256 #[.val (.long q0), .second, .val (.int p1), .val (.int p2), .val (.long (p1 &&& (255 : Int32)).toInt64), .second, .val (.long ((72340172838076673 : Int64) * (p1 &&& (255 : Int32)).toInt64)), .second, .val (.long (g0_65 p2)), .second, .val (.long (g0_81 q0 p1 p2)), .second, .val (.long (f2 (g0_81 q0 p1 p2) ((72340172838076673 : Int64) * (p1 &&& (255 : Int32)).toInt64))), .second, .val (.long (g0_165 q0 p1 p2)), .second, .val (.long ((g0_165 q0 p1 p2) &&& (-(g0_165 q0 p1 p2)))), .second, .val (.long (g0_182 q0 p1 p2)), .second, .val (.int z200_s0), .val (.int z218_s0), .val (.int z239_s0)] [])
          refine Fini.st (fun _ k => XS.iconst X_239.here hx rfl (hb hby at_256) k) ?_
          show Fini p e below s _ _ _ T_239 (mkF m 257 #[.val (.long q0), .second, .val (.int p1), .val (.int p2), .val (.long (p1 &&& (255 : Int32)).toInt64), .second, .val (.long ((72340172838076673 : Int64) * (p1 &&& (255 : Int32)).toInt64)), .second, .val (.long (g0_65 p2)), .second, .val (.long (g0_81 q0 p1 p2)), .second, .val (.long (f2 (g0_81 q0 p1 p2) ((72340172838076673 : Int64) * (p1 &&& (255 : Int32)).toInt64))), .second, .val (.long (g0_165 q0 p1 p2)), .second, .val (.long ((g0_165 q0 p1 p2) &&& (-(g0_165 q0 p1 p2)))), .second, .val (.long (g0_182 q0 p1 p2)), .second, .val (.int z200_s0), .val (.int z218_s0), .val (.int z239_s0)] [(.int (1 : Int32))])
          refine Fini.st (fun _ k => XS.goto X_239.here hx rfl (pc0 := 257) (pc' := 261) rfl (hb hby at_257) (by decide) (by decide) k) ?_
          show Fini p e below s _ _ _ T_239 (mkF m 261 #[.val (.long q0), .second, .val (.int p1), .val (.int p2), .val (.long (p1 &&& (255 : Int32)).toInt64), .second, .val (.long ((72340172838076673 : Int64) * (p1 &&& (255 : Int32)).toInt64)), .second, .val (.long (g0_65 p2)), .second, .val (.long (g0_81 q0 p1 p2)), .second, .val (.long (f2 (g0_81 q0 p1 p2) ((72340172838076673 : Int64) * (p1 &&& (255 : Int32)).toInt64))), .second, .val (.long (g0_165 q0 p1 p2)), .second, .val (.long ((g0_165 q0 p1 p2) &&& (-(g0_165 q0 p1 p2)))), .second, .val (.long (g0_182 q0 p1 p2)), .second, .val (.int z200_s0), .val (.int z218_s0), .val (.int z239_s0)] [(.int (1 : Int32))])
          exact Fini.retN X_239 hx hlk (t := .boolean) Bd.returns (by simp) (hb hby at_261) nb1 (by decide) (by decide) ⟨congrArg (fun z => some (Value.int z)) hv35.symm, e_239, rfl⟩
  have B218 : ∀ (T_218 : State) (X_218 : Stand p l e room_1 s m #[(.long q0), (.int p1), (.int p2)] below meth c T_218 [] 0 0) (e_218 : T_218.heap = h0) (z218_s0 : Int32) (z200_s0 : Int32), f0 q0 p1 p2 = f0_218 q0 p1 p2 z218_s0 z200_s0 → Fini p e below s (fun v h' L => v = some (.int (f0 q0 p1 p2)) ∧ h' = h0 ∧ L = []) (Room.cells room_1) (Room.slots room_1) T_218 (mkF m 218 #[.val (.long q0), .second, .val (.int p1), .val (.int p2), .val (.long (p1 &&& (255 : Int32)).toInt64), .second, .val (.long ((72340172838076673 : Int64) * (p1 &&& (255 : Int32)).toInt64)), .second, .val (.long (g0_65 p2)), .second, .val (.long (g0_81 q0 p1 p2)), .second, .val (.long (f2 (g0_81 q0 p1 p2) ((72340172838076673 : Int64) * (p1 &&& (255 : Int32)).toInt64))), .second, .val (.long (g0_165 q0 p1 p2)), .second, .val (.long ((g0_165 q0 p1 p2) &&& (-(g0_165 q0 p1 p2)))), .second, .val (.long (g0_182 q0 p1 p2)), .second, .val (.int z200_s0), .unset, .unset] [(.int z218_s0)]) := by
    intro T_218 X_218 e_218 z218_s0 z200_s0 hv_218
    refine Fini.st (fun _ k => XS.istore X_218.here hx rfl (hb hby at_218) rfl (l' := #[.val (.long q0), .second, .val (.int p1), .val (.int p2), .val (.long (p1 &&& (255 : Int32)).toInt64), .second, .val (.long ((72340172838076673 : Int64) * (p1 &&& (255 : Int32)).toInt64)), .second, .val (.long (g0_65 p2)), .second, .val (.long (g0_81 q0 p1 p2)), .second, .val (.long (f2 (g0_81 q0 p1 p2) ((72340172838076673 : Int64) * (p1 &&& (255 : Int32)).toInt64))), .second, .val (.long (g0_165 q0 p1 p2)), .second, .val (.long ((g0_165 q0 p1 p2) &&& (-(g0_165 q0 p1 p2)))), .second, .val (.long (g0_182 q0 p1 p2)), .second, .val (.int z200_s0), .val (.int z218_s0), .unset]) rfl k) ?_
    show Fini p e below s _ _ _ T_218 (mkF m 220 #[.val (.long q0), .second, .val (.int p1), .val (.int p2), .val (.long (p1 &&& (255 : Int32)).toInt64), .second, .val (.long ((72340172838076673 : Int64) * (p1 &&& (255 : Int32)).toInt64)), .second, .val (.long (g0_65 p2)), .second, .val (.long (g0_81 q0 p1 p2)), .second, .val (.long (f2 (g0_81 q0 p1 p2) ((72340172838076673 : Int64) * (p1 &&& (255 : Int32)).toInt64))), .second, .val (.long (g0_165 q0 p1 p2)), .second, .val (.long ((g0_165 q0 p1 p2) &&& (-(g0_165 q0 p1 p2)))), .second, .val (.long (g0_182 q0 p1 p2)), .second, .val (.int z200_s0), .val (.int z218_s0), .unset] [])
    refine Fini.st (fun _ k => XS.lload X_218.here hx rfl (hb hby at_220) rfl k) ?_
    show Fini p e below s _ _ _ T_218 (mkF m 222 #[.val (.long q0), .second, .val (.int p1), .val (.int p2), .val (.long (p1 &&& (255 : Int32)).toInt64), .second, .val (.long ((72340172838076673 : Int64) * (p1 &&& (255 : Int32)).toInt64)), .second, .val (.long (g0_65 p2)), .second, .val (.long (g0_81 q0 p1 p2)), .second, .val (.long (f2 (g0_81 q0 p1 p2) ((72340172838076673 : Int64) * (p1 &&& (255 : Int32)).toInt64))), .second, .val (.long (g0_165 q0 p1 p2)), .second, .val (.long ((g0_165 q0 p1 p2) &&& (-(g0_165 q0 p1 p2)))), .second, .val (.long (g0_182 q0 p1 p2)), .second, .val (.int z200_s0), .val (.int z218_s0), .unset] [(.long (f2 (g0_81 q0 p1 p2) ((72340172838076673 : Int64) * (p1 &&& (255 : Int32)).toInt64)))])
    refine Fini.st (fun _ k => XS.lload X_218.here hx rfl (hb hby at_222) rfl k) ?_
    show Fini p e below s _ _ _ T_218 (mkF m 224 #[.val (.long q0), .second, .val (.int p1), .val (.int p2), .val (.long (p1 &&& (255 : Int32)).toInt64), .second, .val (.long ((72340172838076673 : Int64) * (p1 &&& (255 : Int32)).toInt64)), .second, .val (.long (g0_65 p2)), .second, .val (.long (g0_81 q0 p1 p2)), .second, .val (.long (f2 (g0_81 q0 p1 p2) ((72340172838076673 : Int64) * (p1 &&& (255 : Int32)).toInt64))), .second, .val (.long (g0_165 q0 p1 p2)), .second, .val (.long ((g0_165 q0 p1 p2) &&& (-(g0_165 q0 p1 p2)))), .second, .val (.long (g0_182 q0 p1 p2)), .second, .val (.int z200_s0), .val (.int z218_s0), .unset] [(.long (g0_182 q0 p1 p2)), (.long (f2 (g0_81 q0 p1 p2) ((72340172838076673 : Int64) * (p1 &&& (255 : Int32)).toInt64)))])
    refine Fini.st (fun _ k => XS.land X_218.here hx rfl (hb hby at_224) rfl k) ?_
    show Fini p e below s _ _ _ T_218 (mkF m 225 #[.val (.long q0), .second, .val (.int p1), .val (.int p2), .val (.long (p1 &&& (255 : Int32)).toInt64), .second, .val (.long ((72340172838076673 : Int64) * (p1 &&& (255 : Int32)).toInt64)), .second, .val (.long (g0_65 p2)), .second, .val (.long (g0_81 q0 p1 p2)), .second, .val (.long (f2 (g0_81 q0 p1 p2) ((72340172838076673 : Int64) * (p1 &&& (255 : Int32)).toInt64))), .second, .val (.long (g0_165 q0 p1 p2)), .second, .val (.long ((g0_165 q0 p1 p2) &&& (-(g0_165 q0 p1 p2)))), .second, .val (.long (g0_182 q0 p1 p2)), .second, .val (.int z200_s0), .val (.int z218_s0), .unset] [(.long ((f2 (g0_81 q0 p1 p2) ((72340172838076673 : Int64) * (p1 &&& (255 : Int32)).toInt64)) &&& (g0_182 q0 p1 p2)))])
    refine Fini.st (fun _ k => XS.lload X_218.here hx rfl (hb hby at_225) rfl k) ?_
    show Fini p e below s _ _ _ T_218 (mkF m 227 #[.val (.long q0), .second, .val (.int p1), .val (.int p2), .val (.long (p1 &&& (255 : Int32)).toInt64), .second, .val (.long ((72340172838076673 : Int64) * (p1 &&& (255 : Int32)).toInt64)), .second, .val (.long (g0_65 p2)), .second, .val (.long (g0_81 q0 p1 p2)), .second, .val (.long (f2 (g0_81 q0 p1 p2) ((72340172838076673 : Int64) * (p1 &&& (255 : Int32)).toInt64))), .second, .val (.long (g0_165 q0 p1 p2)), .second, .val (.long ((g0_165 q0 p1 p2) &&& (-(g0_165 q0 p1 p2)))), .second, .val (.long (g0_182 q0 p1 p2)), .second, .val (.int z200_s0), .val (.int z218_s0), .unset] [(.long (g0_165 q0 p1 p2)), (.long ((f2 (g0_81 q0 p1 p2) ((72340172838076673 : Int64) * (p1 &&& (255 : Int32)).toInt64)) &&& (g0_182 q0 p1 p2)))])
    refine Fini.st (fun _ k => XS.lload X_218.here hx rfl (hb hby at_227) rfl k) ?_
    show Fini p e below s _ _ _ T_218 (mkF m 229 #[.val (.long q0), .second, .val (.int p1), .val (.int p2), .val (.long (p1 &&& (255 : Int32)).toInt64), .second, .val (.long ((72340172838076673 : Int64) * (p1 &&& (255 : Int32)).toInt64)), .second, .val (.long (g0_65 p2)), .second, .val (.long (g0_81 q0 p1 p2)), .second, .val (.long (f2 (g0_81 q0 p1 p2) ((72340172838076673 : Int64) * (p1 &&& (255 : Int32)).toInt64))), .second, .val (.long (g0_165 q0 p1 p2)), .second, .val (.long ((g0_165 q0 p1 p2) &&& (-(g0_165 q0 p1 p2)))), .second, .val (.long (g0_182 q0 p1 p2)), .second, .val (.int z200_s0), .val (.int z218_s0), .unset] [(.long (g0_182 q0 p1 p2)), (.long (g0_165 q0 p1 p2)), (.long ((f2 (g0_81 q0 p1 p2) ((72340172838076673 : Int64) * (p1 &&& (255 : Int32)).toInt64)) &&& (g0_182 q0 p1 p2)))])
    refine Fini.st (fun _ k => XS.land X_218.here hx rfl (hb hby at_229) rfl k) ?_
    show Fini p e below s _ _ _ T_218 (mkF m 230 #[.val (.long q0), .second, .val (.int p1), .val (.int p2), .val (.long (p1 &&& (255 : Int32)).toInt64), .second, .val (.long ((72340172838076673 : Int64) * (p1 &&& (255 : Int32)).toInt64)), .second, .val (.long (g0_65 p2)), .second, .val (.long (g0_81 q0 p1 p2)), .second, .val (.long (f2 (g0_81 q0 p1 p2) ((72340172838076673 : Int64) * (p1 &&& (255 : Int32)).toInt64))), .second, .val (.long (g0_165 q0 p1 p2)), .second, .val (.long ((g0_165 q0 p1 p2) &&& (-(g0_165 q0 p1 p2)))), .second, .val (.long (g0_182 q0 p1 p2)), .second, .val (.int z200_s0), .val (.int z218_s0), .unset] [(.long ((g0_165 q0 p1 p2) &&& (g0_182 q0 p1 p2))), (.long ((f2 (g0_81 q0 p1 p2) ((72340172838076673 : Int64) * (p1 &&& (255 : Int32)).toInt64)) &&& (g0_182 q0 p1 p2)))])
    refine Fini.st (fun _ k => XT.lcmp X_218.here hx rfl (hb hby at_230) rfl k) ?_
    show Fini p e below s _ _ _ T_218 (mkF m 231 #[.val (.long q0), .second, .val (.int p1), .val (.int p2), .val (.long (p1 &&& (255 : Int32)).toInt64), .second, .val (.long ((72340172838076673 : Int64) * (p1 &&& (255 : Int32)).toInt64)), .second, .val (.long (g0_65 p2)), .second, .val (.long (g0_81 q0 p1 p2)), .second, .val (.long (f2 (g0_81 q0 p1 p2) ((72340172838076673 : Int64) * (p1 &&& (255 : Int32)).toInt64))), .second, .val (.long (g0_165 q0 p1 p2)), .second, .val (.long ((g0_165 q0 p1 p2) &&& (-(g0_165 q0 p1 p2)))), .second, .val (.long (g0_182 q0 p1 p2)), .second, .val (.int z200_s0), .val (.int z218_s0), .unset] [(.int (XT.cmpL ((f2 (g0_81 q0 p1 p2) ((72340172838076673 : Int64) * (p1 &&& (255 : Int32)).toInt64)) &&& (g0_182 q0 p1 p2)) ((g0_165 q0 p1 p2) &&& (g0_182 q0 p1 p2))))])
    by_cases c24 : ((f2 (g0_81 q0 p1 p2) ((72340172838076673 : Int64) * (p1 &&& (255 : Int32)).toInt64)) &&& (g0_182 q0 p1 p2)) = ((g0_165 q0 p1 p2) &&& (g0_182 q0 p1 p2))
    · have hv25 := hv_218.trans (if_pos c24)
      refine Fini.st (fun _ k => XS.ifNo X_218.here hx rfl (hb hby at_231) rfl (XT.ll_ne_f c24) k) ?_
      show Fini p e below s _ _ _ T_218 (mkF m 234 #[.val (.long q0), .second, .val (.int p1), .val (.int p2), .val (.long (p1 &&& (255 : Int32)).toInt64), .second, .val (.long ((72340172838076673 : Int64) * (p1 &&& (255 : Int32)).toInt64)), .second, .val (.long (g0_65 p2)), .second, .val (.long (g0_81 q0 p1 p2)), .second, .val (.long (f2 (g0_81 q0 p1 p2) ((72340172838076673 : Int64) * (p1 &&& (255 : Int32)).toInt64))), .second, .val (.long (g0_165 q0 p1 p2)), .second, .val (.long ((g0_165 q0 p1 p2) &&& (-(g0_165 q0 p1 p2)))), .second, .val (.long (g0_182 q0 p1 p2)), .second, .val (.int z200_s0), .val (.int z218_s0), .unset] [])
      refine Fini.st (fun _ k => XS.iconst X_218.here hx rfl (hb hby at_234) k) ?_
      show Fini p e below s _ _ _ T_218 (mkF m 235 #[.val (.long q0), .second, .val (.int p1), .val (.int p2), .val (.long (p1 &&& (255 : Int32)).toInt64), .second, .val (.long ((72340172838076673 : Int64) * (p1 &&& (255 : Int32)).toInt64)), .second, .val (.long (g0_65 p2)), .second, .val (.long (g0_81 q0 p1 p2)), .second, .val (.long (f2 (g0_81 q0 p1 p2) ((72340172838076673 : Int64) * (p1 &&& (255 : Int32)).toInt64))), .second, .val (.long (g0_165 q0 p1 p2)), .second, .val (.long ((g0_165 q0 p1 p2) &&& (-(g0_165 q0 p1 p2)))), .second, .val (.long (g0_182 q0 p1 p2)), .second, .val (.int z200_s0), .val (.int z218_s0), .unset] [(.int (1 : Int32))])
      refine Fini.st (fun _ k => XS.goto X_218.here hx rfl (pc0 := 235) (pc' := 239) rfl (hb hby at_235) (by decide) (by decide) k) ?_
      show Fini p e below s _ _ _ T_218 (mkF m 239 #[.val (.long q0), .second, .val (.int p1), .val (.int p2), .val (.long (p1 &&& (255 : Int32)).toInt64), .second, .val (.long ((72340172838076673 : Int64) * (p1 &&& (255 : Int32)).toInt64)), .second, .val (.long (g0_65 p2)), .second, .val (.long (g0_81 q0 p1 p2)), .second, .val (.long (f2 (g0_81 q0 p1 p2) ((72340172838076673 : Int64) * (p1 &&& (255 : Int32)).toInt64))), .second, .val (.long (g0_165 q0 p1 p2)), .second, .val (.long ((g0_165 q0 p1 p2) &&& (-(g0_165 q0 p1 p2)))), .second, .val (.long (g0_182 q0 p1 p2)), .second, .val (.int z200_s0), .val (.int z218_s0), .unset] [(.int (1 : Int32))])
      exact B239 T_218 X_218 e_218 (1 : Int32) z200_s0 z218_s0 hv25
    · have hv26 := hv_218.trans (if_neg c24)
      refine Fini.st (fun _ k => XS.ifYes X_218.here hx rfl (pc0 := 231) (pc' := 238) rfl (hb hby at_231) rfl (XT.ll_ne_t c24) (by decide) (by decide) k) ?_
      show Fini p e below s _ _ _ T_218 (mkF m 238 #[.val (.long q0), .second, .val (.int p1), .val (.int p2), .val (.long (p1 &&& (255 : Int32)).toInt64), .second, .val (.long ((72340172838076673 : Int64) * (p1 &&& (255 : Int32)).toInt64)), .second, .val (.long (g0_65 p2)), .second, .val (.long (g0_81 q0 p1 p2)), .second, .val (.long (f2 (g0_81 q0 p1 p2) ((72340172838076673 : Int64) * (p1 &&& (255 : Int32)).toInt64))), .second, .val (.long (g0_165 q0 p1 p2)), .second, .val (.long ((g0_165 q0 p1 p2) &&& (-(g0_165 q0 p1 p2)))), .second, .val (.long (g0_182 q0 p1 p2)), .second, .val (.int z200_s0), .val (.int z218_s0), .unset] [])
      refine Fini.st (fun _ k => XS.iconst X_218.here hx rfl (hb hby at_238) k) ?_
      show Fini p e below s _ _ _ T_218 (mkF m 239 #[.val (.long q0), .second, .val (.int p1), .val (.int p2), .val (.long (p1 &&& (255 : Int32)).toInt64), .second, .val (.long ((72340172838076673 : Int64) * (p1 &&& (255 : Int32)).toInt64)), .second, .val (.long (g0_65 p2)), .second, .val (.long (g0_81 q0 p1 p2)), .second, .val (.long (f2 (g0_81 q0 p1 p2) ((72340172838076673 : Int64) * (p1 &&& (255 : Int32)).toInt64))), .second, .val (.long (g0_165 q0 p1 p2)), .second, .val (.long ((g0_165 q0 p1 p2) &&& (-(g0_165 q0 p1 p2)))), .second, .val (.long (g0_182 q0 p1 p2)), .second, .val (.int z200_s0), .val (.int z218_s0), .unset] [(.int (0 : Int32))])
      exact B239 T_218 X_218 e_218 (0 : Int32) z200_s0 z218_s0 hv26
  have B200 : ∀ (T_200 : State) (X_200 : Stand p l e room_1 s m #[(.long q0), (.int p1), (.int p2)] below meth c T_200 [] 0 0) (e_200 : T_200.heap = h0) (z200_s0 : Int32), f0 q0 p1 p2 = f0_200 q0 p1 p2 z200_s0 → Fini p e below s (fun v h' L => v = some (.int (f0 q0 p1 p2)) ∧ h' = h0 ∧ L = []) (Room.cells room_1) (Room.slots room_1) T_200 (mkF m 200 #[.val (.long q0), .second, .val (.int p1), .val (.int p2), .val (.long (p1 &&& (255 : Int32)).toInt64), .second, .val (.long ((72340172838076673 : Int64) * (p1 &&& (255 : Int32)).toInt64)), .second, .val (.long (g0_65 p2)), .second, .val (.long (g0_81 q0 p1 p2)), .second, .val (.long (f2 (g0_81 q0 p1 p2) ((72340172838076673 : Int64) * (p1 &&& (255 : Int32)).toInt64))), .second, .val (.long (g0_165 q0 p1 p2)), .second, .val (.long ((g0_165 q0 p1 p2) &&& (-(g0_165 q0 p1 p2)))), .second, .val (.long (g0_182 q0 p1 p2)), .second, .unset, .unset, .unset] [(.int z200_s0)]) := by
    intro T_200 X_200 e_200 z200_s0 hv_200
    refine Fini.st (fun _ k => XS.istore X_200.here hx rfl (hb hby at_200) rfl (l' := #[.val (.long q0), .second, .val (.int p1), .val (.int p2), .val (.long (p1 &&& (255 : Int32)).toInt64), .second, .val (.long ((72340172838076673 : Int64) * (p1 &&& (255 : Int32)).toInt64)), .second, .val (.long (g0_65 p2)), .second, .val (.long (g0_81 q0 p1 p2)), .second, .val (.long (f2 (g0_81 q0 p1 p2) ((72340172838076673 : Int64) * (p1 &&& (255 : Int32)).toInt64))), .second, .val (.long (g0_165 q0 p1 p2)), .second, .val (.long ((g0_165 q0 p1 p2) &&& (-(g0_165 q0 p1 p2)))), .second, .val (.long (g0_182 q0 p1 p2)), .second, .val (.int z200_s0), .unset, .unset]) rfl k) ?_
    show Fini p e below s _ _ _ T_200 (mkF m 202 #[.val (.long q0), .second, .val (.int p1), .val (.int p2), .val (.long (p1 &&& (255 : Int32)).toInt64), .second, .val (.long ((72340172838076673 : Int64) * (p1 &&& (255 : Int32)).toInt64)), .second, .val (.long (g0_65 p2)), .second, .val (.long (g0_81 q0 p1 p2)), .second, .val (.long (f2 (g0_81 q0 p1 p2) ((72340172838076673 : Int64) * (p1 &&& (255 : Int32)).toInt64))), .second, .val (.long (g0_165 q0 p1 p2)), .second, .val (.long ((g0_165 q0 p1 p2) &&& (-(g0_165 q0 p1 p2)))), .second, .val (.long (g0_182 q0 p1 p2)), .second, .val (.int z200_s0), .unset, .unset] [])
    refine Fini.st (fun _ k => XS.lload X_200.here hx rfl (hb hby at_202) rfl k) ?_
    show Fini p e below s _ _ _ T_200 (mkF m 204 #[.val (.long q0), .second, .val (.int p1), .val (.int p2), .val (.long (p1 &&& (255 : Int32)).toInt64), .second, .val (.long ((72340172838076673 : Int64) * (p1 &&& (255 : Int32)).toInt64)), .second, .val (.long (g0_65 p2)), .second, .val (.long (g0_81 q0 p1 p2)), .second, .val (.long (f2 (g0_81 q0 p1 p2) ((72340172838076673 : Int64) * (p1 &&& (255 : Int32)).toInt64))), .second, .val (.long (g0_165 q0 p1 p2)), .second, .val (.long ((g0_165 q0 p1 p2) &&& (-(g0_165 q0 p1 p2)))), .second, .val (.long (g0_182 q0 p1 p2)), .second, .val (.int z200_s0), .unset, .unset] [(.long (f2 (g0_81 q0 p1 p2) ((72340172838076673 : Int64) * (p1 &&& (255 : Int32)).toInt64)))])
    refine Fini.st (fun _ k => XS.lload X_200.here hx rfl (hb hby at_204) rfl k) ?_
    show Fini p e below s _ _ _ T_200 (mkF m 206 #[.val (.long q0), .second, .val (.int p1), .val (.int p2), .val (.long (p1 &&& (255 : Int32)).toInt64), .second, .val (.long ((72340172838076673 : Int64) * (p1 &&& (255 : Int32)).toInt64)), .second, .val (.long (g0_65 p2)), .second, .val (.long (g0_81 q0 p1 p2)), .second, .val (.long (f2 (g0_81 q0 p1 p2) ((72340172838076673 : Int64) * (p1 &&& (255 : Int32)).toInt64))), .second, .val (.long (g0_165 q0 p1 p2)), .second, .val (.long ((g0_165 q0 p1 p2) &&& (-(g0_165 q0 p1 p2)))), .second, .val (.long (g0_182 q0 p1 p2)), .second, .val (.int z200_s0), .unset, .unset] [(.long (g0_165 q0 p1 p2)), (.long (f2 (g0_81 q0 p1 p2) ((72340172838076673 : Int64) * (p1 &&& (255 : Int32)).toInt64)))])
    refine Fini.st (fun _ k => XS.land X_200.here hx rfl (hb hby at_206) rfl k) ?_
    show Fini p e below s _ _ _ T_200 (mkF m 207 #[.val (.long q0), .second, .val (.int p1), .val (.int p2), .val (.long (p1 &&& (255 : Int32)).toInt64), .second, .val (.long ((72340172838076673 : Int64) * (p1 &&& (255 : Int32)).toInt64)), .second, .val (.long (g0_65 p2)), .second, .val (.long (g0_81 q0 p1 p2)), .second, .val (.long (f2 (g0_81 q0 p1 p2) ((72340172838076673 : Int64) * (p1 &&& (255 : Int32)).toInt64))), .second, .val (.long (g0_165 q0 p1 p2)), .second, .val (.long ((g0_165 q0 p1 p2) &&& (-(g0_165 q0 p1 p2)))), .second, .val (.long (g0_182 q0 p1 p2)), .second, .val (.int z200_s0), .unset, .unset] [(.long ((f2 (g0_81 q0 p1 p2) ((72340172838076673 : Int64) * (p1 &&& (255 : Int32)).toInt64)) &&& (g0_165 q0 p1 p2)))])
    refine Fini.st (fun _ k => XS.lload X_200.here hx rfl (hb hby at_207) rfl k) ?_
    show Fini p e below s _ _ _ T_200 (mkF m 209 #[.val (.long q0), .second, .val (.int p1), .val (.int p2), .val (.long (p1 &&& (255 : Int32)).toInt64), .second, .val (.long ((72340172838076673 : Int64) * (p1 &&& (255 : Int32)).toInt64)), .second, .val (.long (g0_65 p2)), .second, .val (.long (g0_81 q0 p1 p2)), .second, .val (.long (f2 (g0_81 q0 p1 p2) ((72340172838076673 : Int64) * (p1 &&& (255 : Int32)).toInt64))), .second, .val (.long (g0_165 q0 p1 p2)), .second, .val (.long ((g0_165 q0 p1 p2) &&& (-(g0_165 q0 p1 p2)))), .second, .val (.long (g0_182 q0 p1 p2)), .second, .val (.int z200_s0), .unset, .unset] [(.long (g0_165 q0 p1 p2)), (.long ((f2 (g0_81 q0 p1 p2) ((72340172838076673 : Int64) * (p1 &&& (255 : Int32)).toInt64)) &&& (g0_165 q0 p1 p2)))])
    refine Fini.st (fun _ k => XT.lcmp X_200.here hx rfl (hb hby at_209) rfl k) ?_
    show Fini p e below s _ _ _ T_200 (mkF m 210 #[.val (.long q0), .second, .val (.int p1), .val (.int p2), .val (.long (p1 &&& (255 : Int32)).toInt64), .second, .val (.long ((72340172838076673 : Int64) * (p1 &&& (255 : Int32)).toInt64)), .second, .val (.long (g0_65 p2)), .second, .val (.long (g0_81 q0 p1 p2)), .second, .val (.long (f2 (g0_81 q0 p1 p2) ((72340172838076673 : Int64) * (p1 &&& (255 : Int32)).toInt64))), .second, .val (.long (g0_165 q0 p1 p2)), .second, .val (.long ((g0_165 q0 p1 p2) &&& (-(g0_165 q0 p1 p2)))), .second, .val (.long (g0_182 q0 p1 p2)), .second, .val (.int z200_s0), .unset, .unset] [(.int (XT.cmpL ((f2 (g0_81 q0 p1 p2) ((72340172838076673 : Int64) * (p1 &&& (255 : Int32)).toInt64)) &&& (g0_165 q0 p1 p2)) (g0_165 q0 p1 p2)))])
    by_cases c21 : ((f2 (g0_81 q0 p1 p2) ((72340172838076673 : Int64) * (p1 &&& (255 : Int32)).toInt64)) &&& (g0_165 q0 p1 p2)) = (g0_165 q0 p1 p2)
    · have hv22 := hv_200.trans (if_pos c21)
      refine Fini.st (fun _ k => XS.ifNo X_200.here hx rfl (hb hby at_210) rfl (XT.ll_ne_f c21) k) ?_
      show Fini p e below s _ _ _ T_200 (mkF m 213 #[.val (.long q0), .second, .val (.int p1), .val (.int p2), .val (.long (p1 &&& (255 : Int32)).toInt64), .second, .val (.long ((72340172838076673 : Int64) * (p1 &&& (255 : Int32)).toInt64)), .second, .val (.long (g0_65 p2)), .second, .val (.long (g0_81 q0 p1 p2)), .second, .val (.long (f2 (g0_81 q0 p1 p2) ((72340172838076673 : Int64) * (p1 &&& (255 : Int32)).toInt64))), .second, .val (.long (g0_165 q0 p1 p2)), .second, .val (.long ((g0_165 q0 p1 p2) &&& (-(g0_165 q0 p1 p2)))), .second, .val (.long (g0_182 q0 p1 p2)), .second, .val (.int z200_s0), .unset, .unset] [])
      refine Fini.st (fun _ k => XS.iconst X_200.here hx rfl (hb hby at_213) k) ?_
      show Fini p e below s _ _ _ T_200 (mkF m 214 #[.val (.long q0), .second, .val (.int p1), .val (.int p2), .val (.long (p1 &&& (255 : Int32)).toInt64), .second, .val (.long ((72340172838076673 : Int64) * (p1 &&& (255 : Int32)).toInt64)), .second, .val (.long (g0_65 p2)), .second, .val (.long (g0_81 q0 p1 p2)), .second, .val (.long (f2 (g0_81 q0 p1 p2) ((72340172838076673 : Int64) * (p1 &&& (255 : Int32)).toInt64))), .second, .val (.long (g0_165 q0 p1 p2)), .second, .val (.long ((g0_165 q0 p1 p2) &&& (-(g0_165 q0 p1 p2)))), .second, .val (.long (g0_182 q0 p1 p2)), .second, .val (.int z200_s0), .unset, .unset] [(.int (1 : Int32))])
      refine Fini.st (fun _ k => XS.goto X_200.here hx rfl (pc0 := 214) (pc' := 218) rfl (hb hby at_214) (by decide) (by decide) k) ?_
      show Fini p e below s _ _ _ T_200 (mkF m 218 #[.val (.long q0), .second, .val (.int p1), .val (.int p2), .val (.long (p1 &&& (255 : Int32)).toInt64), .second, .val (.long ((72340172838076673 : Int64) * (p1 &&& (255 : Int32)).toInt64)), .second, .val (.long (g0_65 p2)), .second, .val (.long (g0_81 q0 p1 p2)), .second, .val (.long (f2 (g0_81 q0 p1 p2) ((72340172838076673 : Int64) * (p1 &&& (255 : Int32)).toInt64))), .second, .val (.long (g0_165 q0 p1 p2)), .second, .val (.long ((g0_165 q0 p1 p2) &&& (-(g0_165 q0 p1 p2)))), .second, .val (.long (g0_182 q0 p1 p2)), .second, .val (.int z200_s0), .unset, .unset] [(.int (1 : Int32))])
      exact B218 T_200 X_200 e_200 (1 : Int32) z200_s0 hv22
    · have hv23 := hv_200.trans (if_neg c21)
      refine Fini.st (fun _ k => XS.ifYes X_200.here hx rfl (pc0 := 210) (pc' := 217) rfl (hb hby at_210) rfl (XT.ll_ne_t c21) (by decide) (by decide) k) ?_
      show Fini p e below s _ _ _ T_200 (mkF m 217 #[.val (.long q0), .second, .val (.int p1), .val (.int p2), .val (.long (p1 &&& (255 : Int32)).toInt64), .second, .val (.long ((72340172838076673 : Int64) * (p1 &&& (255 : Int32)).toInt64)), .second, .val (.long (g0_65 p2)), .second, .val (.long (g0_81 q0 p1 p2)), .second, .val (.long (f2 (g0_81 q0 p1 p2) ((72340172838076673 : Int64) * (p1 &&& (255 : Int32)).toInt64))), .second, .val (.long (g0_165 q0 p1 p2)), .second, .val (.long ((g0_165 q0 p1 p2) &&& (-(g0_165 q0 p1 p2)))), .second, .val (.long (g0_182 q0 p1 p2)), .second, .val (.int z200_s0), .unset, .unset] [])
      refine Fini.st (fun _ k => XS.iconst X_200.here hx rfl (hb hby at_217) k) ?_
      show Fini p e below s _ _ _ T_200 (mkF m 218 #[.val (.long q0), .second, .val (.int p1), .val (.int p2), .val (.long (p1 &&& (255 : Int32)).toInt64), .second, .val (.long ((72340172838076673 : Int64) * (p1 &&& (255 : Int32)).toInt64)), .second, .val (.long (g0_65 p2)), .second, .val (.long (g0_81 q0 p1 p2)), .second, .val (.long (f2 (g0_81 q0 p1 p2) ((72340172838076673 : Int64) * (p1 &&& (255 : Int32)).toInt64))), .second, .val (.long (g0_165 q0 p1 p2)), .second, .val (.long ((g0_165 q0 p1 p2) &&& (-(g0_165 q0 p1 p2)))), .second, .val (.long (g0_182 q0 p1 p2)), .second, .val (.int z200_s0), .unset, .unset] [(.int (0 : Int32))])
      exact B218 T_200 X_200 e_200 (0 : Int32) z200_s0 hv23
  show Fini p e below s (fun v h' L => v = some (.int (f0 q0 p1 p2)) ∧ h' = h0 ∧ L = []) _ _ s₁ (entryFrame m #[(.long q0), (.int p1), (.int p2)] maxLocals)
  refine Fini.cast (ef0 m q0 p1 p2) ?_
  show Fini p e below s _ _ _ s₁ (mkF m 0 #[.val (.long q0), .second, .val (.int p1), .val (.int p2), .unset, .unset, .unset, .unset, .unset, .unset, .unset, .unset, .unset, .unset, .unset, .unset, .unset, .unset, .unset, .unset, .unset, .unset, .unset] [])
  refine Fini.st (fun _ k => XS.iloadN X0.here hx rfl (hb hby at_0) rfl k) ?_
  show Fini p e below s _ _ _ s₁ (mkF m 1 #[.val (.long q0), .second, .val (.int p1), .val (.int p2), .unset, .unset, .unset, .unset, .unset, .unset, .unset, .unset, .unset, .unset, .unset, .unset, .unset, .unset, .unset, .unset, .unset, .unset, .unset] [(.int p1)])
  refine Fini.st (fun _ k => XS.sipush X0.here hx rfl (hb hby at_1) k) ?_
  show Fini p e below s _ _ _ s₁ (mkF m 4 #[.val (.long q0), .second, .val (.int p1), .val (.int p2), .unset, .unset, .unset, .unset, .unset, .unset, .unset, .unset, .unset, .unset, .unset, .unset, .unset, .unset, .unset, .unset, .unset, .unset, .unset] [(.int (255 : Int32)), (.int p1)])
  refine Fini.st (fun _ k => XS.iand X0.here hx rfl (hb hby at_4) rfl k) ?_
  show Fini p e below s _ _ _ s₁ (mkF m 5 #[.val (.long q0), .second, .val (.int p1), .val (.int p2), .unset, .unset, .unset, .unset, .unset, .unset, .unset, .unset, .unset, .unset, .unset, .unset, .unset, .unset, .unset, .unset, .unset, .unset, .unset] [(.int (p1 &&& (255 : Int32)))])
  refine Fini.st (fun _ k => XS.i2l X0.here hx rfl (hb hby at_5) rfl k) ?_
  show Fini p e below s _ _ _ s₁ (mkF m 6 #[.val (.long q0), .second, .val (.int p1), .val (.int p2), .unset, .unset, .unset, .unset, .unset, .unset, .unset, .unset, .unset, .unset, .unset, .unset, .unset, .unset, .unset, .unset, .unset, .unset, .unset] [(.long (p1 &&& (255 : Int32)).toInt64)])
  refine Fini.st (fun _ k => XS.lstore X0.here hx rfl (hb hby at_6) rfl (l' := #[.val (.long q0), .second, .val (.int p1), .val (.int p2), .val (.long (p1 &&& (255 : Int32)).toInt64), .second, .unset, .unset, .unset, .unset, .unset, .unset, .unset, .unset, .unset, .unset, .unset, .unset, .unset, .unset, .unset, .unset, .unset]) rfl k) ?_
  show Fini p e below s _ _ _ s₁ (mkF m 8 #[.val (.long q0), .second, .val (.int p1), .val (.int p2), .val (.long (p1 &&& (255 : Int32)).toInt64), .second, .unset, .unset, .unset, .unset, .unset, .unset, .unset, .unset, .unset, .unset, .unset, .unset, .unset, .unset, .unset, .unset, .unset] [])
  refine Fini.st (fun _ k => X0.ldc2J hx hown (mvT hZ (hw _ (List.mem_of_getElem? (i := 0) rfl))) rfl (hb hby at_8) k) ?_
  show Fini p e below s _ _ _ s₁ (mkF m 11 #[.val (.long q0), .second, .val (.int p1), .val (.int p2), .val (.long (p1 &&& (255 : Int32)).toInt64), .second, .unset, .unset, .unset, .unset, .unset, .unset, .unset, .unset, .unset, .unset, .unset, .unset, .unset, .unset, .unset, .unset, .unset] [(.long (72340172838076673 : Int64))])
  refine Fini.st (fun _ k => XS.lload X0.here hx rfl (hb hby at_11) rfl k) ?_
  show Fini p e below s _ _ _ s₁ (mkF m 13 #[.val (.long q0), .second, .val (.int p1), .val (.int p2), .val (.long (p1 &&& (255 : Int32)).toInt64), .second, .unset, .unset, .unset, .unset, .unset, .unset, .unset, .unset, .unset, .unset, .unset, .unset, .unset, .unset, .unset, .unset, .unset] [(.long (p1 &&& (255 : Int32)).toInt64), (.long (72340172838076673 : Int64))])
  refine Fini.st (fun _ k => XS.lmul X0.here hx rfl (hb hby at_13) rfl k) ?_
  show Fini p e below s _ _ _ s₁ (mkF m 14 #[.val (.long q0), .second, .val (.int p1), .val (.int p2), .val (.long (p1 &&& (255 : Int32)).toInt64), .second, .unset, .unset, .unset, .unset, .unset, .unset, .unset, .unset, .unset, .unset, .unset, .unset, .unset, .unset, .unset, .unset, .unset] [(.long ((72340172838076673 : Int64) * (p1 &&& (255 : Int32)).toInt64))])
  refine Fini.st (fun _ k => XS.lstore X0.here hx rfl (hb hby at_14) rfl (l' := #[.val (.long q0), .second, .val (.int p1), .val (.int p2), .val (.long (p1 &&& (255 : Int32)).toInt64), .second, .val (.long ((72340172838076673 : Int64) * (p1 &&& (255 : Int32)).toInt64)), .second, .unset, .unset, .unset, .unset, .unset, .unset, .unset, .unset, .unset, .unset, .unset, .unset, .unset, .unset, .unset]) rfl k) ?_
  show Fini p e below s _ _ _ s₁ (mkF m 16 #[.val (.long q0), .second, .val (.int p1), .val (.int p2), .val (.long (p1 &&& (255 : Int32)).toInt64), .second, .val (.long ((72340172838076673 : Int64) * (p1 &&& (255 : Int32)).toInt64)), .second, .unset, .unset, .unset, .unset, .unset, .unset, .unset, .unset, .unset, .unset, .unset, .unset, .unset, .unset, .unset] [])
  refine Fini.st (fun _ k => XS.iloadN X0.here hx rfl (hb hby at_16) rfl k) ?_
  show Fini p e below s _ _ _ s₁ (mkF m 17 #[.val (.long q0), .second, .val (.int p1), .val (.int p2), .val (.long (p1 &&& (255 : Int32)).toInt64), .second, .val (.long ((72340172838076673 : Int64) * (p1 &&& (255 : Int32)).toInt64)), .second, .unset, .unset, .unset, .unset, .unset, .unset, .unset, .unset, .unset, .unset, .unset, .unset, .unset, .unset, .unset] [(.int p2)])
  refine Fini.st (fun _ k => XS.iconst X0.here hx rfl (hb hby at_17) k) ?_
  show Fini p e below s _ _ _ s₁ (mkF m 18 #[.val (.long q0), .second, .val (.int p1), .val (.int p2), .val (.long (p1 &&& (255 : Int32)).toInt64), .second, .val (.long ((72340172838076673 : Int64) * (p1 &&& (255 : Int32)).toInt64)), .second, .unset, .unset, .unset, .unset, .unset, .unset, .unset, .unset, .unset, .unset, .unset, .unset, .unset, .unset, .unset] [(.int (0 : Int32)), (.int p2)])
  obtain ⟨T1, X1, e1, st1⟩ := pureS X0 hx hZ hown (hw _ (List.mem_of_getElem? (i := 1) rfl)) (hw _ (List.mem_of_getElem? (i := 2) rfl)) (hw _ (List.mem_of_getElem? (i := 3) rfl)) (hw _ (List.mem_of_getElem? (i := 4) rfl)) (by decide) (rm1 l Z a0 hw [] p2 (0 : Int32) h0) e0 (W := 0) (by decide) (by decide) (by decide) (by decide) (g := (mkF m 18 #[.val (.long q0), .second, .val (.int p1), .val (.int p2), .val (.long (p1 &&& (255 : Int32)).toInt64), .second, .val (.long ((72340172838076673 : Int64) * (p1 &&& (255 : Int32)).toInt64)), .second, .unset, .unset, .unset, .unset, .unset, .unset, .unset, .unset, .unset, .unset, .unset, .unset, .unset, .unset, .unset] [(.int (0 : Int32)), (.int p2)])) rfl (by rw [hml]; rfl) (argsL := [(.int p2), (.int (0 : Int32))]) (rest := []) rfl (lenOf pd_0 rfl) rfl (by show 2 * 0 + _ ≤ _; exact Nat.le_of_eq rfl) (hb hby at_18)
  refine Fini.st st1 ?_
  show Fini p e below s _ _ _ T1 (mkF m 21 #[.val (.long q0), .second, .val (.int p1), .val (.int p2), .val (.long (p1 &&& (255 : Int32)).toInt64), .second, .val (.long ((72340172838076673 : Int64) * (p1 &&& (255 : Int32)).toInt64)), .second, .unset, .unset, .unset, .unset, .unset, .unset, .unset, .unset, .unset, .unset, .unset, .unset, .unset, .unset, .unset] [(.long (f1 p2 (0 : Int32)))])
  refine Fini.st (fun _ k => XS.iloadN X1.here hx rfl (hb hby at_21) rfl k) ?_
  show Fini p e below s _ _ _ T1 (mkF m 22 #[.val (.long q0), .second, .val (.int p1), .val (.int p2), .val (.long (p1 &&& (255 : Int32)).toInt64), .second, .val (.long ((72340172838076673 : Int64) * (p1 &&& (255 : Int32)).toInt64)), .second, .unset, .unset, .unset, .unset, .unset, .unset, .unset, .unset, .unset, .unset, .unset, .unset, .unset, .unset, .unset] [(.int p2), (.long (f1 p2 (0 : Int32)))])
  refine Fini.st (fun _ k => XS.iconst X1.here hx rfl (hb hby at_22) k) ?_
  show Fini p e below s _ _ _ T1 (mkF m 23 #[.val (.long q0), .second, .val (.int p1), .val (.int p2), .val (.long (p1 &&& (255 : Int32)).toInt64), .second, .val (.long ((72340172838076673 : Int64) * (p1 &&& (255 : Int32)).toInt64)), .second, .unset, .unset, .unset, .unset, .unset, .unset, .unset, .unset, .unset, .unset, .unset, .unset, .unset, .unset, .unset] [(.int (1 : Int32)), (.int p2), (.long (f1 p2 (0 : Int32)))])
  obtain ⟨T2, X2, e2, st2⟩ := pureS X1 hx hZ hown (hw _ (List.mem_of_getElem? (i := 1) rfl)) (hw _ (List.mem_of_getElem? (i := 2) rfl)) (hw _ (List.mem_of_getElem? (i := 3) rfl)) (hw _ (List.mem_of_getElem? (i := 4) rfl)) (by decide) (rm1 l Z a0 hw [] p2 (1 : Int32) h0) e1 (W := 2) (by decide) (by decide) (by decide) (by decide) (g := (mkF m 23 #[.val (.long q0), .second, .val (.int p1), .val (.int p2), .val (.long (p1 &&& (255 : Int32)).toInt64), .second, .val (.long ((72340172838076673 : Int64) * (p1 &&& (255 : Int32)).toInt64)), .second, .unset, .unset, .unset, .unset, .unset, .unset, .unset, .unset, .unset, .unset, .unset, .unset, .unset, .unset, .unset] [(.int (1 : Int32)), (.int p2), (.long (f1 p2 (0 : Int32)))])) rfl (by rw [hml]; rfl) (argsL := [(.int p2), (.int (1 : Int32))]) (rest := [(.long (f1 p2 (0 : Int32)))]) rfl (lenOf pd_0 rfl) rfl (by show 2 * 0 + _ ≤ _; exact Nat.le_of_eq rfl) (hb hby at_23)
  refine Fini.st st2 ?_
  show Fini p e below s _ _ _ T2 (mkF m 26 #[.val (.long q0), .second, .val (.int p1), .val (.int p2), .val (.long (p1 &&& (255 : Int32)).toInt64), .second, .val (.long ((72340172838076673 : Int64) * (p1 &&& (255 : Int32)).toInt64)), .second, .unset, .unset, .unset, .unset, .unset, .unset, .unset, .unset, .unset, .unset, .unset, .unset, .unset, .unset, .unset] [(.long (f1 p2 (1 : Int32))), (.long (f1 p2 (0 : Int32)))])
  refine Fini.st (fun _ k => XS.lor X2.here hx rfl (hb hby at_26) rfl k) ?_
  show Fini p e below s _ _ _ T2 (mkF m 27 #[.val (.long q0), .second, .val (.int p1), .val (.int p2), .val (.long (p1 &&& (255 : Int32)).toInt64), .second, .val (.long ((72340172838076673 : Int64) * (p1 &&& (255 : Int32)).toInt64)), .second, .unset, .unset, .unset, .unset, .unset, .unset, .unset, .unset, .unset, .unset, .unset, .unset, .unset, .unset, .unset] [(.long ((f1 p2 (0 : Int32)) ||| (f1 p2 (1 : Int32))))])
  refine Fini.st (fun _ k => XS.iloadN X2.here hx rfl (hb hby at_27) rfl k) ?_
  show Fini p e below s _ _ _ T2 (mkF m 28 #[.val (.long q0), .second, .val (.int p1), .val (.int p2), .val (.long (p1 &&& (255 : Int32)).toInt64), .second, .val (.long ((72340172838076673 : Int64) * (p1 &&& (255 : Int32)).toInt64)), .second, .unset, .unset, .unset, .unset, .unset, .unset, .unset, .unset, .unset, .unset, .unset, .unset, .unset, .unset, .unset] [(.int p2), (.long ((f1 p2 (0 : Int32)) ||| (f1 p2 (1 : Int32))))])
  refine Fini.st (fun _ k => XS.iconst X2.here hx rfl (hb hby at_28) k) ?_
  show Fini p e below s _ _ _ T2 (mkF m 29 #[.val (.long q0), .second, .val (.int p1), .val (.int p2), .val (.long (p1 &&& (255 : Int32)).toInt64), .second, .val (.long ((72340172838076673 : Int64) * (p1 &&& (255 : Int32)).toInt64)), .second, .unset, .unset, .unset, .unset, .unset, .unset, .unset, .unset, .unset, .unset, .unset, .unset, .unset, .unset, .unset] [(.int (2 : Int32)), (.int p2), (.long ((f1 p2 (0 : Int32)) ||| (f1 p2 (1 : Int32))))])
  obtain ⟨T3, X3, e3, st3⟩ := pureS X2 hx hZ hown (hw _ (List.mem_of_getElem? (i := 1) rfl)) (hw _ (List.mem_of_getElem? (i := 2) rfl)) (hw _ (List.mem_of_getElem? (i := 3) rfl)) (hw _ (List.mem_of_getElem? (i := 4) rfl)) (by decide) (rm1 l Z a0 hw [] p2 (2 : Int32) h0) e2 (W := 2) (by decide) (by decide) (by decide) (by decide) (g := (mkF m 29 #[.val (.long q0), .second, .val (.int p1), .val (.int p2), .val (.long (p1 &&& (255 : Int32)).toInt64), .second, .val (.long ((72340172838076673 : Int64) * (p1 &&& (255 : Int32)).toInt64)), .second, .unset, .unset, .unset, .unset, .unset, .unset, .unset, .unset, .unset, .unset, .unset, .unset, .unset, .unset, .unset] [(.int (2 : Int32)), (.int p2), (.long ((f1 p2 (0 : Int32)) ||| (f1 p2 (1 : Int32))))])) rfl (by rw [hml]; rfl) (argsL := [(.int p2), (.int (2 : Int32))]) (rest := [(.long ((f1 p2 (0 : Int32)) ||| (f1 p2 (1 : Int32))))]) rfl (lenOf pd_0 rfl) rfl (by show 2 * 0 + _ ≤ _; exact Nat.le_of_eq rfl) (hb hby at_29)
  refine Fini.st st3 ?_
  show Fini p e below s _ _ _ T3 (mkF m 32 #[.val (.long q0), .second, .val (.int p1), .val (.int p2), .val (.long (p1 &&& (255 : Int32)).toInt64), .second, .val (.long ((72340172838076673 : Int64) * (p1 &&& (255 : Int32)).toInt64)), .second, .unset, .unset, .unset, .unset, .unset, .unset, .unset, .unset, .unset, .unset, .unset, .unset, .unset, .unset, .unset] [(.long (f1 p2 (2 : Int32))), (.long ((f1 p2 (0 : Int32)) ||| (f1 p2 (1 : Int32))))])
  refine Fini.st (fun _ k => XS.lor X3.here hx rfl (hb hby at_32) rfl k) ?_
  show Fini p e below s _ _ _ T3 (mkF m 33 #[.val (.long q0), .second, .val (.int p1), .val (.int p2), .val (.long (p1 &&& (255 : Int32)).toInt64), .second, .val (.long ((72340172838076673 : Int64) * (p1 &&& (255 : Int32)).toInt64)), .second, .unset, .unset, .unset, .unset, .unset, .unset, .unset, .unset, .unset, .unset, .unset, .unset, .unset, .unset, .unset] [(.long (((f1 p2 (0 : Int32)) ||| (f1 p2 (1 : Int32))) ||| (f1 p2 (2 : Int32))))])
  refine Fini.st (fun _ k => XS.iloadN X3.here hx rfl (hb hby at_33) rfl k) ?_
  show Fini p e below s _ _ _ T3 (mkF m 34 #[.val (.long q0), .second, .val (.int p1), .val (.int p2), .val (.long (p1 &&& (255 : Int32)).toInt64), .second, .val (.long ((72340172838076673 : Int64) * (p1 &&& (255 : Int32)).toInt64)), .second, .unset, .unset, .unset, .unset, .unset, .unset, .unset, .unset, .unset, .unset, .unset, .unset, .unset, .unset, .unset] [(.int p2), (.long (((f1 p2 (0 : Int32)) ||| (f1 p2 (1 : Int32))) ||| (f1 p2 (2 : Int32))))])
  refine Fini.st (fun _ k => XS.iconst X3.here hx rfl (hb hby at_34) k) ?_
  show Fini p e below s _ _ _ T3 (mkF m 35 #[.val (.long q0), .second, .val (.int p1), .val (.int p2), .val (.long (p1 &&& (255 : Int32)).toInt64), .second, .val (.long ((72340172838076673 : Int64) * (p1 &&& (255 : Int32)).toInt64)), .second, .unset, .unset, .unset, .unset, .unset, .unset, .unset, .unset, .unset, .unset, .unset, .unset, .unset, .unset, .unset] [(.int (3 : Int32)), (.int p2), (.long (((f1 p2 (0 : Int32)) ||| (f1 p2 (1 : Int32))) ||| (f1 p2 (2 : Int32))))])
  obtain ⟨T4, X4, e4, st4⟩ := pureS X3 hx hZ hown (hw _ (List.mem_of_getElem? (i := 1) rfl)) (hw _ (List.mem_of_getElem? (i := 2) rfl)) (hw _ (List.mem_of_getElem? (i := 3) rfl)) (hw _ (List.mem_of_getElem? (i := 4) rfl)) (by decide) (rm1 l Z a0 hw [] p2 (3 : Int32) h0) e3 (W := 2) (by decide) (by decide) (by decide) (by decide) (g := (mkF m 35 #[.val (.long q0), .second, .val (.int p1), .val (.int p2), .val (.long (p1 &&& (255 : Int32)).toInt64), .second, .val (.long ((72340172838076673 : Int64) * (p1 &&& (255 : Int32)).toInt64)), .second, .unset, .unset, .unset, .unset, .unset, .unset, .unset, .unset, .unset, .unset, .unset, .unset, .unset, .unset, .unset] [(.int (3 : Int32)), (.int p2), (.long (((f1 p2 (0 : Int32)) ||| (f1 p2 (1 : Int32))) ||| (f1 p2 (2 : Int32))))])) rfl (by rw [hml]; rfl) (argsL := [(.int p2), (.int (3 : Int32))]) (rest := [(.long (((f1 p2 (0 : Int32)) ||| (f1 p2 (1 : Int32))) ||| (f1 p2 (2 : Int32))))]) rfl (lenOf pd_0 rfl) rfl (by show 2 * 0 + _ ≤ _; exact Nat.le_of_eq rfl) (hb hby at_35)
  refine Fini.st st4 ?_
  show Fini p e below s _ _ _ T4 (mkF m 38 #[.val (.long q0), .second, .val (.int p1), .val (.int p2), .val (.long (p1 &&& (255 : Int32)).toInt64), .second, .val (.long ((72340172838076673 : Int64) * (p1 &&& (255 : Int32)).toInt64)), .second, .unset, .unset, .unset, .unset, .unset, .unset, .unset, .unset, .unset, .unset, .unset, .unset, .unset, .unset, .unset] [(.long (f1 p2 (3 : Int32))), (.long (((f1 p2 (0 : Int32)) ||| (f1 p2 (1 : Int32))) ||| (f1 p2 (2 : Int32))))])
  refine Fini.st (fun _ k => XS.lor X4.here hx rfl (hb hby at_38) rfl k) ?_
  show Fini p e below s _ _ _ T4 (mkF m 39 #[.val (.long q0), .second, .val (.int p1), .val (.int p2), .val (.long (p1 &&& (255 : Int32)).toInt64), .second, .val (.long ((72340172838076673 : Int64) * (p1 &&& (255 : Int32)).toInt64)), .second, .unset, .unset, .unset, .unset, .unset, .unset, .unset, .unset, .unset, .unset, .unset, .unset, .unset, .unset, .unset] [(.long ((((f1 p2 (0 : Int32)) ||| (f1 p2 (1 : Int32))) ||| (f1 p2 (2 : Int32))) ||| (f1 p2 (3 : Int32))))])
  refine Fini.st (fun _ k => XS.iloadN X4.here hx rfl (hb hby at_39) rfl k) ?_
  show Fini p e below s _ _ _ T4 (mkF m 40 #[.val (.long q0), .second, .val (.int p1), .val (.int p2), .val (.long (p1 &&& (255 : Int32)).toInt64), .second, .val (.long ((72340172838076673 : Int64) * (p1 &&& (255 : Int32)).toInt64)), .second, .unset, .unset, .unset, .unset, .unset, .unset, .unset, .unset, .unset, .unset, .unset, .unset, .unset, .unset, .unset] [(.int p2), (.long ((((f1 p2 (0 : Int32)) ||| (f1 p2 (1 : Int32))) ||| (f1 p2 (2 : Int32))) ||| (f1 p2 (3 : Int32))))])
  refine Fini.st (fun _ k => XS.iconst X4.here hx rfl (hb hby at_40) k) ?_
  show Fini p e below s _ _ _ T4 (mkF m 41 #[.val (.long q0), .second, .val (.int p1), .val (.int p2), .val (.long (p1 &&& (255 : Int32)).toInt64), .second, .val (.long ((72340172838076673 : Int64) * (p1 &&& (255 : Int32)).toInt64)), .second, .unset, .unset, .unset, .unset, .unset, .unset, .unset, .unset, .unset, .unset, .unset, .unset, .unset, .unset, .unset] [(.int (4 : Int32)), (.int p2), (.long ((((f1 p2 (0 : Int32)) ||| (f1 p2 (1 : Int32))) ||| (f1 p2 (2 : Int32))) ||| (f1 p2 (3 : Int32))))])
  obtain ⟨T5, X5, e5, st5⟩ := pureS X4 hx hZ hown (hw _ (List.mem_of_getElem? (i := 1) rfl)) (hw _ (List.mem_of_getElem? (i := 2) rfl)) (hw _ (List.mem_of_getElem? (i := 3) rfl)) (hw _ (List.mem_of_getElem? (i := 4) rfl)) (by decide) (rm1 l Z a0 hw [] p2 (4 : Int32) h0) e4 (W := 2) (by decide) (by decide) (by decide) (by decide) (g := (mkF m 41 #[.val (.long q0), .second, .val (.int p1), .val (.int p2), .val (.long (p1 &&& (255 : Int32)).toInt64), .second, .val (.long ((72340172838076673 : Int64) * (p1 &&& (255 : Int32)).toInt64)), .second, .unset, .unset, .unset, .unset, .unset, .unset, .unset, .unset, .unset, .unset, .unset, .unset, .unset, .unset, .unset] [(.int (4 : Int32)), (.int p2), (.long ((((f1 p2 (0 : Int32)) ||| (f1 p2 (1 : Int32))) ||| (f1 p2 (2 : Int32))) ||| (f1 p2 (3 : Int32))))])) rfl (by rw [hml]; rfl) (argsL := [(.int p2), (.int (4 : Int32))]) (rest := [(.long ((((f1 p2 (0 : Int32)) ||| (f1 p2 (1 : Int32))) ||| (f1 p2 (2 : Int32))) ||| (f1 p2 (3 : Int32))))]) rfl (lenOf pd_0 rfl) rfl (by show 2 * 0 + _ ≤ _; exact Nat.le_of_eq rfl) (hb hby at_41)
  refine Fini.st st5 ?_
  show Fini p e below s _ _ _ T5 (mkF m 44 #[.val (.long q0), .second, .val (.int p1), .val (.int p2), .val (.long (p1 &&& (255 : Int32)).toInt64), .second, .val (.long ((72340172838076673 : Int64) * (p1 &&& (255 : Int32)).toInt64)), .second, .unset, .unset, .unset, .unset, .unset, .unset, .unset, .unset, .unset, .unset, .unset, .unset, .unset, .unset, .unset] [(.long (f1 p2 (4 : Int32))), (.long ((((f1 p2 (0 : Int32)) ||| (f1 p2 (1 : Int32))) ||| (f1 p2 (2 : Int32))) ||| (f1 p2 (3 : Int32))))])
  refine Fini.st (fun _ k => XS.lor X5.here hx rfl (hb hby at_44) rfl k) ?_
  show Fini p e below s _ _ _ T5 (mkF m 45 #[.val (.long q0), .second, .val (.int p1), .val (.int p2), .val (.long (p1 &&& (255 : Int32)).toInt64), .second, .val (.long ((72340172838076673 : Int64) * (p1 &&& (255 : Int32)).toInt64)), .second, .unset, .unset, .unset, .unset, .unset, .unset, .unset, .unset, .unset, .unset, .unset, .unset, .unset, .unset, .unset] [(.long (((((f1 p2 (0 : Int32)) ||| (f1 p2 (1 : Int32))) ||| (f1 p2 (2 : Int32))) ||| (f1 p2 (3 : Int32))) ||| (f1 p2 (4 : Int32))))])
  refine Fini.st (fun _ k => XS.iloadN X5.here hx rfl (hb hby at_45) rfl k) ?_
  show Fini p e below s _ _ _ T5 (mkF m 46 #[.val (.long q0), .second, .val (.int p1), .val (.int p2), .val (.long (p1 &&& (255 : Int32)).toInt64), .second, .val (.long ((72340172838076673 : Int64) * (p1 &&& (255 : Int32)).toInt64)), .second, .unset, .unset, .unset, .unset, .unset, .unset, .unset, .unset, .unset, .unset, .unset, .unset, .unset, .unset, .unset] [(.int p2), (.long (((((f1 p2 (0 : Int32)) ||| (f1 p2 (1 : Int32))) ||| (f1 p2 (2 : Int32))) ||| (f1 p2 (3 : Int32))) ||| (f1 p2 (4 : Int32))))])
  refine Fini.st (fun _ k => XS.iconst X5.here hx rfl (hb hby at_46) k) ?_
  show Fini p e below s _ _ _ T5 (mkF m 47 #[.val (.long q0), .second, .val (.int p1), .val (.int p2), .val (.long (p1 &&& (255 : Int32)).toInt64), .second, .val (.long ((72340172838076673 : Int64) * (p1 &&& (255 : Int32)).toInt64)), .second, .unset, .unset, .unset, .unset, .unset, .unset, .unset, .unset, .unset, .unset, .unset, .unset, .unset, .unset, .unset] [(.int (5 : Int32)), (.int p2), (.long (((((f1 p2 (0 : Int32)) ||| (f1 p2 (1 : Int32))) ||| (f1 p2 (2 : Int32))) ||| (f1 p2 (3 : Int32))) ||| (f1 p2 (4 : Int32))))])
  obtain ⟨T6, X6, e6, st6⟩ := pureS X5 hx hZ hown (hw _ (List.mem_of_getElem? (i := 1) rfl)) (hw _ (List.mem_of_getElem? (i := 2) rfl)) (hw _ (List.mem_of_getElem? (i := 3) rfl)) (hw _ (List.mem_of_getElem? (i := 4) rfl)) (by decide) (rm1 l Z a0 hw [] p2 (5 : Int32) h0) e5 (W := 2) (by decide) (by decide) (by decide) (by decide) (g := (mkF m 47 #[.val (.long q0), .second, .val (.int p1), .val (.int p2), .val (.long (p1 &&& (255 : Int32)).toInt64), .second, .val (.long ((72340172838076673 : Int64) * (p1 &&& (255 : Int32)).toInt64)), .second, .unset, .unset, .unset, .unset, .unset, .unset, .unset, .unset, .unset, .unset, .unset, .unset, .unset, .unset, .unset] [(.int (5 : Int32)), (.int p2), (.long (((((f1 p2 (0 : Int32)) ||| (f1 p2 (1 : Int32))) ||| (f1 p2 (2 : Int32))) ||| (f1 p2 (3 : Int32))) ||| (f1 p2 (4 : Int32))))])) rfl (by rw [hml]; rfl) (argsL := [(.int p2), (.int (5 : Int32))]) (rest := [(.long (((((f1 p2 (0 : Int32)) ||| (f1 p2 (1 : Int32))) ||| (f1 p2 (2 : Int32))) ||| (f1 p2 (3 : Int32))) ||| (f1 p2 (4 : Int32))))]) rfl (lenOf pd_0 rfl) rfl (by show 2 * 0 + _ ≤ _; exact Nat.le_of_eq rfl) (hb hby at_47)
  refine Fini.st st6 ?_
  show Fini p e below s _ _ _ T6 (mkF m 50 #[.val (.long q0), .second, .val (.int p1), .val (.int p2), .val (.long (p1 &&& (255 : Int32)).toInt64), .second, .val (.long ((72340172838076673 : Int64) * (p1 &&& (255 : Int32)).toInt64)), .second, .unset, .unset, .unset, .unset, .unset, .unset, .unset, .unset, .unset, .unset, .unset, .unset, .unset, .unset, .unset] [(.long (f1 p2 (5 : Int32))), (.long (((((f1 p2 (0 : Int32)) ||| (f1 p2 (1 : Int32))) ||| (f1 p2 (2 : Int32))) ||| (f1 p2 (3 : Int32))) ||| (f1 p2 (4 : Int32))))])
  refine Fini.st (fun _ k => XS.lor X6.here hx rfl (hb hby at_50) rfl k) ?_
  show Fini p e below s _ _ _ T6 (mkF m 51 #[.val (.long q0), .second, .val (.int p1), .val (.int p2), .val (.long (p1 &&& (255 : Int32)).toInt64), .second, .val (.long ((72340172838076673 : Int64) * (p1 &&& (255 : Int32)).toInt64)), .second, .unset, .unset, .unset, .unset, .unset, .unset, .unset, .unset, .unset, .unset, .unset, .unset, .unset, .unset, .unset] [(.long ((((((f1 p2 (0 : Int32)) ||| (f1 p2 (1 : Int32))) ||| (f1 p2 (2 : Int32))) ||| (f1 p2 (3 : Int32))) ||| (f1 p2 (4 : Int32))) ||| (f1 p2 (5 : Int32))))])
  refine Fini.st (fun _ k => XS.iloadN X6.here hx rfl (hb hby at_51) rfl k) ?_
  show Fini p e below s _ _ _ T6 (mkF m 52 #[.val (.long q0), .second, .val (.int p1), .val (.int p2), .val (.long (p1 &&& (255 : Int32)).toInt64), .second, .val (.long ((72340172838076673 : Int64) * (p1 &&& (255 : Int32)).toInt64)), .second, .unset, .unset, .unset, .unset, .unset, .unset, .unset, .unset, .unset, .unset, .unset, .unset, .unset, .unset, .unset] [(.int p2), (.long ((((((f1 p2 (0 : Int32)) ||| (f1 p2 (1 : Int32))) ||| (f1 p2 (2 : Int32))) ||| (f1 p2 (3 : Int32))) ||| (f1 p2 (4 : Int32))) ||| (f1 p2 (5 : Int32))))])
  refine Fini.st (fun _ k => XS.bipush X6.here hx rfl (hb hby at_52) k) ?_
  show Fini p e below s _ _ _ T6 (mkF m 54 #[.val (.long q0), .second, .val (.int p1), .val (.int p2), .val (.long (p1 &&& (255 : Int32)).toInt64), .second, .val (.long ((72340172838076673 : Int64) * (p1 &&& (255 : Int32)).toInt64)), .second, .unset, .unset, .unset, .unset, .unset, .unset, .unset, .unset, .unset, .unset, .unset, .unset, .unset, .unset, .unset] [(.int (6 : Int32)), (.int p2), (.long ((((((f1 p2 (0 : Int32)) ||| (f1 p2 (1 : Int32))) ||| (f1 p2 (2 : Int32))) ||| (f1 p2 (3 : Int32))) ||| (f1 p2 (4 : Int32))) ||| (f1 p2 (5 : Int32))))])
  obtain ⟨T7, X7, e7, st7⟩ := pureS X6 hx hZ hown (hw _ (List.mem_of_getElem? (i := 1) rfl)) (hw _ (List.mem_of_getElem? (i := 2) rfl)) (hw _ (List.mem_of_getElem? (i := 3) rfl)) (hw _ (List.mem_of_getElem? (i := 4) rfl)) (by decide) (rm1 l Z a0 hw [] p2 (6 : Int32) h0) e6 (W := 2) (by decide) (by decide) (by decide) (by decide) (g := (mkF m 54 #[.val (.long q0), .second, .val (.int p1), .val (.int p2), .val (.long (p1 &&& (255 : Int32)).toInt64), .second, .val (.long ((72340172838076673 : Int64) * (p1 &&& (255 : Int32)).toInt64)), .second, .unset, .unset, .unset, .unset, .unset, .unset, .unset, .unset, .unset, .unset, .unset, .unset, .unset, .unset, .unset] [(.int (6 : Int32)), (.int p2), (.long ((((((f1 p2 (0 : Int32)) ||| (f1 p2 (1 : Int32))) ||| (f1 p2 (2 : Int32))) ||| (f1 p2 (3 : Int32))) ||| (f1 p2 (4 : Int32))) ||| (f1 p2 (5 : Int32))))])) rfl (by rw [hml]; rfl) (argsL := [(.int p2), (.int (6 : Int32))]) (rest := [(.long ((((((f1 p2 (0 : Int32)) ||| (f1 p2 (1 : Int32))) ||| (f1 p2 (2 : Int32))) ||| (f1 p2 (3 : Int32))) ||| (f1 p2 (4 : Int32))) ||| (f1 p2 (5 : Int32))))]) rfl (lenOf pd_0 rfl) rfl (by show 2 * 0 + _ ≤ _; exact Nat.le_of_eq rfl) (hb hby at_54)
  refine Fini.st st7 ?_
  show Fini p e below s _ _ _ T7 (mkF m 57 #[.val (.long q0), .second, .val (.int p1), .val (.int p2), .val (.long (p1 &&& (255 : Int32)).toInt64), .second, .val (.long ((72340172838076673 : Int64) * (p1 &&& (255 : Int32)).toInt64)), .second, .unset, .unset, .unset, .unset, .unset, .unset, .unset, .unset, .unset, .unset, .unset, .unset, .unset, .unset, .unset] [(.long (f1 p2 (6 : Int32))), (.long ((((((f1 p2 (0 : Int32)) ||| (f1 p2 (1 : Int32))) ||| (f1 p2 (2 : Int32))) ||| (f1 p2 (3 : Int32))) ||| (f1 p2 (4 : Int32))) ||| (f1 p2 (5 : Int32))))])
  refine Fini.st (fun _ k => XS.lor X7.here hx rfl (hb hby at_57) rfl k) ?_
  show Fini p e below s _ _ _ T7 (mkF m 58 #[.val (.long q0), .second, .val (.int p1), .val (.int p2), .val (.long (p1 &&& (255 : Int32)).toInt64), .second, .val (.long ((72340172838076673 : Int64) * (p1 &&& (255 : Int32)).toInt64)), .second, .unset, .unset, .unset, .unset, .unset, .unset, .unset, .unset, .unset, .unset, .unset, .unset, .unset, .unset, .unset] [(.long (((((((f1 p2 (0 : Int32)) ||| (f1 p2 (1 : Int32))) ||| (f1 p2 (2 : Int32))) ||| (f1 p2 (3 : Int32))) ||| (f1 p2 (4 : Int32))) ||| (f1 p2 (5 : Int32))) ||| (f1 p2 (6 : Int32))))])
  refine Fini.st (fun _ k => XS.iloadN X7.here hx rfl (hb hby at_58) rfl k) ?_
  show Fini p e below s _ _ _ T7 (mkF m 59 #[.val (.long q0), .second, .val (.int p1), .val (.int p2), .val (.long (p1 &&& (255 : Int32)).toInt64), .second, .val (.long ((72340172838076673 : Int64) * (p1 &&& (255 : Int32)).toInt64)), .second, .unset, .unset, .unset, .unset, .unset, .unset, .unset, .unset, .unset, .unset, .unset, .unset, .unset, .unset, .unset] [(.int p2), (.long (((((((f1 p2 (0 : Int32)) ||| (f1 p2 (1 : Int32))) ||| (f1 p2 (2 : Int32))) ||| (f1 p2 (3 : Int32))) ||| (f1 p2 (4 : Int32))) ||| (f1 p2 (5 : Int32))) ||| (f1 p2 (6 : Int32))))])
  refine Fini.st (fun _ k => XS.bipush X7.here hx rfl (hb hby at_59) k) ?_
  show Fini p e below s _ _ _ T7 (mkF m 61 #[.val (.long q0), .second, .val (.int p1), .val (.int p2), .val (.long (p1 &&& (255 : Int32)).toInt64), .second, .val (.long ((72340172838076673 : Int64) * (p1 &&& (255 : Int32)).toInt64)), .second, .unset, .unset, .unset, .unset, .unset, .unset, .unset, .unset, .unset, .unset, .unset, .unset, .unset, .unset, .unset] [(.int (7 : Int32)), (.int p2), (.long (((((((f1 p2 (0 : Int32)) ||| (f1 p2 (1 : Int32))) ||| (f1 p2 (2 : Int32))) ||| (f1 p2 (3 : Int32))) ||| (f1 p2 (4 : Int32))) ||| (f1 p2 (5 : Int32))) ||| (f1 p2 (6 : Int32))))])
  obtain ⟨T8, X8, e8, st8⟩ := pureS X7 hx hZ hown (hw _ (List.mem_of_getElem? (i := 1) rfl)) (hw _ (List.mem_of_getElem? (i := 2) rfl)) (hw _ (List.mem_of_getElem? (i := 3) rfl)) (hw _ (List.mem_of_getElem? (i := 4) rfl)) (by decide) (rm1 l Z a0 hw [] p2 (7 : Int32) h0) e7 (W := 2) (by decide) (by decide) (by decide) (by decide) (g := (mkF m 61 #[.val (.long q0), .second, .val (.int p1), .val (.int p2), .val (.long (p1 &&& (255 : Int32)).toInt64), .second, .val (.long ((72340172838076673 : Int64) * (p1 &&& (255 : Int32)).toInt64)), .second, .unset, .unset, .unset, .unset, .unset, .unset, .unset, .unset, .unset, .unset, .unset, .unset, .unset, .unset, .unset] [(.int (7 : Int32)), (.int p2), (.long (((((((f1 p2 (0 : Int32)) ||| (f1 p2 (1 : Int32))) ||| (f1 p2 (2 : Int32))) ||| (f1 p2 (3 : Int32))) ||| (f1 p2 (4 : Int32))) ||| (f1 p2 (5 : Int32))) ||| (f1 p2 (6 : Int32))))])) rfl (by rw [hml]; rfl) (argsL := [(.int p2), (.int (7 : Int32))]) (rest := [(.long (((((((f1 p2 (0 : Int32)) ||| (f1 p2 (1 : Int32))) ||| (f1 p2 (2 : Int32))) ||| (f1 p2 (3 : Int32))) ||| (f1 p2 (4 : Int32))) ||| (f1 p2 (5 : Int32))) ||| (f1 p2 (6 : Int32))))]) rfl (lenOf pd_0 rfl) rfl (by show 2 * 0 + _ ≤ _; exact Nat.le_of_eq rfl) (hb hby at_61)
  refine Fini.st st8 ?_
  show Fini p e below s _ _ _ T8 (mkF m 64 #[.val (.long q0), .second, .val (.int p1), .val (.int p2), .val (.long (p1 &&& (255 : Int32)).toInt64), .second, .val (.long ((72340172838076673 : Int64) * (p1 &&& (255 : Int32)).toInt64)), .second, .unset, .unset, .unset, .unset, .unset, .unset, .unset, .unset, .unset, .unset, .unset, .unset, .unset, .unset, .unset] [(.long (f1 p2 (7 : Int32))), (.long (((((((f1 p2 (0 : Int32)) ||| (f1 p2 (1 : Int32))) ||| (f1 p2 (2 : Int32))) ||| (f1 p2 (3 : Int32))) ||| (f1 p2 (4 : Int32))) ||| (f1 p2 (5 : Int32))) ||| (f1 p2 (6 : Int32))))])
  refine Fini.st (fun _ k => XS.lor X8.here hx rfl (hb hby at_64) rfl k) ?_
  show Fini p e below s _ _ _ T8 (mkF m 65 #[.val (.long q0), .second, .val (.int p1), .val (.int p2), .val (.long (p1 &&& (255 : Int32)).toInt64), .second, .val (.long ((72340172838076673 : Int64) * (p1 &&& (255 : Int32)).toInt64)), .second, .unset, .unset, .unset, .unset, .unset, .unset, .unset, .unset, .unset, .unset, .unset, .unset, .unset, .unset, .unset] [(.long ((((((((f1 p2 (0 : Int32)) ||| (f1 p2 (1 : Int32))) ||| (f1 p2 (2 : Int32))) ||| (f1 p2 (3 : Int32))) ||| (f1 p2 (4 : Int32))) ||| (f1 p2 (5 : Int32))) ||| (f1 p2 (6 : Int32))) ||| (f1 p2 (7 : Int32))))])
  refine Fini.st (fun _ k => XS.lstore X8.here hx rfl (hb hby at_65) rfl (l' := #[.val (.long q0), .second, .val (.int p1), .val (.int p2), .val (.long (p1 &&& (255 : Int32)).toInt64), .second, .val (.long ((72340172838076673 : Int64) * (p1 &&& (255 : Int32)).toInt64)), .second, .val (.long (g0_65 p2)), .second, .unset, .unset, .unset, .unset, .unset, .unset, .unset, .unset, .unset, .unset, .unset, .unset, .unset]) rfl k) ?_
  show Fini p e below s _ _ _ T8 (mkF m 67 #[.val (.long q0), .second, .val (.int p1), .val (.int p2), .val (.long (p1 &&& (255 : Int32)).toInt64), .second, .val (.long ((72340172838076673 : Int64) * (p1 &&& (255 : Int32)).toInt64)), .second, .val (.long (g0_65 p2)), .second, .unset, .unset, .unset, .unset, .unset, .unset, .unset, .unset, .unset, .unset, .unset, .unset, .unset] [])
  refine Fini.st (fun _ k => XS.lloadN X8.here hx rfl (hb hby at_67) rfl k) ?_
  show Fini p e below s _ _ _ T8 (mkF m 68 #[.val (.long q0), .second, .val (.int p1), .val (.int p2), .val (.long (p1 &&& (255 : Int32)).toInt64), .second, .val (.long ((72340172838076673 : Int64) * (p1 &&& (255 : Int32)).toInt64)), .second, .val (.long (g0_65 p2)), .second, .unset, .unset, .unset, .unset, .unset, .unset, .unset, .unset, .unset, .unset, .unset, .unset, .unset] [(.long q0)])
  refine Fini.st (fun _ k => XS.lload X8.here hx rfl (hb hby at_68) rfl k) ?_
  show Fini p e below s _ _ _ T8 (mkF m 70 #[.val (.long q0), .second, .val (.int p1), .val (.int p2), .val (.long (p1 &&& (255 : Int32)).toInt64), .second, .val (.long ((72340172838076673 : Int64) * (p1 &&& (255 : Int32)).toInt64)), .second, .val (.long (g0_65 p2)), .second, .unset, .unset, .unset, .unset, .unset, .unset, .unset, .unset, .unset, .unset, .unset, .unset, .unset] [(.long (g0_65 p2)), (.long q0)])
  refine Fini.st (fun _ k => X8.ldc2J hx hown (mvT hZ (hw _ (List.mem_of_getElem? (i := 6) rfl))) rfl (hb hby at_70) k) ?_
  show Fini p e below s _ _ _ T8 (mkF m 73 #[.val (.long q0), .second, .val (.int p1), .val (.int p2), .val (.long (p1 &&& (255 : Int32)).toInt64), .second, .val (.long ((72340172838076673 : Int64) * (p1 &&& (255 : Int32)).toInt64)), .second, .val (.long (g0_65 p2)), .second, .unset, .unset, .unset, .unset, .unset, .unset, .unset, .unset, .unset, .unset, .unset, .unset, .unset] [(.long (-1 : Int64)), (.long (g0_65 p2)), (.long q0)])
  refine Fini.st (fun _ k => XS.lxor X8.here hx rfl (hb hby at_73) rfl k) ?_
  show Fini p e below s _ _ _ T8 (mkF m 74 #[.val (.long q0), .second, .val (.int p1), .val (.int p2), .val (.long (p1 &&& (255 : Int32)).toInt64), .second, .val (.long ((72340172838076673 : Int64) * (p1 &&& (255 : Int32)).toInt64)), .second, .val (.long (g0_65 p2)), .second, .unset, .unset, .unset, .unset, .unset, .unset, .unset, .unset, .unset, .unset, .unset, .unset, .unset] [(.long ((g0_65 p2) ^^^ (-1 : Int64))), (.long q0)])
  refine Fini.st (fun _ k => XS.land X8.here hx rfl (hb hby at_74) rfl k) ?_
  show Fini p e below s _ _ _ T8 (mkF m 75 #[.val (.long q0), .second, .val (.int p1), .val (.int p2), .val (.long (p1 &&& (255 : Int32)).toInt64), .second, .val (.long ((72340172838076673 : Int64) * (p1 &&& (255 : Int32)).toInt64)), .second, .val (.long (g0_65 p2)), .second, .unset, .unset, .unset, .unset, .unset, .unset, .unset, .unset, .unset, .unset, .unset, .unset, .unset] [(.long (q0 &&& ((g0_65 p2) ^^^ (-1 : Int64))))])
  refine Fini.st (fun _ k => XS.lload X8.here hx rfl (hb hby at_75) rfl k) ?_
  show Fini p e below s _ _ _ T8 (mkF m 77 #[.val (.long q0), .second, .val (.int p1), .val (.int p2), .val (.long (p1 &&& (255 : Int32)).toInt64), .second, .val (.long ((72340172838076673 : Int64) * (p1 &&& (255 : Int32)).toInt64)), .second, .val (.long (g0_65 p2)), .second, .unset, .unset, .unset, .unset, .unset, .unset, .unset, .unset, .unset, .unset, .unset, .unset, .unset] [(.long ((72340172838076673 : Int64) * (p1 &&& (255 : Int32)).toInt64)), (.long (q0 &&& ((g0_65 p2) ^^^ (-1 : Int64))))])
  refine Fini.st (fun _ k => XS.lload X8.here hx rfl (hb hby at_77) rfl k) ?_
  show Fini p e below s _ _ _ T8 (mkF m 79 #[.val (.long q0), .second, .val (.int p1), .val (.int p2), .val (.long (p1 &&& (255 : Int32)).toInt64), .second, .val (.long ((72340172838076673 : Int64) * (p1 &&& (255 : Int32)).toInt64)), .second, .val (.long (g0_65 p2)), .second, .unset, .unset, .unset, .unset, .unset, .unset, .unset, .unset, .unset, .unset, .unset, .unset, .unset] [(.long (g0_65 p2)), (.long ((72340172838076673 : Int64) * (p1 &&& (255 : Int32)).toInt64)), (.long (q0 &&& ((g0_65 p2) ^^^ (-1 : Int64))))])
  refine Fini.st (fun _ k => XS.land X8.here hx rfl (hb hby at_79) rfl k) ?_
  show Fini p e below s _ _ _ T8 (mkF m 80 #[.val (.long q0), .second, .val (.int p1), .val (.int p2), .val (.long (p1 &&& (255 : Int32)).toInt64), .second, .val (.long ((72340172838076673 : Int64) * (p1 &&& (255 : Int32)).toInt64)), .second, .val (.long (g0_65 p2)), .second, .unset, .unset, .unset, .unset, .unset, .unset, .unset, .unset, .unset, .unset, .unset, .unset, .unset] [(.long (((72340172838076673 : Int64) * (p1 &&& (255 : Int32)).toInt64) &&& (g0_65 p2))), (.long (q0 &&& ((g0_65 p2) ^^^ (-1 : Int64))))])
  refine Fini.st (fun _ k => XS.lor X8.here hx rfl (hb hby at_80) rfl k) ?_
  show Fini p e below s _ _ _ T8 (mkF m 81 #[.val (.long q0), .second, .val (.int p1), .val (.int p2), .val (.long (p1 &&& (255 : Int32)).toInt64), .second, .val (.long ((72340172838076673 : Int64) * (p1 &&& (255 : Int32)).toInt64)), .second, .val (.long (g0_65 p2)), .second, .unset, .unset, .unset, .unset, .unset, .unset, .unset, .unset, .unset, .unset, .unset, .unset, .unset] [(.long ((q0 &&& ((g0_65 p2) ^^^ (-1 : Int64))) ||| (((72340172838076673 : Int64) * (p1 &&& (255 : Int32)).toInt64) &&& (g0_65 p2))))])
  refine Fini.st (fun _ k => XS.lstore X8.here hx rfl (hb hby at_81) rfl (l' := #[.val (.long q0), .second, .val (.int p1), .val (.int p2), .val (.long (p1 &&& (255 : Int32)).toInt64), .second, .val (.long ((72340172838076673 : Int64) * (p1 &&& (255 : Int32)).toInt64)), .second, .val (.long (g0_65 p2)), .second, .val (.long (g0_81 q0 p1 p2)), .second, .unset, .unset, .unset, .unset, .unset, .unset, .unset, .unset, .unset, .unset, .unset]) rfl k) ?_
  show Fini p e below s _ _ _ T8 (mkF m 83 #[.val (.long q0), .second, .val (.int p1), .val (.int p2), .val (.long (p1 &&& (255 : Int32)).toInt64), .second, .val (.long ((72340172838076673 : Int64) * (p1 &&& (255 : Int32)).toInt64)), .second, .val (.long (g0_65 p2)), .second, .val (.long (g0_81 q0 p1 p2)), .second, .unset, .unset, .unset, .unset, .unset, .unset, .unset, .unset, .unset, .unset, .unset] [])
  refine Fini.st (fun _ k => XS.lload X8.here hx rfl (hb hby at_83) rfl k) ?_
  show Fini p e below s _ _ _ T8 (mkF m 85 #[.val (.long q0), .second, .val (.int p1), .val (.int p2), .val (.long (p1 &&& (255 : Int32)).toInt64), .second, .val (.long ((72340172838076673 : Int64) * (p1 &&& (255 : Int32)).toInt64)), .second, .val (.long (g0_65 p2)), .second, .val (.long (g0_81 q0 p1 p2)), .second, .unset, .unset, .unset, .unset, .unset, .unset, .unset, .unset, .unset, .unset, .unset] [(.long (g0_81 q0 p1 p2))])
  refine Fini.st (fun _ k => XS.lload X8.here hx rfl (hb hby at_85) rfl k) ?_
  show Fini p e below s _ _ _ T8 (mkF m 87 #[.val (.long q0), .second, .val (.int p1), .val (.int p2), .val (.long (p1 &&& (255 : Int32)).toInt64), .second, .val (.long ((72340172838076673 : Int64) * (p1 &&& (255 : Int32)).toInt64)), .second, .val (.long (g0_65 p2)), .second, .val (.long (g0_81 q0 p1 p2)), .second, .unset, .unset, .unset, .unset, .unset, .unset, .unset, .unset, .unset, .unset, .unset] [(.long ((72340172838076673 : Int64) * (p1 &&& (255 : Int32)).toInt64)), (.long (g0_81 q0 p1 p2))])
  obtain ⟨T9, X9, e9, st9⟩ := pureS X8 hx hZ hown (hw _ (List.mem_of_getElem? (i := 7) rfl)) (hw _ (List.mem_of_getElem? (i := 8) rfl)) (hw _ (List.mem_of_getElem? (i := 9) rfl)) (hw _ (List.mem_of_getElem? (i := 10) rfl)) (by decide) (rm2 l Z a0 hw [] (g0_81 q0 p1 p2) ((72340172838076673 : Int64) * (p1 &&& (255 : Int32)).toInt64) h0) e8 (W := 0) (by decide) (by decide) (by decide) (by decide) (g := (mkF m 87 #[.val (.long q0), .second, .val (.int p1), .val (.int p2), .val (.long (p1 &&& (255 : Int32)).toInt64), .second, .val (.long ((72340172838076673 : Int64) * (p1 &&& (255 : Int32)).toInt64)), .second, .val (.long (g0_65 p2)), .second, .val (.long (g0_81 q0 p1 p2)), .second, .unset, .unset, .unset, .unset, .unset, .unset, .unset, .unset, .unset, .unset, .unset] [(.long ((72340172838076673 : Int64) * (p1 &&& (255 : Int32)).toInt64)), (.long (g0_81 q0 p1 p2))])) rfl (by rw [hml]; rfl) (argsL := [(.long (g0_81 q0 p1 p2)), (.long ((72340172838076673 : Int64) * (p1 &&& (255 : Int32)).toInt64))]) (rest := []) rfl (lenOf pd_1 rfl) rfl (by show 2 * 0 + _ ≤ _; exact Nat.le_of_eq rfl) (hb hby at_87)
  refine Fini.st st9 ?_
  show Fini p e below s _ _ _ T9 (mkF m 90 #[.val (.long q0), .second, .val (.int p1), .val (.int p2), .val (.long (p1 &&& (255 : Int32)).toInt64), .second, .val (.long ((72340172838076673 : Int64) * (p1 &&& (255 : Int32)).toInt64)), .second, .val (.long (g0_65 p2)), .second, .val (.long (g0_81 q0 p1 p2)), .second, .unset, .unset, .unset, .unset, .unset, .unset, .unset, .unset, .unset, .unset, .unset] [(.long (f2 (g0_81 q0 p1 p2) ((72340172838076673 : Int64) * (p1 &&& (255 : Int32)).toInt64)))])
  refine Fini.st (fun _ k => XS.lstore X9.here hx rfl (hb hby at_90) rfl (l' := #[.val (.long q0), .second, .val (.int p1), .val (.int p2), .val (.long (p1 &&& (255 : Int32)).toInt64), .second, .val (.long ((72340172838076673 : Int64) * (p1 &&& (255 : Int32)).toInt64)), .second, .val (.long (g0_65 p2)), .second, .val (.long (g0_81 q0 p1 p2)), .second, .val (.long (f2 (g0_81 q0 p1 p2) ((72340172838076673 : Int64) * (p1 &&& (255 : Int32)).toInt64))), .second, .unset, .unset, .unset, .unset, .unset, .unset, .unset, .unset, .unset]) rfl k) ?_
  show Fini p e below s _ _ _ T9 (mkF m 92 #[.val (.long q0), .second, .val (.int p1), .val (.int p2), .val (.long (p1 &&& (255 : Int32)).toInt64), .second, .val (.long ((72340172838076673 : Int64) * (p1 &&& (255 : Int32)).toInt64)), .second, .val (.long (g0_65 p2)), .second, .val (.long (g0_81 q0 p1 p2)), .second, .val (.long (f2 (g0_81 q0 p1 p2) ((72340172838076673 : Int64) * (p1 &&& (255 : Int32)).toInt64))), .second, .unset, .unset, .unset, .unset, .unset, .unset, .unset, .unset, .unset] [])
  refine Fini.st (fun _ k => XS.lload X9.here hx rfl (hb hby at_92) rfl k) ?_
  show Fini p e below s _ _ _ T9 (mkF m 94 #[.val (.long q0), .second, .val (.int p1), .val (.int p2), .val (.long (p1 &&& (255 : Int32)).toInt64), .second, .val (.long ((72340172838076673 : Int64) * (p1 &&& (255 : Int32)).toInt64)), .second, .val (.long (g0_65 p2)), .second, .val (.long (g0_81 q0 p1 p2)), .second, .val (.long (f2 (g0_81 q0 p1 p2) ((72340172838076673 : Int64) * (p1 &&& (255 : Int32)).toInt64))), .second, .unset, .unset, .unset, .unset, .unset, .unset, .unset, .unset, .unset] [(.long (g0_81 q0 p1 p2))])
  refine Fini.st (fun _ k => XS.lload X9.here hx rfl (hb hby at_94) rfl k) ?_
  show Fini p e below s _ _ _ T9 (mkF m 96 #[.val (.long q0), .second, .val (.int p1), .val (.int p2), .val (.long (p1 &&& (255 : Int32)).toInt64), .second, .val (.long ((72340172838076673 : Int64) * (p1 &&& (255 : Int32)).toInt64)), .second, .val (.long (g0_65 p2)), .second, .val (.long (g0_81 q0 p1 p2)), .second, .val (.long (f2 (g0_81 q0 p1 p2) ((72340172838076673 : Int64) * (p1 &&& (255 : Int32)).toInt64))), .second, .unset, .unset, .unset, .unset, .unset, .unset, .unset, .unset, .unset] [(.long (p1 &&& (255 : Int32)).toInt64), (.long (g0_81 q0 p1 p2))])
  refine Fini.st (fun _ k => XS.iconst X9.here hx rfl (hb hby at_96) k) ?_
  show Fini p e below s _ _ _ T9 (mkF m 97 #[.val (.long q0), .second, .val (.int p1), .val (.int p2), .val (.long (p1 &&& (255 : Int32)).toInt64), .second, .val (.long ((72340172838076673 : Int64) * (p1 &&& (255 : Int32)).toInt64)), .second, .val (.long (g0_65 p2)), .second, .val (.long (g0_81 q0 p1 p2)), .second, .val (.long (f2 (g0_81 q0 p1 p2) ((72340172838076673 : Int64) * (p1 &&& (255 : Int32)).toInt64))), .second, .unset, .unset, .unset, .unset, .unset, .unset, .unset, .unset, .unset] [(.int (0 : Int32)), (.long (p1 &&& (255 : Int32)).toInt64), (.long (g0_81 q0 p1 p2))])
  obtain ⟨T10, X10, e10, st10⟩ := pureS X9 hx hZ hown (hw _ (List.mem_of_getElem? (i := 14) rfl)) (hw _ (List.mem_of_getElem? (i := 15) rfl)) (hw _ (List.mem_of_getElem? (i := 3) rfl)) (hw _ (List.mem_of_getElem? (i := 16) rfl)) (by decide) (rm3 l Z a0 hw [] (g0_81 q0 p1 p2) ((p1 &&& (255 : Int32)).toInt64) (0 : Int32) h0) e9 (W := 0) (by decide) (by decide) (by decide) (by decide) (g := (mkF m 97 #[.val (.long q0), .second, .val (.int p1), .val (.int p2), .val (.long (p1 &&& (255 : Int32)).toInt64), .second, .val (.long ((72340172838076673 : Int64) * (p1 &&& (255 : Int32)).toInt64)), .second, .val (.long (g0_65 p2)), .second, .val (.long (g0_81 q0 p1 p2)), .second, .val (.long (f2 (g0_81 q0 p1 p2) ((72340172838076673 : Int64) * (p1 &&& (255 : Int32)).toInt64))), .second, .unset, .unset, .unset, .unset, .unset, .unset, .unset, .unset, .unset] [(.int (0 : Int32)), (.long (p1 &&& (255 : Int32)).toInt64), (.long (g0_81 q0 p1 p2))])) rfl (by rw [hml]; rfl) (argsL := [(.long (g0_81 q0 p1 p2)), (.long (p1 &&& (255 : Int32)).toInt64), (.int (0 : Int32))]) (rest := []) rfl (lenOf pd_2 rfl) rfl (by show 2 * 0 + _ ≤ _; exact Nat.le_of_eq rfl) (hb hby at_97)
  refine Fini.st st10 ?_
  show Fini p e below s _ _ _ T10 (mkF m 100 #[.val (.long q0), .second, .val (.int p1), .val (.int p2), .val (.long (p1 &&& (255 : Int32)).toInt64), .second, .val (.long ((72340172838076673 : Int64) * (p1 &&& (255 : Int32)).toInt64)), .second, .val (.long (g0_65 p2)), .second, .val (.long (g0_81 q0 p1 p2)), .second, .val (.long (f2 (g0_81 q0 p1 p2) ((72340172838076673 : Int64) * (p1 &&& (255 : Int32)).toInt64))), .second, .unset, .unset, .unset, .unset, .unset, .unset, .unset, .unset, .unset] [(.long (f3 (g0_81 q0 p1 p2) ((p1 &&& (255 : Int32)).toInt64) (0 : Int32)))])
  refine Fini.st (fun _ k => XS.lload X10.here hx rfl (hb hby at_100) rfl k) ?_
  show Fini p e below s _ _ _ T10 (mkF m 102 #[.val (.long q0), .second, .val (.int p1), .val (.int p2), .val (.long (p1 &&& (255 : Int32)).toInt64), .second, .val (.long ((72340172838076673 : Int64) * (p1 &&& (255 : Int32)).toInt64)), .second, .val (.long (g0_65 p2)), .second, .val (.long (g0_81 q0 p1 p2)), .second, .val (.long (f2 (g0_81 q0 p1 p2) ((72340172838076673 : Int64) * (p1 &&& (255 : Int32)).toInt64))), .second, .unset, .unset, .unset, .unset, .unset, .unset, .unset, .unset, .unset] [(.long (g0_81 q0 p1 p2)), (.long (f3 (g0_81 q0 p1 p2) ((p1 &&& (255 : Int32)).toInt64) (0 : Int32)))])
  refine Fini.st (fun _ k => XS.lload X10.here hx rfl (hb hby at_102) rfl k) ?_
  show Fini p e below s _ _ _ T10 (mkF m 104 #[.val (.long q0), .second, .val (.int p1), .val (.int p2), .val (.long (p1 &&& (255 : Int32)).toInt64), .second, .val (.long ((72340172838076673 : Int64) * (p1 &&& (255 : Int32)).toInt64)), .second, .val (.long (g0_65 p2)), .second, .val (.long (g0_81 q0 p1 p2)), .second, .val (.long (f2 (g0_81 q0 p1 p2) ((72340172838076673 : Int64) * (p1 &&& (255 : Int32)).toInt64))), .second, .unset, .unset, .unset, .unset, .unset, .unset, .unset, .unset, .unset] [(.long (p1 &&& (255 : Int32)).toInt64), (.long (g0_81 q0 p1 p2)), (.long (f3 (g0_81 q0 p1 p2) ((p1 &&& (255 : Int32)).toInt64) (0 : Int32)))])
  refine Fini.st (fun _ k => XS.iconst X10.here hx rfl (hb hby at_104) k) ?_
  show Fini p e below s _ _ _ T10 (mkF m 105 #[.val (.long q0), .second, .val (.int p1), .val (.int p2), .val (.long (p1 &&& (255 : Int32)).toInt64), .second, .val (.long ((72340172838076673 : Int64) * (p1 &&& (255 : Int32)).toInt64)), .second, .val (.long (g0_65 p2)), .second, .val (.long (g0_81 q0 p1 p2)), .second, .val (.long (f2 (g0_81 q0 p1 p2) ((72340172838076673 : Int64) * (p1 &&& (255 : Int32)).toInt64))), .second, .unset, .unset, .unset, .unset, .unset, .unset, .unset, .unset, .unset] [(.int (1 : Int32)), (.long (p1 &&& (255 : Int32)).toInt64), (.long (g0_81 q0 p1 p2)), (.long (f3 (g0_81 q0 p1 p2) ((p1 &&& (255 : Int32)).toInt64) (0 : Int32)))])
  obtain ⟨T11, X11, e11, st11⟩ := pureS X10 hx hZ hown (hw _ (List.mem_of_getElem? (i := 14) rfl)) (hw _ (List.mem_of_getElem? (i := 15) rfl)) (hw _ (List.mem_of_getElem? (i := 3) rfl)) (hw _ (List.mem_of_getElem? (i := 16) rfl)) (by decide) (rm3 l Z a0 hw [] (g0_81 q0 p1 p2) ((p1 &&& (255 : Int32)).toInt64) (1 : Int32) h0) e10 (W := 2) (by decide) (by decide) (by decide) (by decide) (g := (mkF m 105 #[.val (.long q0), .second, .val (.int p1), .val (.int p2), .val (.long (p1 &&& (255 : Int32)).toInt64), .second, .val (.long ((72340172838076673 : Int64) * (p1 &&& (255 : Int32)).toInt64)), .second, .val (.long (g0_65 p2)), .second, .val (.long (g0_81 q0 p1 p2)), .second, .val (.long (f2 (g0_81 q0 p1 p2) ((72340172838076673 : Int64) * (p1 &&& (255 : Int32)).toInt64))), .second, .unset, .unset, .unset, .unset, .unset, .unset, .unset, .unset, .unset] [(.int (1 : Int32)), (.long (p1 &&& (255 : Int32)).toInt64), (.long (g0_81 q0 p1 p2)), (.long (f3 (g0_81 q0 p1 p2) ((p1 &&& (255 : Int32)).toInt64) (0 : Int32)))])) rfl (by rw [hml]; rfl) (argsL := [(.long (g0_81 q0 p1 p2)), (.long (p1 &&& (255 : Int32)).toInt64), (.int (1 : Int32))]) (rest := [(.long (f3 (g0_81 q0 p1 p2) ((p1 &&& (255 : Int32)).toInt64) (0 : Int32)))]) rfl (lenOf pd_2 rfl) rfl (by show 2 * 0 + _ ≤ _; exact Nat.le_of_eq rfl) (hb hby at_105)
  refine Fini.st st11 ?_
  show Fini p e below s _ _ _ T11 (mkF m 108 #[.val (.long q0), .second, .val (.int p1), .val (.int p2), .val (.long (p1 &&& (255 : Int32)).toInt64), .second, .val (.long ((72340172838076673 : Int64) * (p1 &&& (255 : Int32)).toInt64)), .second, .val (.long (g0_65 p2)), .second, .val (.long (g0_81 q0 p1 p2)), .second, .val (.long (f2 (g0_81 q0 p1 p2) ((72340172838076673 : Int64) * (p1 &&& (255 : Int32)).toInt64))), .second, .unset, .unset, .unset, .unset, .unset, .unset, .unset, .unset, .unset] [(.long (f3 (g0_81 q0 p1 p2) ((p1 &&& (255 : Int32)).toInt64) (1 : Int32))), (.long (f3 (g0_81 q0 p1 p2) ((p1 &&& (255 : Int32)).toInt64) (0 : Int32)))])
  refine Fini.st (fun _ k => XS.lor X11.here hx rfl (hb hby at_108) rfl k) ?_
  show Fini p e below s _ _ _ T11 (mkF m 109 #[.val (.long q0), .second, .val (.int p1), .val (.int p2), .val (.long (p1 &&& (255 : Int32)).toInt64), .second, .val (.long ((72340172838076673 : Int64) * (p1 &&& (255 : Int32)).toInt64)), .second, .val (.long (g0_65 p2)), .second, .val (.long (g0_81 q0 p1 p2)), .second, .val (.long (f2 (g0_81 q0 p1 p2) ((72340172838076673 : Int64) * (p1 &&& (255 : Int32)).toInt64))), .second, .unset, .unset, .unset, .unset, .unset, .unset, .unset, .unset, .unset] [(.long ((f3 (g0_81 q0 p1 p2) ((p1 &&& (255 : Int32)).toInt64) (0 : Int32)) ||| (f3 (g0_81 q0 p1 p2) ((p1 &&& (255 : Int32)).toInt64) (1 : Int32))))])
  refine Fini.st (fun _ k => XS.lload X11.here hx rfl (hb hby at_109) rfl k) ?_
  show Fini p e below s _ _ _ T11 (mkF m 111 #[.val (.long q0), .second, .val (.int p1), .val (.int p2), .val (.long (p1 &&& (255 : Int32)).toInt64), .second, .val (.long ((72340172838076673 : Int64) * (p1 &&& (255 : Int32)).toInt64)), .second, .val (.long (g0_65 p2)), .second, .val (.long (g0_81 q0 p1 p2)), .second, .val (.long (f2 (g0_81 q0 p1 p2) ((72340172838076673 : Int64) * (p1 &&& (255 : Int32)).toInt64))), .second, .unset, .unset, .unset, .unset, .unset, .unset, .unset, .unset, .unset] [(.long (g0_81 q0 p1 p2)), (.long ((f3 (g0_81 q0 p1 p2) ((p1 &&& (255 : Int32)).toInt64) (0 : Int32)) ||| (f3 (g0_81 q0 p1 p2) ((p1 &&& (255 : Int32)).toInt64) (1 : Int32))))])
  refine Fini.st (fun _ k => XS.lload X11.here hx rfl (hb hby at_111) rfl k) ?_
  show Fini p e below s _ _ _ T11 (mkF m 113 #[.val (.long q0), .second, .val (.int p1), .val (.int p2), .val (.long (p1 &&& (255 : Int32)).toInt64), .second, .val (.long ((72340172838076673 : Int64) * (p1 &&& (255 : Int32)).toInt64)), .second, .val (.long (g0_65 p2)), .second, .val (.long (g0_81 q0 p1 p2)), .second, .val (.long (f2 (g0_81 q0 p1 p2) ((72340172838076673 : Int64) * (p1 &&& (255 : Int32)).toInt64))), .second, .unset, .unset, .unset, .unset, .unset, .unset, .unset, .unset, .unset] [(.long (p1 &&& (255 : Int32)).toInt64), (.long (g0_81 q0 p1 p2)), (.long ((f3 (g0_81 q0 p1 p2) ((p1 &&& (255 : Int32)).toInt64) (0 : Int32)) ||| (f3 (g0_81 q0 p1 p2) ((p1 &&& (255 : Int32)).toInt64) (1 : Int32))))])
  refine Fini.st (fun _ k => XS.iconst X11.here hx rfl (hb hby at_113) k) ?_
  show Fini p e below s _ _ _ T11 (mkF m 114 #[.val (.long q0), .second, .val (.int p1), .val (.int p2), .val (.long (p1 &&& (255 : Int32)).toInt64), .second, .val (.long ((72340172838076673 : Int64) * (p1 &&& (255 : Int32)).toInt64)), .second, .val (.long (g0_65 p2)), .second, .val (.long (g0_81 q0 p1 p2)), .second, .val (.long (f2 (g0_81 q0 p1 p2) ((72340172838076673 : Int64) * (p1 &&& (255 : Int32)).toInt64))), .second, .unset, .unset, .unset, .unset, .unset, .unset, .unset, .unset, .unset] [(.int (2 : Int32)), (.long (p1 &&& (255 : Int32)).toInt64), (.long (g0_81 q0 p1 p2)), (.long ((f3 (g0_81 q0 p1 p2) ((p1 &&& (255 : Int32)).toInt64) (0 : Int32)) ||| (f3 (g0_81 q0 p1 p2) ((p1 &&& (255 : Int32)).toInt64) (1 : Int32))))])
  obtain ⟨T12, X12, e12, st12⟩ := pureS X11 hx hZ hown (hw _ (List.mem_of_getElem? (i := 14) rfl)) (hw _ (List.mem_of_getElem? (i := 15) rfl)) (hw _ (List.mem_of_getElem? (i := 3) rfl)) (hw _ (List.mem_of_getElem? (i := 16) rfl)) (by decide) (rm3 l Z a0 hw [] (g0_81 q0 p1 p2) ((p1 &&& (255 : Int32)).toInt64) (2 : Int32) h0) e11 (W := 2) (by decide) (by decide) (by decide) (by decide) (g := (mkF m 114 #[.val (.long q0), .second, .val (.int p1), .val (.int p2), .val (.long (p1 &&& (255 : Int32)).toInt64), .second, .val (.long ((72340172838076673 : Int64) * (p1 &&& (255 : Int32)).toInt64)), .second, .val (.long (g0_65 p2)), .second, .val (.long (g0_81 q0 p1 p2)), .second, .val (.long (f2 (g0_81 q0 p1 p2) ((72340172838076673 : Int64) * (p1 &&& (255 : Int32)).toInt64))), .second, .unset, .unset, .unset, .unset, .unset, .unset, .unset, .unset, .unset] [(.int (2 : Int32)), (.long (p1 &&& (255 : Int32)).toInt64), (.long (g0_81 q0 p1 p2)), (.long ((f3 (g0_81 q0 p1 p2) ((p1 &&& (255 : Int32)).toInt64) (0 : Int32)) ||| (f3 (g0_81 q0 p1 p2) ((p1 &&& (255 : Int32)).toInt64) (1 : Int32))))])) rfl (by rw [hml]; rfl) (argsL := [(.long (g0_81 q0 p1 p2)), (.long (p1 &&& (255 : Int32)).toInt64), (.int (2 : Int32))]) (rest := [(.long ((f3 (g0_81 q0 p1 p2) ((p1 &&& (255 : Int32)).toInt64) (0 : Int32)) ||| (f3 (g0_81 q0 p1 p2) ((p1 &&& (255 : Int32)).toInt64) (1 : Int32))))]) rfl (lenOf pd_2 rfl) rfl (by show 2 * 0 + _ ≤ _; exact Nat.le_of_eq rfl) (hb hby at_114)
  refine Fini.st st12 ?_
  show Fini p e below s _ _ _ T12 (mkF m 117 #[.val (.long q0), .second, .val (.int p1), .val (.int p2), .val (.long (p1 &&& (255 : Int32)).toInt64), .second, .val (.long ((72340172838076673 : Int64) * (p1 &&& (255 : Int32)).toInt64)), .second, .val (.long (g0_65 p2)), .second, .val (.long (g0_81 q0 p1 p2)), .second, .val (.long (f2 (g0_81 q0 p1 p2) ((72340172838076673 : Int64) * (p1 &&& (255 : Int32)).toInt64))), .second, .unset, .unset, .unset, .unset, .unset, .unset, .unset, .unset, .unset] [(.long (f3 (g0_81 q0 p1 p2) ((p1 &&& (255 : Int32)).toInt64) (2 : Int32))), (.long ((f3 (g0_81 q0 p1 p2) ((p1 &&& (255 : Int32)).toInt64) (0 : Int32)) ||| (f3 (g0_81 q0 p1 p2) ((p1 &&& (255 : Int32)).toInt64) (1 : Int32))))])
  refine Fini.st (fun _ k => XS.lor X12.here hx rfl (hb hby at_117) rfl k) ?_
  show Fini p e below s _ _ _ T12 (mkF m 118 #[.val (.long q0), .second, .val (.int p1), .val (.int p2), .val (.long (p1 &&& (255 : Int32)).toInt64), .second, .val (.long ((72340172838076673 : Int64) * (p1 &&& (255 : Int32)).toInt64)), .second, .val (.long (g0_65 p2)), .second, .val (.long (g0_81 q0 p1 p2)), .second, .val (.long (f2 (g0_81 q0 p1 p2) ((72340172838076673 : Int64) * (p1 &&& (255 : Int32)).toInt64))), .second, .unset, .unset, .unset, .unset, .unset, .unset, .unset, .unset, .unset] [(.long (((f3 (g0_81 q0 p1 p2) ((p1 &&& (255 : Int32)).toInt64) (0 : Int32)) ||| (f3 (g0_81 q0 p1 p2) ((p1 &&& (255 : Int32)).toInt64) (1 : Int32))) ||| (f3 (g0_81 q0 p1 p2) ((p1 &&& (255 : Int32)).toInt64) (2 : Int32))))])
  refine Fini.st (fun _ k => XS.lload X12.here hx rfl (hb hby at_118) rfl k) ?_
  show Fini p e below s _ _ _ T12 (mkF m 120 #[.val (.long q0), .second, .val (.int p1), .val (.int p2), .val (.long (p1 &&& (255 : Int32)).toInt64), .second, .val (.long ((72340172838076673 : Int64) * (p1 &&& (255 : Int32)).toInt64)), .second, .val (.long (g0_65 p2)), .second, .val (.long (g0_81 q0 p1 p2)), .second, .val (.long (f2 (g0_81 q0 p1 p2) ((72340172838076673 : Int64) * (p1 &&& (255 : Int32)).toInt64))), .second, .unset, .unset, .unset, .unset, .unset, .unset, .unset, .unset, .unset] [(.long (g0_81 q0 p1 p2)), (.long (((f3 (g0_81 q0 p1 p2) ((p1 &&& (255 : Int32)).toInt64) (0 : Int32)) ||| (f3 (g0_81 q0 p1 p2) ((p1 &&& (255 : Int32)).toInt64) (1 : Int32))) ||| (f3 (g0_81 q0 p1 p2) ((p1 &&& (255 : Int32)).toInt64) (2 : Int32))))])
  refine Fini.st (fun _ k => XS.lload X12.here hx rfl (hb hby at_120) rfl k) ?_
  show Fini p e below s _ _ _ T12 (mkF m 122 #[.val (.long q0), .second, .val (.int p1), .val (.int p2), .val (.long (p1 &&& (255 : Int32)).toInt64), .second, .val (.long ((72340172838076673 : Int64) * (p1 &&& (255 : Int32)).toInt64)), .second, .val (.long (g0_65 p2)), .second, .val (.long (g0_81 q0 p1 p2)), .second, .val (.long (f2 (g0_81 q0 p1 p2) ((72340172838076673 : Int64) * (p1 &&& (255 : Int32)).toInt64))), .second, .unset, .unset, .unset, .unset, .unset, .unset, .unset, .unset, .unset] [(.long (p1 &&& (255 : Int32)).toInt64), (.long (g0_81 q0 p1 p2)), (.long (((f3 (g0_81 q0 p1 p2) ((p1 &&& (255 : Int32)).toInt64) (0 : Int32)) ||| (f3 (g0_81 q0 p1 p2) ((p1 &&& (255 : Int32)).toInt64) (1 : Int32))) ||| (f3 (g0_81 q0 p1 p2) ((p1 &&& (255 : Int32)).toInt64) (2 : Int32))))])
  refine Fini.st (fun _ k => XS.iconst X12.here hx rfl (hb hby at_122) k) ?_
  show Fini p e below s _ _ _ T12 (mkF m 123 #[.val (.long q0), .second, .val (.int p1), .val (.int p2), .val (.long (p1 &&& (255 : Int32)).toInt64), .second, .val (.long ((72340172838076673 : Int64) * (p1 &&& (255 : Int32)).toInt64)), .second, .val (.long (g0_65 p2)), .second, .val (.long (g0_81 q0 p1 p2)), .second, .val (.long (f2 (g0_81 q0 p1 p2) ((72340172838076673 : Int64) * (p1 &&& (255 : Int32)).toInt64))), .second, .unset, .unset, .unset, .unset, .unset, .unset, .unset, .unset, .unset] [(.int (3 : Int32)), (.long (p1 &&& (255 : Int32)).toInt64), (.long (g0_81 q0 p1 p2)), (.long (((f3 (g0_81 q0 p1 p2) ((p1 &&& (255 : Int32)).toInt64) (0 : Int32)) ||| (f3 (g0_81 q0 p1 p2) ((p1 &&& (255 : Int32)).toInt64) (1 : Int32))) ||| (f3 (g0_81 q0 p1 p2) ((p1 &&& (255 : Int32)).toInt64) (2 : Int32))))])
  obtain ⟨T13, X13, e13, st13⟩ := pureS X12 hx hZ hown (hw _ (List.mem_of_getElem? (i := 14) rfl)) (hw _ (List.mem_of_getElem? (i := 15) rfl)) (hw _ (List.mem_of_getElem? (i := 3) rfl)) (hw _ (List.mem_of_getElem? (i := 16) rfl)) (by decide) (rm3 l Z a0 hw [] (g0_81 q0 p1 p2) ((p1 &&& (255 : Int32)).toInt64) (3 : Int32) h0) e12 (W := 2) (by decide) (by decide) (by decide) (by decide) (g := (mkF m 123 #[.val (.long q0), .second, .val (.int p1), .val (.int p2), .val (.long (p1 &&& (255 : Int32)).toInt64), .second, .val (.long ((72340172838076673 : Int64) * (p1 &&& (255 : Int32)).toInt64)), .second, .val (.long (g0_65 p2)), .second, .val (.long (g0_81 q0 p1 p2)), .second, .val (.long (f2 (g0_81 q0 p1 p2) ((72340172838076673 : Int64) * (p1 &&& (255 : Int32)).toInt64))), .second, .unset, .unset, .unset, .unset, .unset, .unset, .unset, .unset, .unset] [(.int (3 : Int32)), (.long (p1 &&& (255 : Int32)).toInt64), (.long (g0_81 q0 p1 p2)), (.long (((f3 (g0_81 q0 p1 p2) ((p1 &&& (255 : Int32)).toInt64) (0 : Int32)) ||| (f3 (g0_81 q0 p1 p2) ((p1 &&& (255 : Int32)).toInt64) (1 : Int32))) ||| (f3 (g0_81 q0 p1 p2) ((p1 &&& (255 : Int32)).toInt64) (2 : Int32))))])) rfl (by rw [hml]; rfl) (argsL := [(.long (g0_81 q0 p1 p2)), (.long (p1 &&& (255 : Int32)).toInt64), (.int (3 : Int32))]) (rest := [(.long (((f3 (g0_81 q0 p1 p2) ((p1 &&& (255 : Int32)).toInt64) (0 : Int32)) ||| (f3 (g0_81 q0 p1 p2) ((p1 &&& (255 : Int32)).toInt64) (1 : Int32))) ||| (f3 (g0_81 q0 p1 p2) ((p1 &&& (255 : Int32)).toInt64) (2 : Int32))))]) rfl (lenOf pd_2 rfl) rfl (by show 2 * 0 + _ ≤ _; exact Nat.le_of_eq rfl) (hb hby at_123)
  refine Fini.st st13 ?_
  show Fini p e below s _ _ _ T13 (mkF m 126 #[.val (.long q0), .second, .val (.int p1), .val (.int p2), .val (.long (p1 &&& (255 : Int32)).toInt64), .second, .val (.long ((72340172838076673 : Int64) * (p1 &&& (255 : Int32)).toInt64)), .second, .val (.long (g0_65 p2)), .second, .val (.long (g0_81 q0 p1 p2)), .second, .val (.long (f2 (g0_81 q0 p1 p2) ((72340172838076673 : Int64) * (p1 &&& (255 : Int32)).toInt64))), .second, .unset, .unset, .unset, .unset, .unset, .unset, .unset, .unset, .unset] [(.long (f3 (g0_81 q0 p1 p2) ((p1 &&& (255 : Int32)).toInt64) (3 : Int32))), (.long (((f3 (g0_81 q0 p1 p2) ((p1 &&& (255 : Int32)).toInt64) (0 : Int32)) ||| (f3 (g0_81 q0 p1 p2) ((p1 &&& (255 : Int32)).toInt64) (1 : Int32))) ||| (f3 (g0_81 q0 p1 p2) ((p1 &&& (255 : Int32)).toInt64) (2 : Int32))))])
  refine Fini.st (fun _ k => XS.lor X13.here hx rfl (hb hby at_126) rfl k) ?_
  show Fini p e below s _ _ _ T13 (mkF m 127 #[.val (.long q0), .second, .val (.int p1), .val (.int p2), .val (.long (p1 &&& (255 : Int32)).toInt64), .second, .val (.long ((72340172838076673 : Int64) * (p1 &&& (255 : Int32)).toInt64)), .second, .val (.long (g0_65 p2)), .second, .val (.long (g0_81 q0 p1 p2)), .second, .val (.long (f2 (g0_81 q0 p1 p2) ((72340172838076673 : Int64) * (p1 &&& (255 : Int32)).toInt64))), .second, .unset, .unset, .unset, .unset, .unset, .unset, .unset, .unset, .unset] [(.long ((((f3 (g0_81 q0 p1 p2) ((p1 &&& (255 : Int32)).toInt64) (0 : Int32)) ||| (f3 (g0_81 q0 p1 p2) ((p1 &&& (255 : Int32)).toInt64) (1 : Int32))) ||| (f3 (g0_81 q0 p1 p2) ((p1 &&& (255 : Int32)).toInt64) (2 : Int32))) ||| (f3 (g0_81 q0 p1 p2) ((p1 &&& (255 : Int32)).toInt64) (3 : Int32))))])
  refine Fini.st (fun _ k => XS.lload X13.here hx rfl (hb hby at_127) rfl k) ?_
  show Fini p e below s _ _ _ T13 (mkF m 129 #[.val (.long q0), .second, .val (.int p1), .val (.int p2), .val (.long (p1 &&& (255 : Int32)).toInt64), .second, .val (.long ((72340172838076673 : Int64) * (p1 &&& (255 : Int32)).toInt64)), .second, .val (.long (g0_65 p2)), .second, .val (.long (g0_81 q0 p1 p2)), .second, .val (.long (f2 (g0_81 q0 p1 p2) ((72340172838076673 : Int64) * (p1 &&& (255 : Int32)).toInt64))), .second, .unset, .unset, .unset, .unset, .unset, .unset, .unset, .unset, .unset] [(.long (g0_81 q0 p1 p2)), (.long ((((f3 (g0_81 q0 p1 p2) ((p1 &&& (255 : Int32)).toInt64) (0 : Int32)) ||| (f3 (g0_81 q0 p1 p2) ((p1 &&& (255 : Int32)).toInt64) (1 : Int32))) ||| (f3 (g0_81 q0 p1 p2) ((p1 &&& (255 : Int32)).toInt64) (2 : Int32))) ||| (f3 (g0_81 q0 p1 p2) ((p1 &&& (255 : Int32)).toInt64) (3 : Int32))))])
  refine Fini.st (fun _ k => XS.lload X13.here hx rfl (hb hby at_129) rfl k) ?_
  show Fini p e below s _ _ _ T13 (mkF m 131 #[.val (.long q0), .second, .val (.int p1), .val (.int p2), .val (.long (p1 &&& (255 : Int32)).toInt64), .second, .val (.long ((72340172838076673 : Int64) * (p1 &&& (255 : Int32)).toInt64)), .second, .val (.long (g0_65 p2)), .second, .val (.long (g0_81 q0 p1 p2)), .second, .val (.long (f2 (g0_81 q0 p1 p2) ((72340172838076673 : Int64) * (p1 &&& (255 : Int32)).toInt64))), .second, .unset, .unset, .unset, .unset, .unset, .unset, .unset, .unset, .unset] [(.long (p1 &&& (255 : Int32)).toInt64), (.long (g0_81 q0 p1 p2)), (.long ((((f3 (g0_81 q0 p1 p2) ((p1 &&& (255 : Int32)).toInt64) (0 : Int32)) ||| (f3 (g0_81 q0 p1 p2) ((p1 &&& (255 : Int32)).toInt64) (1 : Int32))) ||| (f3 (g0_81 q0 p1 p2) ((p1 &&& (255 : Int32)).toInt64) (2 : Int32))) ||| (f3 (g0_81 q0 p1 p2) ((p1 &&& (255 : Int32)).toInt64) (3 : Int32))))])
  refine Fini.st (fun _ k => XS.iconst X13.here hx rfl (hb hby at_131) k) ?_
  show Fini p e below s _ _ _ T13 (mkF m 132 #[.val (.long q0), .second, .val (.int p1), .val (.int p2), .val (.long (p1 &&& (255 : Int32)).toInt64), .second, .val (.long ((72340172838076673 : Int64) * (p1 &&& (255 : Int32)).toInt64)), .second, .val (.long (g0_65 p2)), .second, .val (.long (g0_81 q0 p1 p2)), .second, .val (.long (f2 (g0_81 q0 p1 p2) ((72340172838076673 : Int64) * (p1 &&& (255 : Int32)).toInt64))), .second, .unset, .unset, .unset, .unset, .unset, .unset, .unset, .unset, .unset] [(.int (4 : Int32)), (.long (p1 &&& (255 : Int32)).toInt64), (.long (g0_81 q0 p1 p2)), (.long ((((f3 (g0_81 q0 p1 p2) ((p1 &&& (255 : Int32)).toInt64) (0 : Int32)) ||| (f3 (g0_81 q0 p1 p2) ((p1 &&& (255 : Int32)).toInt64) (1 : Int32))) ||| (f3 (g0_81 q0 p1 p2) ((p1 &&& (255 : Int32)).toInt64) (2 : Int32))) ||| (f3 (g0_81 q0 p1 p2) ((p1 &&& (255 : Int32)).toInt64) (3 : Int32))))])
  obtain ⟨T14, X14, e14, st14⟩ := pureS X13 hx hZ hown (hw _ (List.mem_of_getElem? (i := 14) rfl)) (hw _ (List.mem_of_getElem? (i := 15) rfl)) (hw _ (List.mem_of_getElem? (i := 3) rfl)) (hw _ (List.mem_of_getElem? (i := 16) rfl)) (by decide) (rm3 l Z a0 hw [] (g0_81 q0 p1 p2) ((p1 &&& (255 : Int32)).toInt64) (4 : Int32) h0) e13 (W := 2) (by decide) (by decide) (by decide) (by decide) (g := (mkF m 132 #[.val (.long q0), .second, .val (.int p1), .val (.int p2), .val (.long (p1 &&& (255 : Int32)).toInt64), .second, .val (.long ((72340172838076673 : Int64) * (p1 &&& (255 : Int32)).toInt64)), .second, .val (.long (g0_65 p2)), .second, .val (.long (g0_81 q0 p1 p2)), .second, .val (.long (f2 (g0_81 q0 p1 p2) ((72340172838076673 : Int64) * (p1 &&& (255 : Int32)).toInt64))), .second, .unset, .unset, .unset, .unset, .unset, .unset, .unset, .unset, .unset] [(.int (4 : Int32)), (.long (p1 &&& (255 : Int32)).toInt64), (.long (g0_81 q0 p1 p2)), (.long ((((f3 (g0_81 q0 p1 p2) ((p1 &&& (255 : Int32)).toInt64) (0 : Int32)) ||| (f3 (g0_81 q0 p1 p2) ((p1 &&& (255 : Int32)).toInt64) (1 : Int32))) ||| (f3 (g0_81 q0 p1 p2) ((p1 &&& (255 : Int32)).toInt64) (2 : Int32))) ||| (f3 (g0_81 q0 p1 p2) ((p1 &&& (255 : Int32)).toInt64) (3 : Int32))))])) rfl (by rw [hml]; rfl) (argsL := [(.long (g0_81 q0 p1 p2)), (.long (p1 &&& (255 : Int32)).toInt64), (.int (4 : Int32))]) (rest := [(.long ((((f3 (g0_81 q0 p1 p2) ((p1 &&& (255 : Int32)).toInt64) (0 : Int32)) ||| (f3 (g0_81 q0 p1 p2) ((p1 &&& (255 : Int32)).toInt64) (1 : Int32))) ||| (f3 (g0_81 q0 p1 p2) ((p1 &&& (255 : Int32)).toInt64) (2 : Int32))) ||| (f3 (g0_81 q0 p1 p2) ((p1 &&& (255 : Int32)).toInt64) (3 : Int32))))]) rfl (lenOf pd_2 rfl) rfl (by show 2 * 0 + _ ≤ _; exact Nat.le_of_eq rfl) (hb hby at_132)
  refine Fini.st st14 ?_
  show Fini p e below s _ _ _ T14 (mkF m 135 #[.val (.long q0), .second, .val (.int p1), .val (.int p2), .val (.long (p1 &&& (255 : Int32)).toInt64), .second, .val (.long ((72340172838076673 : Int64) * (p1 &&& (255 : Int32)).toInt64)), .second, .val (.long (g0_65 p2)), .second, .val (.long (g0_81 q0 p1 p2)), .second, .val (.long (f2 (g0_81 q0 p1 p2) ((72340172838076673 : Int64) * (p1 &&& (255 : Int32)).toInt64))), .second, .unset, .unset, .unset, .unset, .unset, .unset, .unset, .unset, .unset] [(.long (f3 (g0_81 q0 p1 p2) ((p1 &&& (255 : Int32)).toInt64) (4 : Int32))), (.long ((((f3 (g0_81 q0 p1 p2) ((p1 &&& (255 : Int32)).toInt64) (0 : Int32)) ||| (f3 (g0_81 q0 p1 p2) ((p1 &&& (255 : Int32)).toInt64) (1 : Int32))) ||| (f3 (g0_81 q0 p1 p2) ((p1 &&& (255 : Int32)).toInt64) (2 : Int32))) ||| (f3 (g0_81 q0 p1 p2) ((p1 &&& (255 : Int32)).toInt64) (3 : Int32))))])
  refine Fini.st (fun _ k => XS.lor X14.here hx rfl (hb hby at_135) rfl k) ?_
  show Fini p e below s _ _ _ T14 (mkF m 136 #[.val (.long q0), .second, .val (.int p1), .val (.int p2), .val (.long (p1 &&& (255 : Int32)).toInt64), .second, .val (.long ((72340172838076673 : Int64) * (p1 &&& (255 : Int32)).toInt64)), .second, .val (.long (g0_65 p2)), .second, .val (.long (g0_81 q0 p1 p2)), .second, .val (.long (f2 (g0_81 q0 p1 p2) ((72340172838076673 : Int64) * (p1 &&& (255 : Int32)).toInt64))), .second, .unset, .unset, .unset, .unset, .unset, .unset, .unset, .unset, .unset] [(.long (((((f3 (g0_81 q0 p1 p2) ((p1 &&& (255 : Int32)).toInt64) (0 : Int32)) ||| (f3 (g0_81 q0 p1 p2) ((p1 &&& (255 : Int32)).toInt64) (1 : Int32))) ||| (f3 (g0_81 q0 p1 p2) ((p1 &&& (255 : Int32)).toInt64) (2 : Int32))) ||| (f3 (g0_81 q0 p1 p2) ((p1 &&& (255 : Int32)).toInt64) (3 : Int32))) ||| (f3 (g0_81 q0 p1 p2) ((p1 &&& (255 : Int32)).toInt64) (4 : Int32))))])
  refine Fini.st (fun _ k => XS.lload X14.here hx rfl (hb hby at_136) rfl k) ?_
  show Fini p e below s _ _ _ T14 (mkF m 138 #[.val (.long q0), .second, .val (.int p1), .val (.int p2), .val (.long (p1 &&& (255 : Int32)).toInt64), .second, .val (.long ((72340172838076673 : Int64) * (p1 &&& (255 : Int32)).toInt64)), .second, .val (.long (g0_65 p2)), .second, .val (.long (g0_81 q0 p1 p2)), .second, .val (.long (f2 (g0_81 q0 p1 p2) ((72340172838076673 : Int64) * (p1 &&& (255 : Int32)).toInt64))), .second, .unset, .unset, .unset, .unset, .unset, .unset, .unset, .unset, .unset] [(.long (g0_81 q0 p1 p2)), (.long (((((f3 (g0_81 q0 p1 p2) ((p1 &&& (255 : Int32)).toInt64) (0 : Int32)) ||| (f3 (g0_81 q0 p1 p2) ((p1 &&& (255 : Int32)).toInt64) (1 : Int32))) ||| (f3 (g0_81 q0 p1 p2) ((p1 &&& (255 : Int32)).toInt64) (2 : Int32))) ||| (f3 (g0_81 q0 p1 p2) ((p1 &&& (255 : Int32)).toInt64) (3 : Int32))) ||| (f3 (g0_81 q0 p1 p2) ((p1 &&& (255 : Int32)).toInt64) (4 : Int32))))])
  refine Fini.st (fun _ k => XS.lload X14.here hx rfl (hb hby at_138) rfl k) ?_
  show Fini p e below s _ _ _ T14 (mkF m 140 #[.val (.long q0), .second, .val (.int p1), .val (.int p2), .val (.long (p1 &&& (255 : Int32)).toInt64), .second, .val (.long ((72340172838076673 : Int64) * (p1 &&& (255 : Int32)).toInt64)), .second, .val (.long (g0_65 p2)), .second, .val (.long (g0_81 q0 p1 p2)), .second, .val (.long (f2 (g0_81 q0 p1 p2) ((72340172838076673 : Int64) * (p1 &&& (255 : Int32)).toInt64))), .second, .unset, .unset, .unset, .unset, .unset, .unset, .unset, .unset, .unset] [(.long (p1 &&& (255 : Int32)).toInt64), (.long (g0_81 q0 p1 p2)), (.long (((((f3 (g0_81 q0 p1 p2) ((p1 &&& (255 : Int32)).toInt64) (0 : Int32)) ||| (f3 (g0_81 q0 p1 p2) ((p1 &&& (255 : Int32)).toInt64) (1 : Int32))) ||| (f3 (g0_81 q0 p1 p2) ((p1 &&& (255 : Int32)).toInt64) (2 : Int32))) ||| (f3 (g0_81 q0 p1 p2) ((p1 &&& (255 : Int32)).toInt64) (3 : Int32))) ||| (f3 (g0_81 q0 p1 p2) ((p1 &&& (255 : Int32)).toInt64) (4 : Int32))))])
  refine Fini.st (fun _ k => XS.iconst X14.here hx rfl (hb hby at_140) k) ?_
  show Fini p e below s _ _ _ T14 (mkF m 141 #[.val (.long q0), .second, .val (.int p1), .val (.int p2), .val (.long (p1 &&& (255 : Int32)).toInt64), .second, .val (.long ((72340172838076673 : Int64) * (p1 &&& (255 : Int32)).toInt64)), .second, .val (.long (g0_65 p2)), .second, .val (.long (g0_81 q0 p1 p2)), .second, .val (.long (f2 (g0_81 q0 p1 p2) ((72340172838076673 : Int64) * (p1 &&& (255 : Int32)).toInt64))), .second, .unset, .unset, .unset, .unset, .unset, .unset, .unset, .unset, .unset] [(.int (5 : Int32)), (.long (p1 &&& (255 : Int32)).toInt64), (.long (g0_81 q0 p1 p2)), (.long (((((f3 (g0_81 q0 p1 p2) ((p1 &&& (255 : Int32)).toInt64) (0 : Int32)) ||| (f3 (g0_81 q0 p1 p2) ((p1 &&& (255 : Int32)).toInt64) (1 : Int32))) ||| (f3 (g0_81 q0 p1 p2) ((p1 &&& (255 : Int32)).toInt64) (2 : Int32))) ||| (f3 (g0_81 q0 p1 p2) ((p1 &&& (255 : Int32)).toInt64) (3 : Int32))) ||| (f3 (g0_81 q0 p1 p2) ((p1 &&& (255 : Int32)).toInt64) (4 : Int32))))])
  obtain ⟨T15, X15, e15, st15⟩ := pureS X14 hx hZ hown (hw _ (List.mem_of_getElem? (i := 14) rfl)) (hw _ (List.mem_of_getElem? (i := 15) rfl)) (hw _ (List.mem_of_getElem? (i := 3) rfl)) (hw _ (List.mem_of_getElem? (i := 16) rfl)) (by decide) (rm3 l Z a0 hw [] (g0_81 q0 p1 p2) ((p1 &&& (255 : Int32)).toInt64) (5 : Int32) h0) e14 (W := 2) (by decide) (by decide) (by decide) (by decide) (g := (mkF m 141 #[.val (.long q0), .second, .val (.int p1), .val (.int p2), .val (.long (p1 &&& (255 : Int32)).toInt64), .second, .val (.long ((72340172838076673 : Int64) * (p1 &&& (255 : Int32)).toInt64)), .second, .val (.long (g0_65 p2)), .second, .val (.long (g0_81 q0 p1 p2)), .second, .val (.long (f2 (g0_81 q0 p1 p2) ((72340172838076673 : Int64) * (p1 &&& (255 : Int32)).toInt64))), .second, .unset, .unset, .unset, .unset, .unset, .unset, .unset, .unset, .unset] [(.int (5 : Int32)), (.long (p1 &&& (255 : Int32)).toInt64), (.long (g0_81 q0 p1 p2)), (.long (((((f3 (g0_81 q0 p1 p2) ((p1 &&& (255 : Int32)).toInt64) (0 : Int32)) ||| (f3 (g0_81 q0 p1 p2) ((p1 &&& (255 : Int32)).toInt64) (1 : Int32))) ||| (f3 (g0_81 q0 p1 p2) ((p1 &&& (255 : Int32)).toInt64) (2 : Int32))) ||| (f3 (g0_81 q0 p1 p2) ((p1 &&& (255 : Int32)).toInt64) (3 : Int32))) ||| (f3 (g0_81 q0 p1 p2) ((p1 &&& (255 : Int32)).toInt64) (4 : Int32))))])) rfl (by rw [hml]; rfl) (argsL := [(.long (g0_81 q0 p1 p2)), (.long (p1 &&& (255 : Int32)).toInt64), (.int (5 : Int32))]) (rest := [(.long (((((f3 (g0_81 q0 p1 p2) ((p1 &&& (255 : Int32)).toInt64) (0 : Int32)) ||| (f3 (g0_81 q0 p1 p2) ((p1 &&& (255 : Int32)).toInt64) (1 : Int32))) ||| (f3 (g0_81 q0 p1 p2) ((p1 &&& (255 : Int32)).toInt64) (2 : Int32))) ||| (f3 (g0_81 q0 p1 p2) ((p1 &&& (255 : Int32)).toInt64) (3 : Int32))) ||| (f3 (g0_81 q0 p1 p2) ((p1 &&& (255 : Int32)).toInt64) (4 : Int32))))]) rfl (lenOf pd_2 rfl) rfl (by show 2 * 0 + _ ≤ _; exact Nat.le_of_eq rfl) (hb hby at_141)
  refine Fini.st st15 ?_
  show Fini p e below s _ _ _ T15 (mkF m 144 #[.val (.long q0), .second, .val (.int p1), .val (.int p2), .val (.long (p1 &&& (255 : Int32)).toInt64), .second, .val (.long ((72340172838076673 : Int64) * (p1 &&& (255 : Int32)).toInt64)), .second, .val (.long (g0_65 p2)), .second, .val (.long (g0_81 q0 p1 p2)), .second, .val (.long (f2 (g0_81 q0 p1 p2) ((72340172838076673 : Int64) * (p1 &&& (255 : Int32)).toInt64))), .second, .unset, .unset, .unset, .unset, .unset, .unset, .unset, .unset, .unset] [(.long (f3 (g0_81 q0 p1 p2) ((p1 &&& (255 : Int32)).toInt64) (5 : Int32))), (.long (((((f3 (g0_81 q0 p1 p2) ((p1 &&& (255 : Int32)).toInt64) (0 : Int32)) ||| (f3 (g0_81 q0 p1 p2) ((p1 &&& (255 : Int32)).toInt64) (1 : Int32))) ||| (f3 (g0_81 q0 p1 p2) ((p1 &&& (255 : Int32)).toInt64) (2 : Int32))) ||| (f3 (g0_81 q0 p1 p2) ((p1 &&& (255 : Int32)).toInt64) (3 : Int32))) ||| (f3 (g0_81 q0 p1 p2) ((p1 &&& (255 : Int32)).toInt64) (4 : Int32))))])
  refine Fini.st (fun _ k => XS.lor X15.here hx rfl (hb hby at_144) rfl k) ?_
  show Fini p e below s _ _ _ T15 (mkF m 145 #[.val (.long q0), .second, .val (.int p1), .val (.int p2), .val (.long (p1 &&& (255 : Int32)).toInt64), .second, .val (.long ((72340172838076673 : Int64) * (p1 &&& (255 : Int32)).toInt64)), .second, .val (.long (g0_65 p2)), .second, .val (.long (g0_81 q0 p1 p2)), .second, .val (.long (f2 (g0_81 q0 p1 p2) ((72340172838076673 : Int64) * (p1 &&& (255 : Int32)).toInt64))), .second, .unset, .unset, .unset, .unset, .unset, .unset, .unset, .unset, .unset] [(.long ((((((f3 (g0_81 q0 p1 p2) ((p1 &&& (255 : Int32)).toInt64) (0 : Int32)) ||| (f3 (g0_81 q0 p1 p2) ((p1 &&& (255 : Int32)).toInt64) (1 : Int32))) ||| (f3 (g0_81 q0 p1 p2) ((p1 &&& (255 : Int32)).toInt64) (2 : Int32))) ||| (f3 (g0_81 q0 p1 p2) ((p1 &&& (255 : Int32)).toInt64) (3 : Int32))) ||| (f3 (g0_81 q0 p1 p2) ((p1 &&& (255 : Int32)).toInt64) (4 : Int32))) ||| (f3 (g0_81 q0 p1 p2) ((p1 &&& (255 : Int32)).toInt64) (5 : Int32))))])
  refine Fini.st (fun _ k => XS.lload X15.here hx rfl (hb hby at_145) rfl k) ?_
  show Fini p e below s _ _ _ T15 (mkF m 147 #[.val (.long q0), .second, .val (.int p1), .val (.int p2), .val (.long (p1 &&& (255 : Int32)).toInt64), .second, .val (.long ((72340172838076673 : Int64) * (p1 &&& (255 : Int32)).toInt64)), .second, .val (.long (g0_65 p2)), .second, .val (.long (g0_81 q0 p1 p2)), .second, .val (.long (f2 (g0_81 q0 p1 p2) ((72340172838076673 : Int64) * (p1 &&& (255 : Int32)).toInt64))), .second, .unset, .unset, .unset, .unset, .unset, .unset, .unset, .unset, .unset] [(.long (g0_81 q0 p1 p2)), (.long ((((((f3 (g0_81 q0 p1 p2) ((p1 &&& (255 : Int32)).toInt64) (0 : Int32)) ||| (f3 (g0_81 q0 p1 p2) ((p1 &&& (255 : Int32)).toInt64) (1 : Int32))) ||| (f3 (g0_81 q0 p1 p2) ((p1 &&& (255 : Int32)).toInt64) (2 : Int32))) ||| (f3 (g0_81 q0 p1 p2) ((p1 &&& (255 : Int32)).toInt64) (3 : Int32))) ||| (f3 (g0_81 q0 p1 p2) ((p1 &&& (255 : Int32)).toInt64) (4 : Int32))) ||| (f3 (g0_81 q0 p1 p2) ((p1 &&& (255 : Int32)).toInt64) (5 : Int32))))])
  refine Fini.st (fun _ k => XS.lload X15.here hx rfl (hb hby at_147) rfl k) ?_
  show Fini p e below s _ _ _ T15 (mkF m 149 #[.val (.long q0), .second, .val (.int p1), .val (.int p2), .val (.long (p1 &&& (255 : Int32)).toInt64), .second, .val (.long ((72340172838076673 : Int64) * (p1 &&& (255 : Int32)).toInt64)), .second, .val (.long (g0_65 p2)), .second, .val (.long (g0_81 q0 p1 p2)), .second, .val (.long (f2 (g0_81 q0 p1 p2) ((72340172838076673 : Int64) * (p1 &&& (255 : Int32)).toInt64))), .second, .unset, .unset, .unset, .unset, .unset, .unset, .unset, .unset, .unset] [(.long (p1 &&& (255 : Int32)).toInt64), (.long (g0_81 q0 p1 p2)), (.long ((((((f3 (g0_81 q0 p1 p2) ((p1 &&& (255 : Int32)).toInt64) (0 : Int32)) ||| (f3 (g0_81 q0 p1 p2) ((p1 &&& (255 : Int32)).toInt64) (1 : Int32))) ||| (f3 (g0_81 q0 p1 p2) ((p1 &&& (255 : Int32)).toInt64) (2 : Int32))) ||| (f3 (g0_81 q0 p1 p2) ((p1 &&& (255 : Int32)).toInt64) (3 : Int32))) ||| (f3 (g0_81 q0 p1 p2) ((p1 &&& (255 : Int32)).toInt64) (4 : Int32))) ||| (f3 (g0_81 q0 p1 p2) ((p1 &&& (255 : Int32)).toInt64) (5 : Int32))))])
  refine Fini.st (fun _ k => XS.bipush X15.here hx rfl (hb hby at_149) k) ?_
  show Fini p e below s _ _ _ T15 (mkF m 151 #[.val (.long q0), .second, .val (.int p1), .val (.int p2), .val (.long (p1 &&& (255 : Int32)).toInt64), .second, .val (.long ((72340172838076673 : Int64) * (p1 &&& (255 : Int32)).toInt64)), .second, .val (.long (g0_65 p2)), .second, .val (.long (g0_81 q0 p1 p2)), .second, .val (.long (f2 (g0_81 q0 p1 p2) ((72340172838076673 : Int64) * (p1 &&& (255 : Int32)).toInt64))), .second, .unset, .unset, .unset, .unset, .unset, .unset, .unset, .unset, .unset] [(.int (6 : Int32)), (.long (p1 &&& (255 : Int32)).toInt64), (.long (g0_81 q0 p1 p2)), (.long ((((((f3 (g0_81 q0 p1 p2) ((p1 &&& (255 : Int32)).toInt64) (0 : Int32)) ||| (f3 (g0_81 q0 p1 p2) ((p1 &&& (255 : Int32)).toInt64) (1 : Int32))) ||| (f3 (g0_81 q0 p1 p2) ((p1 &&& (255 : Int32)).toInt64) (2 : Int32))) ||| (f3 (g0_81 q0 p1 p2) ((p1 &&& (255 : Int32)).toInt64) (3 : Int32))) ||| (f3 (g0_81 q0 p1 p2) ((p1 &&& (255 : Int32)).toInt64) (4 : Int32))) ||| (f3 (g0_81 q0 p1 p2) ((p1 &&& (255 : Int32)).toInt64) (5 : Int32))))])
  obtain ⟨T16, X16, e16, st16⟩ := pureS X15 hx hZ hown (hw _ (List.mem_of_getElem? (i := 14) rfl)) (hw _ (List.mem_of_getElem? (i := 15) rfl)) (hw _ (List.mem_of_getElem? (i := 3) rfl)) (hw _ (List.mem_of_getElem? (i := 16) rfl)) (by decide) (rm3 l Z a0 hw [] (g0_81 q0 p1 p2) ((p1 &&& (255 : Int32)).toInt64) (6 : Int32) h0) e15 (W := 2) (by decide) (by decide) (by decide) (by decide) (g := (mkF m 151 #[.val (.long q0), .second, .val (.int p1), .val (.int p2), .val (.long (p1 &&& (255 : Int32)).toInt64), .second, .val (.long ((72340172838076673 : Int64) * (p1 &&& (255 : Int32)).toInt64)), .second, .val (.long (g0_65 p2)), .second, .val (.long (g0_81 q0 p1 p2)), .second, .val (.long (f2 (g0_81 q0 p1 p2) ((72340172838076673 : Int64) * (p1 &&& (255 : Int32)).toInt64))), .second, .unset, .unset, .unset, .unset, .unset, .unset, .unset, .unset, .unset] [(.int (6 : Int32)), (.long (p1 &&& (255 : Int32)).toInt64), (.long (g0_81 q0 p1 p2)), (.long ((((((f3 (g0_81 q0 p1 p2) ((p1 &&& (255 : Int32)).toInt64) (0 : Int32)) ||| (f3 (g0_81 q0 p1 p2) ((p1 &&& (255 : Int32)).toInt64) (1 : Int32))) ||| (f3 (g0_81 q0 p1 p2) ((p1 &&& (255 : Int32)).toInt64) (2 : Int32))) ||| (f3 (g0_81 q0 p1 p2) ((p1 &&& (255 : Int32)).toInt64) (3 : Int32))) ||| (f3 (g0_81 q0 p1 p2) ((p1 &&& (255 : Int32)).toInt64) (4 : Int32))) ||| (f3 (g0_81 q0 p1 p2) ((p1 &&& (255 : Int32)).toInt64) (5 : Int32))))])) rfl (by rw [hml]; rfl) (argsL := [(.long (g0_81 q0 p1 p2)), (.long (p1 &&& (255 : Int32)).toInt64), (.int (6 : Int32))]) (rest := [(.long ((((((f3 (g0_81 q0 p1 p2) ((p1 &&& (255 : Int32)).toInt64) (0 : Int32)) ||| (f3 (g0_81 q0 p1 p2) ((p1 &&& (255 : Int32)).toInt64) (1 : Int32))) ||| (f3 (g0_81 q0 p1 p2) ((p1 &&& (255 : Int32)).toInt64) (2 : Int32))) ||| (f3 (g0_81 q0 p1 p2) ((p1 &&& (255 : Int32)).toInt64) (3 : Int32))) ||| (f3 (g0_81 q0 p1 p2) ((p1 &&& (255 : Int32)).toInt64) (4 : Int32))) ||| (f3 (g0_81 q0 p1 p2) ((p1 &&& (255 : Int32)).toInt64) (5 : Int32))))]) rfl (lenOf pd_2 rfl) rfl (by show 2 * 0 + _ ≤ _; exact Nat.le_of_eq rfl) (hb hby at_151)
  refine Fini.st st16 ?_
  show Fini p e below s _ _ _ T16 (mkF m 154 #[.val (.long q0), .second, .val (.int p1), .val (.int p2), .val (.long (p1 &&& (255 : Int32)).toInt64), .second, .val (.long ((72340172838076673 : Int64) * (p1 &&& (255 : Int32)).toInt64)), .second, .val (.long (g0_65 p2)), .second, .val (.long (g0_81 q0 p1 p2)), .second, .val (.long (f2 (g0_81 q0 p1 p2) ((72340172838076673 : Int64) * (p1 &&& (255 : Int32)).toInt64))), .second, .unset, .unset, .unset, .unset, .unset, .unset, .unset, .unset, .unset] [(.long (f3 (g0_81 q0 p1 p2) ((p1 &&& (255 : Int32)).toInt64) (6 : Int32))), (.long ((((((f3 (g0_81 q0 p1 p2) ((p1 &&& (255 : Int32)).toInt64) (0 : Int32)) ||| (f3 (g0_81 q0 p1 p2) ((p1 &&& (255 : Int32)).toInt64) (1 : Int32))) ||| (f3 (g0_81 q0 p1 p2) ((p1 &&& (255 : Int32)).toInt64) (2 : Int32))) ||| (f3 (g0_81 q0 p1 p2) ((p1 &&& (255 : Int32)).toInt64) (3 : Int32))) ||| (f3 (g0_81 q0 p1 p2) ((p1 &&& (255 : Int32)).toInt64) (4 : Int32))) ||| (f3 (g0_81 q0 p1 p2) ((p1 &&& (255 : Int32)).toInt64) (5 : Int32))))])
  refine Fini.st (fun _ k => XS.lor X16.here hx rfl (hb hby at_154) rfl k) ?_
  show Fini p e below s _ _ _ T16 (mkF m 155 #[.val (.long q0), .second, .val (.int p1), .val (.int p2), .val (.long (p1 &&& (255 : Int32)).toInt64), .second, .val (.long ((72340172838076673 : Int64) * (p1 &&& (255 : Int32)).toInt64)), .second, .val (.long (g0_65 p2)), .second, .val (.long (g0_81 q0 p1 p2)), .second, .val (.long (f2 (g0_81 q0 p1 p2) ((72340172838076673 : Int64) * (p1 &&& (255 : Int32)).toInt64))), .second, .unset, .unset, .unset, .unset, .unset, .unset, .unset, .unset, .unset] [(.long (((((((f3 (g0_81 q0 p1 p2) ((p1 &&& (255 : Int32)).toInt64) (0 : Int32)) ||| (f3 (g0_81 q0 p1 p2) ((p1 &&& (255 : Int32)).toInt64) (1 : Int32))) ||| (f3 (g0_81 q0 p1 p2) ((p1 &&& (255 : Int32)).toInt64) (2 : Int32))) ||| (f3 (g0_81 q0 p1 p2) ((p1 &&& (255 : Int32)).toInt64) (3 : Int32))) ||| (f3 (g0_81 q0 p1 p2) ((p1 &&& (255 : Int32)).toInt64) (4 : Int32))) ||| (f3 (g0_81 q0 p1 p2) ((p1 &&& (255 : Int32)).toInt64) (5 : Int32))) ||| (f3 (g0_81 q0 p1 p2) ((p1 &&& (255 : Int32)).toInt64) (6 : Int32))))])
  refine Fini.st (fun _ k => XS.lload X16.here hx rfl (hb hby at_155) rfl k) ?_
  show Fini p e below s _ _ _ T16 (mkF m 157 #[.val (.long q0), .second, .val (.int p1), .val (.int p2), .val (.long (p1 &&& (255 : Int32)).toInt64), .second, .val (.long ((72340172838076673 : Int64) * (p1 &&& (255 : Int32)).toInt64)), .second, .val (.long (g0_65 p2)), .second, .val (.long (g0_81 q0 p1 p2)), .second, .val (.long (f2 (g0_81 q0 p1 p2) ((72340172838076673 : Int64) * (p1 &&& (255 : Int32)).toInt64))), .second, .unset, .unset, .unset, .unset, .unset, .unset, .unset, .unset, .unset] [(.long (g0_81 q0 p1 p2)), (.long (((((((f3 (g0_81 q0 p1 p2) ((p1 &&& (255 : Int32)).toInt64) (0 : Int32)) ||| (f3 (g0_81 q0 p1 p2) ((p1 &&& (255 : Int32)).toInt64) (1 : Int32))) ||| (f3 (g0_81 q0 p1 p2) ((p1 &&& (255 : Int32)).toInt64) (2 : Int32))) ||| (f3 (g0_81 q0 p1 p2) ((p1 &&& (255 : Int32)).toInt64) (3 : Int32))) ||| (f3 (g0_81 q0 p1 p2) ((p1 &&& (255 : Int32)).toInt64) (4 : Int32))) ||| (f3 (g0_81 q0 p1 p2) ((p1 &&& (255 : Int32)).toInt64) (5 : Int32))) ||| (f3 (g0_81 q0 p1 p2) ((p1 &&& (255 : Int32)).toInt64) (6 : Int32))))])
  refine Fini.st (fun _ k => XS.lload X16.here hx rfl (hb hby at_157) rfl k) ?_
  show Fini p e below s _ _ _ T16 (mkF m 159 #[.val (.long q0), .second, .val (.int p1), .val (.int p2), .val (.long (p1 &&& (255 : Int32)).toInt64), .second, .val (.long ((72340172838076673 : Int64) * (p1 &&& (255 : Int32)).toInt64)), .second, .val (.long (g0_65 p2)), .second, .val (.long (g0_81 q0 p1 p2)), .second, .val (.long (f2 (g0_81 q0 p1 p2) ((72340172838076673 : Int64) * (p1 &&& (255 : Int32)).toInt64))), .second, .unset, .unset, .unset, .unset, .unset, .unset, .unset, .unset, .unset] [(.long (p1 &&& (255 : Int32)).toInt64), (.long (g0_81 q0 p1 p2)), (.long (((((((f3 (g0_81 q0 p1 p2) ((p1 &&& (255 : Int32)).toInt64) (0 : Int32)) ||| (f3 (g0_81 q0 p1 p2) ((p1 &&& (255 : Int32)).toInt64) (1 : Int32))) ||| (f3 (g0_81 q0 p1 p2) ((p1 &&& (255 : Int32)).toInt64) (2 : Int32))) ||| (f3 (g0_81 q0 p1 p2) ((p1 &&& (255 : Int32)).toInt64) (3 : Int32))) ||| (f3 (g0_81 q0 p1 p2) ((p1 &&& (255 : Int32)).toInt64) (4 : Int32))) ||| (f3 (g0_81 q0 p1 p2) ((p1 &&& (255 : Int32)).toInt64) (5 : Int32))) ||| (f3 (g0_81 q0 p1 p2) ((p1 &&& (255 : Int32)).toInt64) (6 : Int32))))])
  refine Fini.st (fun _ k => XS.bipush X16.here hx rfl (hb hby at_159) k) ?_
  show Fini p e below s _ _ _ T16 (mkF m 161 #[.val (.long q0), .second, .val (.int p1), .val (.int p2), .val (.long (p1 &&& (255 : Int32)).toInt64), .second, .val (.long ((72340172838076673 : Int64) * (p1 &&& (255 : Int32)).toInt64)), .second, .val (.long (g0_65 p2)), .second, .val (.long (g0_81 q0 p1 p2)), .second, .val (.long (f2 (g0_81 q0 p1 p2) ((72340172838076673 : Int64) * (p1 &&& (255 : Int32)).toInt64))), .second, .unset, .unset, .unset, .unset, .unset, .unset, .unset, .unset, .unset] [(.int (7 : Int32)), (.long (p1 &&& (255 : Int32)).toInt64), (.long (g0_81 q0 p1 p2)), (.long (((((((f3 (g0_81 q0 p1 p2) ((p1 &&& (255 : Int32)).toInt64) (0 : Int32)) ||| (f3 (g0_81 q0 p1 p2) ((p1 &&& (255 : Int32)).toInt64) (1 : Int32))) ||| (f3 (g0_81 q0 p1 p2) ((p1 &&& (255 : Int32)).toInt64) (2 : Int32))) ||| (f3 (g0_81 q0 p1 p2) ((p1 &&& (255 : Int32)).toInt64) (3 : Int32))) ||| (f3 (g0_81 q0 p1 p2) ((p1 &&& (255 : Int32)).toInt64) (4 : Int32))) ||| (f3 (g0_81 q0 p1 p2) ((p1 &&& (255 : Int32)).toInt64) (5 : Int32))) ||| (f3 (g0_81 q0 p1 p2) ((p1 &&& (255 : Int32)).toInt64) (6 : Int32))))])
  obtain ⟨T17, X17, e17, st17⟩ := pureS X16 hx hZ hown (hw _ (List.mem_of_getElem? (i := 14) rfl)) (hw _ (List.mem_of_getElem? (i := 15) rfl)) (hw _ (List.mem_of_getElem? (i := 3) rfl)) (hw _ (List.mem_of_getElem? (i := 16) rfl)) (by decide) (rm3 l Z a0 hw [] (g0_81 q0 p1 p2) ((p1 &&& (255 : Int32)).toInt64) (7 : Int32) h0) e16 (W := 2) (by decide) (by decide) (by decide) (by decide) (g := (mkF m 161 #[.val (.long q0), .second, .val (.int p1), .val (.int p2), .val (.long (p1 &&& (255 : Int32)).toInt64), .second, .val (.long ((72340172838076673 : Int64) * (p1 &&& (255 : Int32)).toInt64)), .second, .val (.long (g0_65 p2)), .second, .val (.long (g0_81 q0 p1 p2)), .second, .val (.long (f2 (g0_81 q0 p1 p2) ((72340172838076673 : Int64) * (p1 &&& (255 : Int32)).toInt64))), .second, .unset, .unset, .unset, .unset, .unset, .unset, .unset, .unset, .unset] [(.int (7 : Int32)), (.long (p1 &&& (255 : Int32)).toInt64), (.long (g0_81 q0 p1 p2)), (.long (((((((f3 (g0_81 q0 p1 p2) ((p1 &&& (255 : Int32)).toInt64) (0 : Int32)) ||| (f3 (g0_81 q0 p1 p2) ((p1 &&& (255 : Int32)).toInt64) (1 : Int32))) ||| (f3 (g0_81 q0 p1 p2) ((p1 &&& (255 : Int32)).toInt64) (2 : Int32))) ||| (f3 (g0_81 q0 p1 p2) ((p1 &&& (255 : Int32)).toInt64) (3 : Int32))) ||| (f3 (g0_81 q0 p1 p2) ((p1 &&& (255 : Int32)).toInt64) (4 : Int32))) ||| (f3 (g0_81 q0 p1 p2) ((p1 &&& (255 : Int32)).toInt64) (5 : Int32))) ||| (f3 (g0_81 q0 p1 p2) ((p1 &&& (255 : Int32)).toInt64) (6 : Int32))))])) rfl (by rw [hml]; rfl) (argsL := [(.long (g0_81 q0 p1 p2)), (.long (p1 &&& (255 : Int32)).toInt64), (.int (7 : Int32))]) (rest := [(.long (((((((f3 (g0_81 q0 p1 p2) ((p1 &&& (255 : Int32)).toInt64) (0 : Int32)) ||| (f3 (g0_81 q0 p1 p2) ((p1 &&& (255 : Int32)).toInt64) (1 : Int32))) ||| (f3 (g0_81 q0 p1 p2) ((p1 &&& (255 : Int32)).toInt64) (2 : Int32))) ||| (f3 (g0_81 q0 p1 p2) ((p1 &&& (255 : Int32)).toInt64) (3 : Int32))) ||| (f3 (g0_81 q0 p1 p2) ((p1 &&& (255 : Int32)).toInt64) (4 : Int32))) ||| (f3 (g0_81 q0 p1 p2) ((p1 &&& (255 : Int32)).toInt64) (5 : Int32))) ||| (f3 (g0_81 q0 p1 p2) ((p1 &&& (255 : Int32)).toInt64) (6 : Int32))))]) rfl (lenOf pd_2 rfl) rfl (by show 2 * 0 + _ ≤ _; exact Nat.le_of_eq rfl) (hb hby at_161)
  refine Fini.st st17 ?_
  show Fini p e below s _ _ _ T17 (mkF m 164 #[.val (.long q0), .second, .val (.int p1), .val (.int p2), .val (.long (p1 &&& (255 : Int32)).toInt64), .second, .val (.long ((72340172838076673 : Int64) * (p1 &&& (255 : Int32)).toInt64)), .second, .val (.long (g0_65 p2)), .second, .val (.long (g0_81 q0 p1 p2)), .second, .val (.long (f2 (g0_81 q0 p1 p2) ((72340172838076673 : Int64) * (p1 &&& (255 : Int32)).toInt64))), .second, .unset, .unset, .unset, .unset, .unset, .unset, .unset, .unset, .unset] [(.long (f3 (g0_81 q0 p1 p2) ((p1 &&& (255 : Int32)).toInt64) (7 : Int32))), (.long (((((((f3 (g0_81 q0 p1 p2) ((p1 &&& (255 : Int32)).toInt64) (0 : Int32)) ||| (f3 (g0_81 q0 p1 p2) ((p1 &&& (255 : Int32)).toInt64) (1 : Int32))) ||| (f3 (g0_81 q0 p1 p2) ((p1 &&& (255 : Int32)).toInt64) (2 : Int32))) ||| (f3 (g0_81 q0 p1 p2) ((p1 &&& (255 : Int32)).toInt64) (3 : Int32))) ||| (f3 (g0_81 q0 p1 p2) ((p1 &&& (255 : Int32)).toInt64) (4 : Int32))) ||| (f3 (g0_81 q0 p1 p2) ((p1 &&& (255 : Int32)).toInt64) (5 : Int32))) ||| (f3 (g0_81 q0 p1 p2) ((p1 &&& (255 : Int32)).toInt64) (6 : Int32))))])
  refine Fini.st (fun _ k => XS.lor X17.here hx rfl (hb hby at_164) rfl k) ?_
  show Fini p e below s _ _ _ T17 (mkF m 165 #[.val (.long q0), .second, .val (.int p1), .val (.int p2), .val (.long (p1 &&& (255 : Int32)).toInt64), .second, .val (.long ((72340172838076673 : Int64) * (p1 &&& (255 : Int32)).toInt64)), .second, .val (.long (g0_65 p2)), .second, .val (.long (g0_81 q0 p1 p2)), .second, .val (.long (f2 (g0_81 q0 p1 p2) ((72340172838076673 : Int64) * (p1 &&& (255 : Int32)).toInt64))), .second, .unset, .unset, .unset, .unset, .unset, .unset, .unset, .unset, .unset] [(.long ((((((((f3 (g0_81 q0 p1 p2) ((p1 &&& (255 : Int32)).toInt64) (0 : Int32)) ||| (f3 (g0_81 q0 p1 p2) ((p1 &&& (255 : Int32)).toInt64) (1 : Int32))) ||| (f3 (g0_81 q0 p1 p2) ((p1 &&& (255 : Int32)).toInt64) (2 : Int32))) ||| (f3 (g0_81 q0 p1 p2) ((p1 &&& (255 : Int32)).toInt64) (3 : Int32))) ||| (f3 (g0_81 q0 p1 p2) ((p1 &&& (255 : Int32)).toInt64) (4 : Int32))) ||| (f3 (g0_81 q0 p1 p2) ((p1 &&& (255 : Int32)).toInt64) (5 : Int32))) ||| (f3 (g0_81 q0 p1 p2) ((p1 &&& (255 : Int32)).toInt64) (6 : Int32))) ||| (f3 (g0_81 q0 p1 p2) ((p1 &&& (255 : Int32)).toInt64) (7 : Int32))))])
  refine Fini.st (fun _ k => XS.lstore X17.here hx rfl (hb hby at_165) rfl (l' := #[.val (.long q0), .second, .val (.int p1), .val (.int p2), .val (.long (p1 &&& (255 : Int32)).toInt64), .second, .val (.long ((72340172838076673 : Int64) * (p1 &&& (255 : Int32)).toInt64)), .second, .val (.long (g0_65 p2)), .second, .val (.long (g0_81 q0 p1 p2)), .second, .val (.long (f2 (g0_81 q0 p1 p2) ((72340172838076673 : Int64) * (p1 &&& (255 : Int32)).toInt64))), .second, .val (.long (g0_165 q0 p1 p2)), .second, .unset, .unset, .unset, .unset, .unset, .unset, .unset]) rfl k) ?_
  show Fini p e below s _ _ _ T17 (mkF m 167 #[.val (.long q0), .second, .val (.int p1), .val (.int p2), .val (.long (p1 &&& (255 : Int32)).toInt64), .second, .val (.long ((72340172838076673 : Int64) * (p1 &&& (255 : Int32)).toInt64)), .second, .val (.long (g0_65 p2)), .second, .val (.long (g0_81 q0 p1 p2)), .second, .val (.long (f2 (g0_81 q0 p1 p2) ((72340172838076673 : Int64) * (p1 &&& (255 : Int32)).toInt64))), .second, .val (.long (g0_165 q0 p1 p2)), .second, .unset, .unset, .unset, .unset, .unset, .unset, .unset] [])
  refine Fini.st (fun _ k => XS.lload X17.here hx rfl (hb hby at_167) rfl k) ?_
  show Fini p e below s _ _ _ T17 (mkF m 169 #[.val (.long q0), .second, .val (.int p1), .val (.int p2), .val (.long (p1 &&& (255 : Int32)).toInt64), .second, .val (.long ((72340172838076673 : Int64) * (p1 &&& (255 : Int32)).toInt64)), .second, .val (.long (g0_65 p2)), .second, .val (.long (g0_81 q0 p1 p2)), .second, .val (.long (f2 (g0_81 q0 p1 p2) ((72340172838076673 : Int64) * (p1 &&& (255 : Int32)).toInt64))), .second, .val (.long (g0_165 q0 p1 p2)), .second, .unset, .unset, .unset, .unset, .unset, .unset, .unset] [(.long (g0_165 q0 p1 p2))])
  refine Fini.st (fun _ k => XS.lload X17.here hx rfl (hb hby at_169) rfl k) ?_
  show Fini p e below s _ _ _ T17 (mkF m 171 #[.val (.long q0), .second, .val (.int p1), .val (.int p2), .val (.long (p1 &&& (255 : Int32)).toInt64), .second, .val (.long ((72340172838076673 : Int64) * (p1 &&& (255 : Int32)).toInt64)), .second, .val (.long (g0_65 p2)), .second, .val (.long (g0_81 q0 p1 p2)), .second, .val (.long (f2 (g0_81 q0 p1 p2) ((72340172838076673 : Int64) * (p1 &&& (255 : Int32)).toInt64))), .second, .val (.long (g0_165 q0 p1 p2)), .second, .unset, .unset, .unset, .unset, .unset, .unset, .unset] [(.long (g0_165 q0 p1 p2)), (.long (g0_165 q0 p1 p2))])
  refine Fini.st (fun _ k => XS.lneg X17.here hx rfl (hb hby at_171) rfl k) ?_
  show Fini p e below s _ _ _ T17 (mkF m 172 #[.val (.long q0), .second, .val (.int p1), .val (.int p2), .val (.long (p1 &&& (255 : Int32)).toInt64), .second, .val (.long ((72340172838076673 : Int64) * (p1 &&& (255 : Int32)).toInt64)), .second, .val (.long (g0_65 p2)), .second, .val (.long (g0_81 q0 p1 p2)), .second, .val (.long (f2 (g0_81 q0 p1 p2) ((72340172838076673 : Int64) * (p1 &&& (255 : Int32)).toInt64))), .second, .val (.long (g0_165 q0 p1 p2)), .second, .unset, .unset, .unset, .unset, .unset, .unset, .unset] [(.long (-(g0_165 q0 p1 p2))), (.long (g0_165 q0 p1 p2))])
  refine Fini.st (fun _ k => XS.land X17.here hx rfl (hb hby at_172) rfl k) ?_
  show Fini p e below s _ _ _ T17 (mkF m 173 #[.val (.long q0), .second, .val (.int p1), .val (.int p2), .val (.long (p1 &&& (255 : Int32)).toInt64), .second, .val (.long ((72340172838076673 : Int64) * (p1 &&& (255 : Int32)).toInt64)), .second, .val (.long (g0_65 p2)), .second, .val (.long (g0_81 q0 p1 p2)), .second, .val (.long (f2 (g0_81 q0 p1 p2) ((72340172838076673 : Int64) * (p1 &&& (255 : Int32)).toInt64))), .second, .val (.long (g0_165 q0 p1 p2)), .second, .unset, .unset, .unset, .unset, .unset, .unset, .unset] [(.long ((g0_165 q0 p1 p2) &&& (-(g0_165 q0 p1 p2))))])
  refine Fini.st (fun _ k => XS.lstore X17.here hx rfl (hb hby at_173) rfl (l' := #[.val (.long q0), .second, .val (.int p1), .val (.int p2), .val (.long (p1 &&& (255 : Int32)).toInt64), .second, .val (.long ((72340172838076673 : Int64) * (p1 &&& (255 : Int32)).toInt64)), .second, .val (.long (g0_65 p2)), .second, .val (.long (g0_81 q0 p1 p2)), .second, .val (.long (f2 (g0_81 q0 p1 p2) ((72340172838076673 : Int64) * (p1 &&& (255 : Int32)).toInt64))), .second, .val (.long (g0_165 q0 p1 p2)), .second, .val (.long ((g0_165 q0 p1 p2) &&& (-(g0_165 q0 p1 p2)))), .second, .unset, .unset, .unset, .unset, .unset]) rfl k) ?_
  show Fini p e below s _ _ _ T17 (mkF m 175 #[.val (.long q0), .second, .val (.int p1), .val (.int p2), .val (.long (p1 &&& (255 : Int32)).toInt64), .second, .val (.long ((72340172838076673 : Int64) * (p1 &&& (255 : Int32)).toInt64)), .second, .val (.long (g0_65 p2)), .second, .val (.long (g0_81 q0 p1 p2)), .second, .val (.long (f2 (g0_81 q0 p1 p2) ((72340172838076673 : Int64) * (p1 &&& (255 : Int32)).toInt64))), .second, .val (.long (g0_165 q0 p1 p2)), .second, .val (.long ((g0_165 q0 p1 p2) &&& (-(g0_165 q0 p1 p2)))), .second, .unset, .unset, .unset, .unset, .unset] [])
  refine Fini.st (fun _ k => XS.lload X17.here hx rfl (hb hby at_175) rfl k) ?_
  show Fini p e below s _ _ _ T17 (mkF m 177 #[.val (.long q0), .second, .val (.int p1), .val (.int p2), .val (.long (p1 &&& (255 : Int32)).toInt64), .second, .val (.long ((72340172838076673 : Int64) * (p1 &&& (255 : Int32)).toInt64)), .second, .val (.long (g0_65 p2)), .second, .val (.long (g0_81 q0 p1 p2)), .second, .val (.long (f2 (g0_81 q0 p1 p2) ((72340172838076673 : Int64) * (p1 &&& (255 : Int32)).toInt64))), .second, .val (.long (g0_165 q0 p1 p2)), .second, .val (.long ((g0_165 q0 p1 p2) &&& (-(g0_165 q0 p1 p2)))), .second, .unset, .unset, .unset, .unset, .unset] [(.long ((g0_165 q0 p1 p2) &&& (-(g0_165 q0 p1 p2))))])
  refine Fini.st (fun _ k => XS.lconst X17.here hx rfl (hb hby at_177) k) ?_
  show Fini p e below s _ _ _ T17 (mkF m 178 #[.val (.long q0), .second, .val (.int p1), .val (.int p2), .val (.long (p1 &&& (255 : Int32)).toInt64), .second, .val (.long ((72340172838076673 : Int64) * (p1 &&& (255 : Int32)).toInt64)), .second, .val (.long (g0_65 p2)), .second, .val (.long (g0_81 q0 p1 p2)), .second, .val (.long (f2 (g0_81 q0 p1 p2) ((72340172838076673 : Int64) * (p1 &&& (255 : Int32)).toInt64))), .second, .val (.long (g0_165 q0 p1 p2)), .second, .val (.long ((g0_165 q0 p1 p2) &&& (-(g0_165 q0 p1 p2)))), .second, .unset, .unset, .unset, .unset, .unset] [(.long (1 : Int64)), (.long ((g0_165 q0 p1 p2) &&& (-(g0_165 q0 p1 p2))))])
  refine Fini.st (fun _ k => XS.lsub X17.here hx rfl (hb hby at_178) rfl k) ?_
  show Fini p e below s _ _ _ T17 (mkF m 179 #[.val (.long q0), .second, .val (.int p1), .val (.int p2), .val (.long (p1 &&& (255 : Int32)).toInt64), .second, .val (.long ((72340172838076673 : Int64) * (p1 &&& (255 : Int32)).toInt64)), .second, .val (.long (g0_65 p2)), .second, .val (.long (g0_81 q0 p1 p2)), .second, .val (.long (f2 (g0_81 q0 p1 p2) ((72340172838076673 : Int64) * (p1 &&& (255 : Int32)).toInt64))), .second, .val (.long (g0_165 q0 p1 p2)), .second, .val (.long ((g0_165 q0 p1 p2) &&& (-(g0_165 q0 p1 p2)))), .second, .unset, .unset, .unset, .unset, .unset] [(.long (((g0_165 q0 p1 p2) &&& (-(g0_165 q0 p1 p2))) - (1 : Int64)))])
  refine Fini.st (fun _ k => XS.lload X17.here hx rfl (hb hby at_179) rfl k) ?_
  show Fini p e below s _ _ _ T17 (mkF m 181 #[.val (.long q0), .second, .val (.int p1), .val (.int p2), .val (.long (p1 &&& (255 : Int32)).toInt64), .second, .val (.long ((72340172838076673 : Int64) * (p1 &&& (255 : Int32)).toInt64)), .second, .val (.long (g0_65 p2)), .second, .val (.long (g0_81 q0 p1 p2)), .second, .val (.long (f2 (g0_81 q0 p1 p2) ((72340172838076673 : Int64) * (p1 &&& (255 : Int32)).toInt64))), .second, .val (.long (g0_165 q0 p1 p2)), .second, .val (.long ((g0_165 q0 p1 p2) &&& (-(g0_165 q0 p1 p2)))), .second, .unset, .unset, .unset, .unset, .unset] [(.long ((g0_165 q0 p1 p2) &&& (-(g0_165 q0 p1 p2)))), (.long (((g0_165 q0 p1 p2) &&& (-(g0_165 q0 p1 p2))) - (1 : Int64)))])
  refine Fini.st (fun _ k => XS.lor X17.here hx rfl (hb hby at_181) rfl k) ?_
  show Fini p e below s _ _ _ T17 (mkF m 182 #[.val (.long q0), .second, .val (.int p1), .val (.int p2), .val (.long (p1 &&& (255 : Int32)).toInt64), .second, .val (.long ((72340172838076673 : Int64) * (p1 &&& (255 : Int32)).toInt64)), .second, .val (.long (g0_65 p2)), .second, .val (.long (g0_81 q0 p1 p2)), .second, .val (.long (f2 (g0_81 q0 p1 p2) ((72340172838076673 : Int64) * (p1 &&& (255 : Int32)).toInt64))), .second, .val (.long (g0_165 q0 p1 p2)), .second, .val (.long ((g0_165 q0 p1 p2) &&& (-(g0_165 q0 p1 p2)))), .second, .unset, .unset, .unset, .unset, .unset] [(.long ((((g0_165 q0 p1 p2) &&& (-(g0_165 q0 p1 p2))) - (1 : Int64)) ||| ((g0_165 q0 p1 p2) &&& (-(g0_165 q0 p1 p2)))))])
  refine Fini.st (fun _ k => XS.lstore X17.here hx rfl (hb hby at_182) rfl (l' := #[.val (.long q0), .second, .val (.int p1), .val (.int p2), .val (.long (p1 &&& (255 : Int32)).toInt64), .second, .val (.long ((72340172838076673 : Int64) * (p1 &&& (255 : Int32)).toInt64)), .second, .val (.long (g0_65 p2)), .second, .val (.long (g0_81 q0 p1 p2)), .second, .val (.long (f2 (g0_81 q0 p1 p2) ((72340172838076673 : Int64) * (p1 &&& (255 : Int32)).toInt64))), .second, .val (.long (g0_165 q0 p1 p2)), .second, .val (.long ((g0_165 q0 p1 p2) &&& (-(g0_165 q0 p1 p2)))), .second, .val (.long (g0_182 q0 p1 p2)), .second, .unset, .unset, .unset]) rfl k) ?_
  show Fini p e below s _ _ _ T17 (mkF m 184 #[.val (.long q0), .second, .val (.int p1), .val (.int p2), .val (.long (p1 &&& (255 : Int32)).toInt64), .second, .val (.long ((72340172838076673 : Int64) * (p1 &&& (255 : Int32)).toInt64)), .second, .val (.long (g0_65 p2)), .second, .val (.long (g0_81 q0 p1 p2)), .second, .val (.long (f2 (g0_81 q0 p1 p2) ((72340172838076673 : Int64) * (p1 &&& (255 : Int32)).toInt64))), .second, .val (.long (g0_165 q0 p1 p2)), .second, .val (.long ((g0_165 q0 p1 p2) &&& (-(g0_165 q0 p1 p2)))), .second, .val (.long (g0_182 q0 p1 p2)), .second, .unset, .unset, .unset] [])
  refine Fini.st (fun _ k => XS.lload X17.here hx rfl (hb hby at_184) rfl k) ?_
  show Fini p e below s _ _ _ T17 (mkF m 186 #[.val (.long q0), .second, .val (.int p1), .val (.int p2), .val (.long (p1 &&& (255 : Int32)).toInt64), .second, .val (.long ((72340172838076673 : Int64) * (p1 &&& (255 : Int32)).toInt64)), .second, .val (.long (g0_65 p2)), .second, .val (.long (g0_81 q0 p1 p2)), .second, .val (.long (f2 (g0_81 q0 p1 p2) ((72340172838076673 : Int64) * (p1 &&& (255 : Int32)).toInt64))), .second, .val (.long (g0_165 q0 p1 p2)), .second, .val (.long ((g0_165 q0 p1 p2) &&& (-(g0_165 q0 p1 p2)))), .second, .val (.long (g0_182 q0 p1 p2)), .second, .unset, .unset, .unset] [(.long (f2 (g0_81 q0 p1 p2) ((72340172838076673 : Int64) * (p1 &&& (255 : Int32)).toInt64)))])
  refine Fini.st (fun _ k => X17.ldc2J hx hown (mvT hZ (hw _ (List.mem_of_getElem? (i := 18) rfl))) rfl (hb hby at_186) k) ?_
  show Fini p e below s _ _ _ T17 (mkF m 189 #[.val (.long q0), .second, .val (.int p1), .val (.int p2), .val (.long (p1 &&& (255 : Int32)).toInt64), .second, .val (.long ((72340172838076673 : Int64) * (p1 &&& (255 : Int32)).toInt64)), .second, .val (.long (g0_65 p2)), .second, .val (.long (g0_81 q0 p1 p2)), .second, .val (.long (f2 (g0_81 q0 p1 p2) ((72340172838076673 : Int64) * (p1 &&& (255 : Int32)).toInt64))), .second, .val (.long (g0_165 q0 p1 p2)), .second, .val (.long ((g0_165 q0 p1 p2) &&& (-(g0_165 q0 p1 p2)))), .second, .val (.long (g0_182 q0 p1 p2)), .second, .unset, .unset, .unset] [(.long (9187201950435737471 : Int64)), (.long (f2 (g0_81 q0 p1 p2) ((72340172838076673 : Int64) * (p1 &&& (255 : Int32)).toInt64)))])
  refine Fini.st (fun _ k => XS.land X17.here hx rfl (hb hby at_189) rfl k) ?_
  show Fini p e below s _ _ _ T17 (mkF m 190 #[.val (.long q0), .second, .val (.int p1), .val (.int p2), .val (.long (p1 &&& (255 : Int32)).toInt64), .second, .val (.long ((72340172838076673 : Int64) * (p1 &&& (255 : Int32)).toInt64)), .second, .val (.long (g0_65 p2)), .second, .val (.long (g0_81 q0 p1 p2)), .second, .val (.long (f2 (g0_81 q0 p1 p2) ((72340172838076673 : Int64) * (p1 &&& (255 : Int32)).toInt64))), .second, .val (.long (g0_165 q0 p1 p2)), .second, .val (.long ((g0_165 q0 p1 p2) &&& (-(g0_165 q0 p1 p2)))), .second, .val (.long (g0_182 q0 p1 p2)), .second, .unset, .unset, .unset] [(.long ((f2 (g0_81 q0 p1 p2) ((72340172838076673 : Int64) * (p1 &&& (255 : Int32)).toInt64)) &&& (9187201950435737471 : Int64)))])
  refine Fini.st (fun _ k => XS.lconst X17.here hx rfl (hb hby at_190) k) ?_
  show Fini p e below s _ _ _ T17 (mkF m 191 #[.val (.long q0), .second, .val (.int p1), .val (.int p2), .val (.long (p1 &&& (255 : Int32)).toInt64), .second, .val (.long ((72340172838076673 : Int64) * (p1 &&& (255 : Int32)).toInt64)), .second, .val (.long (g0_65 p2)), .second, .val (.long (g0_81 q0 p1 p2)), .second, .val (.long (f2 (g0_81 q0 p1 p2) ((72340172838076673 : Int64) * (p1 &&& (255 : Int32)).toInt64))), .second, .val (.long (g0_165 q0 p1 p2)), .second, .val (.long ((g0_165 q0 p1 p2) &&& (-(g0_165 q0 p1 p2)))), .second, .val (.long (g0_182 q0 p1 p2)), .second, .unset, .unset, .unset] [(.long (0 : Int64)), (.long ((f2 (g0_81 q0 p1 p2) ((72340172838076673 : Int64) * (p1 &&& (255 : Int32)).toInt64)) &&& (9187201950435737471 : Int64)))])
  refine Fini.st (fun _ k => XT.lcmp X17.here hx rfl (hb hby at_191) rfl k) ?_
  show Fini p e below s _ _ _ T17 (mkF m 192 #[.val (.long q0), .second, .val (.int p1), .val (.int p2), .val (.long (p1 &&& (255 : Int32)).toInt64), .second, .val (.long ((72340172838076673 : Int64) * (p1 &&& (255 : Int32)).toInt64)), .second, .val (.long (g0_65 p2)), .second, .val (.long (g0_81 q0 p1 p2)), .second, .val (.long (f2 (g0_81 q0 p1 p2) ((72340172838076673 : Int64) * (p1 &&& (255 : Int32)).toInt64))), .second, .val (.long (g0_165 q0 p1 p2)), .second, .val (.long ((g0_165 q0 p1 p2) &&& (-(g0_165 q0 p1 p2)))), .second, .val (.long (g0_182 q0 p1 p2)), .second, .unset, .unset, .unset] [(.int (XT.cmpL ((f2 (g0_81 q0 p1 p2) ((72340172838076673 : Int64) * (p1 &&& (255 : Int32)).toInt64)) &&& (9187201950435737471 : Int64)) (0 : Int64)))])
  by_cases c18 : ((f2 (g0_81 q0 p1 p2) ((72340172838076673 : Int64) * (p1 &&& (255 : Int32)).toInt64)) &&& (9187201950435737471 : Int64)) = (0 : Int64)
  · have hv19 := hv0.trans (if_pos c18)
    refine Fini.st (fun _ k => XS.ifNo X17.here hx rfl (hb hby at_192) rfl (XT.ll_ne_f c18) k) ?_
    show Fini p e below s _ _ _ T17 (mkF m 195 #[.val (.long q0), .second, .val (.int p1), .val (.int p2), .val (.long (p1 &&& (255 : Int32)).toInt64), .second, .val (.long ((72340172838076673 : Int64) * (p1 &&& (255 : Int32)).toInt64)), .second, .val (.long (g0_65 p2)), .second, .val (.long (g0_81 q0 p1 p2)), .second, .val (.long (f2 (g0_81 q0 p1 p2) ((72340172838076673 : Int64) * (p1 &&& (255 : Int32)).toInt64))), .second, .val (.long (g0_165 q0 p1 p2)), .second, .val (.long ((g0_165 q0 p1 p2) &&& (-(g0_165 q0 p1 p2)))), .second, .val (.long (g0_182 q0 p1 p2)), .second, .unset, .unset, .unset] [])
    refine Fini.st (fun _ k => XS.iconst X17.here hx rfl (hb hby at_195) k) ?_
    show Fini p e below s _ _ _ T17 (mkF m 196 #[.val (.long q0), .second, .val (.int p1), .val (.int p2), .val (.long (p1 &&& (255 : Int32)).toInt64), .second, .val (.long ((72340172838076673 : Int64) * (p1 &&& (255 : Int32)).toInt64)), .second, .val (.long (g0_65 p2)), .second, .val (.long (g0_81 q0 p1 p2)), .second, .val (.long (f2 (g0_81 q0 p1 p2) ((72340172838076673 : Int64) * (p1 &&& (255 : Int32)).toInt64))), .second, .val (.long (g0_165 q0 p1 p2)), .second, .val (.long ((g0_165 q0 p1 p2) &&& (-(g0_165 q0 p1 p2)))), .second, .val (.long (g0_182 q0 p1 p2)), .second, .unset, .unset, .unset] [(.int (1 : Int32))])
    refine Fini.st (fun _ k => XS.goto X17.here hx rfl (pc0 := 196) (pc' := 200) rfl (hb hby at_196) (by decide) (by decide) k) ?_
    show Fini p e below s _ _ _ T17 (mkF m 200 #[.val (.long q0), .second, .val (.int p1), .val (.int p2), .val (.long (p1 &&& (255 : Int32)).toInt64), .second, .val (.long ((72340172838076673 : Int64) * (p1 &&& (255 : Int32)).toInt64)), .second, .val (.long (g0_65 p2)), .second, .val (.long (g0_81 q0 p1 p2)), .second, .val (.long (f2 (g0_81 q0 p1 p2) ((72340172838076673 : Int64) * (p1 &&& (255 : Int32)).toInt64))), .second, .val (.long (g0_165 q0 p1 p2)), .second, .val (.long ((g0_165 q0 p1 p2) &&& (-(g0_165 q0 p1 p2)))), .second, .val (.long (g0_182 q0 p1 p2)), .second, .unset, .unset, .unset] [(.int (1 : Int32))])
    exact B200 T17 X17 e17 (1 : Int32) hv19
  · have hv20 := hv0.trans (if_neg c18)
    refine Fini.st (fun _ k => XS.ifYes X17.here hx rfl (pc0 := 192) (pc' := 199) rfl (hb hby at_192) rfl (XT.ll_ne_t c18) (by decide) (by decide) k) ?_
    show Fini p e below s _ _ _ T17 (mkF m 199 #[.val (.long q0), .second, .val (.int p1), .val (.int p2), .val (.long (p1 &&& (255 : Int32)).toInt64), .second, .val (.long ((72340172838076673 : Int64) * (p1 &&& (255 : Int32)).toInt64)), .second, .val (.long (g0_65 p2)), .second, .val (.long (g0_81 q0 p1 p2)), .second, .val (.long (f2 (g0_81 q0 p1 p2) ((72340172838076673 : Int64) * (p1 &&& (255 : Int32)).toInt64))), .second, .val (.long (g0_165 q0 p1 p2)), .second, .val (.long ((g0_165 q0 p1 p2) &&& (-(g0_165 q0 p1 p2)))), .second, .val (.long (g0_182 q0 p1 p2)), .second, .unset, .unset, .unset] [])
    refine Fini.st (fun _ k => XS.iconst X17.here hx rfl (hb hby at_199) k) ?_
    show Fini p e below s _ _ _ T17 (mkF m 200 #[.val (.long q0), .second, .val (.int p1), .val (.int p2), .val (.long (p1 &&& (255 : Int32)).toInt64), .second, .val (.long ((72340172838076673 : Int64) * (p1 &&& (255 : Int32)).toInt64)), .second, .val (.long (g0_65 p2)), .second, .val (.long (g0_81 q0 p1 p2)), .second, .val (.long (f2 (g0_81 q0 p1 p2) ((72340172838076673 : Int64) * (p1 &&& (255 : Int32)).toInt64))), .second, .val (.long (g0_165 q0 p1 p2)), .second, .val (.long ((g0_165 q0 p1 p2) &&& (-(g0_165 q0 p1 p2)))), .second, .val (.long (g0_182 q0 p1 p2)), .second, .unset, .unset, .unset] [(.int (0 : Int32))])
    exact B200 T17 X17 e17 (0 : Int32) hv20
theorem own_bit (b : BitVec 64) (t : Nat) : b.getLsbD t = decide (b.toNat / 2 ^ t % 2 = 1) := Nat.testBit_eq_decide_div_mod_eq
theorem own_low (M : BitVec 64) (k : Nat) (h1 : M.getLsbD k = true) (h0 : ∀ t, t < k → M.getLsbD t = false) : M &&& -M = BitVec.twoPow 64 k := by
  apply BitVec.eq_of_getLsbD_eq
  intro t ht
  rw [BitVec.getLsbD_and, BitVec.getLsbD_neg, BitVec.getLsbD_twoPow]
  by_cases q : t < k
  · have hne : ¬ k = t := by omega
    simp [h0 t q, hne]
  · by_cases r : t = k
    · subst r
      have hne : ¬ ∃ j, j < t ∧ M.getLsbD j = true := by
        rintro ⟨j, hj, hm⟩
        rw [h0 j hj] at hm; cases hm
      simp [h1, ht, hne]
    · have hex : ∃ j, j < t ∧ M.getLsbD j = true := ⟨k, by omega, h1⟩
      have hne : ¬ k = t := by omega
      simp [hex, ht, hne]
def own_M (X : BitVec 64) (B : Nat) : BitVec 64 := (X - BitVec.ofNat 64 (72340172838076673 * B)) &&& ~~~X &&& 9259542123273814144#64
theorem own_hi : ∀ t : Fin 64, (9259542123273814144#64).getLsbD t.1 = decide (t.1 % 8 = 7) := by decide
theorem own_D (X : BitVec 64) (B : Nat) (hB : B ≤ 128) : (X - BitVec.ofNat 64 (72340172838076673 * B)).toNat = (18446744073709551616 - 72340172838076673 * B + X.toNat) % 18446744073709551616 := by
  rw [BitVec.toNat_sub, BitVec.toNat_ofNat]
  have : 72340172838076673 * B % 2 ^ 64 = 72340172838076673 * B := Nat.mod_eq_of_lt (by omega)
  rw [this]
theorem own_Mbit (X : BitVec 64) (B t : Nat) (ht : t < 64) : (own_M X B).getLsbD t = (((X - BitVec.ofNat 64 (72340172838076673 * B)).getLsbD t && !X.getLsbD t) && decide (t % 8 = 7)) := by
  unfold own_M
  rw [BitVec.getLsbD_and, BitVec.getLsbD_and, BitVec.getLsbD_not, own_hi ⟨t, ht⟩]
  simp [ht]
theorem own_nb0 (X B : Nat) (hl : 0 * B ≤ X % 1) (hb : B ≤ X / 1 % 256) : 1 * B ≤ X % 256 := by omega
theorem own_st0 (X B D : Nat) (hX : X < 18446744073709551616) (hB : B ≤ 128) (hD : D = (18446744073709551616 - 72340172838076673 * B + X) % 18446744073709551616) (hl : 0 * B ≤ X % 1) : ∃ z : Int, ((D / 1 : Nat) : Int) = ((X / 1 % 256 : Nat) : Int) - (B : Int) + 256 * z := by
  refine ⟨((X / 1 / 256 : Nat) : Int) - 282578800148737 * (B : Int) + 72057594037927936 * (1 - (((18446744073709551616 - 72340172838076673 * B + X) / 18446744073709551616 : Nat) : Int)), ?_⟩
  have h1 : (D : Int) = (((X % 1 : Nat) : Int) - 0 * (B : Int)) + 1 * (((X / 1 % 256 : Nat) : Int) - (B : Int) + 256 * (((X / 1 / 256 : Nat) : Int) - 282578800148737 * (B : Int) + 72057594037927936 * (1 - (((18446744073709551616 - 72340172838076673 * B + X) / 18446744073709551616 : Nat) : Int)))) := by omega
  have h2 : 0 ≤ ((X % 1 : Nat) : Int) - 0 * (B : Int) ∧ ((X % 1 : Nat) : Int) - 0 * (B : Int) < 1 := by omega
  generalize ((X % 1 : Nat) : Int) - 0 * (B : Int) = y at *
  generalize ((X / 1 % 256 : Nat) : Int) - (B : Int) + 256 * (((X / 1 / 256 : Nat) : Int) - 282578800148737 * (B : Int) + 72057594037927936 * (1 - (((18446744073709551616 - 72340172838076673 * B + X) / 18446744073709551616 : Nat) : Int))) = w at *
  omega
theorem own_lo0 (X B D : Nat) (hX : X < 18446744073709551616) (hB : B ≤ 128) (hD : D = (18446744073709551616 - 72340172838076673 * B + X) % 18446744073709551616) (hl : 0 * B ≤ X % 1) (hb : B ≤ X / 1 % 256) : D / 128 % 2 = 1 → X / 128 % 2 = 1 := by
  obtain ⟨z, hz⟩ := own_st0 X B D hX hB hD hl
  have e1 : D / 128 = D / 1 / 128 := (Nat.div_div_eq_div_mul D 1 128).symm
  have e2 : X / 128 = X / 1 / 128 := (Nat.div_div_eq_div_mul X 1 128).symm
  rw [e1, e2]
  generalize D / 1 = d at *
  generalize X / 1 = x at *
  clear hD hl hX
  omega
theorem own_hi0 (X B D : Nat) (hX : X < 18446744073709551616) (hB : B ≤ 128) (hD : D = (18446744073709551616 - 72340172838076673 * B + X) % 18446744073709551616) (hl : 0 * B ≤ X % 1) (hb : X / 1 % 256 < B) : D / 128 % 2 = 1 ∧ X / 128 % 2 = 0 := by
  obtain ⟨z, hz⟩ := own_st0 X B D hX hB hD hl
  have e1 : D / 128 = D / 1 / 128 := (Nat.div_div_eq_div_mul D 1 128).symm
  have e2 : X / 128 = X / 1 / 128 := (Nat.div_div_eq_div_mul X 1 128).symm
  rw [e1, e2]
  generalize D / 1 = d at *
  generalize X / 1 = x at *
  clear hD hl hX
  omega
theorem own_nb1 (X B : Nat) (hl : 1 * B ≤ X % 256) (hb : B ≤ X / 256 % 256) : 257 * B ≤ X % 65536 := by omega
theorem own_st1 (X B D : Nat) (hX : X < 18446744073709551616) (hB : B ≤ 128) (hD : D = (18446744073709551616 - 72340172838076673 * B + X) % 18446744073709551616) (hl : 1 * B ≤ X % 256) : ∃ z : Int, ((D / 256 : Nat) : Int) = ((X / 256 % 256 : Nat) : Int) - (B : Int) + 256 * z := by
  refine ⟨((X / 256 / 256 : Nat) : Int) - 1103823438081 * (B : Int) + 281474976710656 * (1 - (((18446744073709551616 - 72340172838076673 * B + X) / 18446744073709551616 : Nat) : Int)), ?_⟩
  have h1 : (D : Int) = (((X % 256 : Nat) : Int) - 1 * (B : Int)) + 256 * (((X / 256 % 256 : Nat) : Int) - (B : Int) + 256 * (((X / 256 / 256 : Nat) : Int) - 1103823438081 * (B : Int) + 281474976710656 * (1 - (((18446744073709551616 - 72340172838076673 * B + X) / 18446744073709551616 : Nat) : Int)))) := by omega
  have h2 : 0 ≤ ((X % 256 : Nat) : Int) - 1 * (B : Int) ∧ ((X % 256 : Nat) : Int) - 1 * (B : Int) < 256 := by omega
  generalize ((X % 256 : Nat) : Int) - 1 * (B : Int) = y at *
  generalize ((X / 256 % 256 : Nat) : Int) - (B : Int) + 256 * (((X / 256 / 256 : Nat) : Int) - 1103823438081 * (B : Int) + 281474976710656 * (1 - (((18446744073709551616 - 72340172838076673 * B + X) / 18446744073709551616 : Nat) : Int))) = w at *
  omega
theorem own_lo1 (X B D : Nat) (hX : X < 18446744073709551616) (hB : B ≤ 128) (hD : D = (18446744073709551616 - 72340172838076673 * B + X) % 18446744073709551616) (hl : 1 * B ≤ X % 256) (hb : B ≤ X / 256 % 256) : D / 32768 % 2 = 1 → X / 32768 % 2 = 1 := by
  obtain ⟨z, hz⟩ := own_st1 X B D hX hB hD hl
  have e1 : D / 32768 = D / 256 / 128 := (Nat.div_div_eq_div_mul D 256 128).symm
  have e2 : X / 32768 = X / 256 / 128 := (Nat.div_div_eq_div_mul X 256 128).symm
  rw [e1, e2]
  generalize D / 256 = d at *
  generalize X / 256 = x at *
  clear hD hl hX
  omega
theorem own_hi1 (X B D : Nat) (hX : X < 18446744073709551616) (hB : B ≤ 128) (hD : D = (18446744073709551616 - 72340172838076673 * B + X) % 18446744073709551616) (hl : 1 * B ≤ X % 256) (hb : X / 256 % 256 < B) : D / 32768 % 2 = 1 ∧ X / 32768 % 2 = 0 := by
  obtain ⟨z, hz⟩ := own_st1 X B D hX hB hD hl
  have e1 : D / 32768 = D / 256 / 128 := (Nat.div_div_eq_div_mul D 256 128).symm
  have e2 : X / 32768 = X / 256 / 128 := (Nat.div_div_eq_div_mul X 256 128).symm
  rw [e1, e2]
  generalize D / 256 = d at *
  generalize X / 256 = x at *
  clear hD hl hX
  omega
theorem own_nb2 (X B : Nat) (hl : 257 * B ≤ X % 65536) (hb : B ≤ X / 65536 % 256) : 65793 * B ≤ X % 16777216 := by omega
theorem own_st2 (X B D : Nat) (hX : X < 18446744073709551616) (hB : B ≤ 128) (hD : D = (18446744073709551616 - 72340172838076673 * B + X) % 18446744073709551616) (hl : 257 * B ≤ X % 65536) : ∃ z : Int, ((D / 65536 : Nat) : Int) = ((X / 65536 % 256 : Nat) : Int) - (B : Int) + 256 * z := by
  refine ⟨((X / 65536 / 256 : Nat) : Int) - 4311810305 * (B : Int) + 1099511627776 * (1 - (((18446744073709551616 - 72340172838076673 * B + X) / 18446744073709551616 : Nat) : Int)), ?_⟩
  have h1 : (D : Int) = (((X % 65536 : Nat) : Int) - 257 * (B : Int)) + 65536 * (((X / 65536 % 256 : Nat) : Int) - (B : Int) + 256 * (((X / 65536 / 256 : Nat) : Int) - 4311810305 * (B : Int) + 1099511627776 * (1 - (((18446744073709551616 - 72340172838076673 * B + X) / 18446744073709551616 : Nat) : Int)))) := by omega
  have h2 : 0 ≤ ((X % 65536 : Nat) : Int) - 257 * (B : Int) ∧ ((X % 65536 : Nat) : Int) - 257 * (B : Int) < 65536 := by omega
  generalize ((X % 65536 : Nat) : Int) - 257 * (B : Int) = y at *
  generalize ((X / 65536 % 256 : Nat) : Int) - (B : Int) + 256 * (((X / 65536 / 256 : Nat) : Int) - 4311810305 * (B : Int) + 1099511627776 * (1 - (((18446744073709551616 - 72340172838076673 * B + X) / 18446744073709551616 : Nat) : Int))) = w at *
  omega
theorem own_lo2 (X B D : Nat) (hX : X < 18446744073709551616) (hB : B ≤ 128) (hD : D = (18446744073709551616 - 72340172838076673 * B + X) % 18446744073709551616) (hl : 257 * B ≤ X % 65536) (hb : B ≤ X / 65536 % 256) : D / 8388608 % 2 = 1 → X / 8388608 % 2 = 1 := by
  obtain ⟨z, hz⟩ := own_st2 X B D hX hB hD hl
  have e1 : D / 8388608 = D / 65536 / 128 := (Nat.div_div_eq_div_mul D 65536 128).symm
  have e2 : X / 8388608 = X / 65536 / 128 := (Nat.div_div_eq_div_mul X 65536 128).symm
  rw [e1, e2]
  generalize D / 65536 = d at *
  generalize X / 65536 = x at *
  clear hD hl hX
  omega
theorem own_hi2 (X B D : Nat) (hX : X < 18446744073709551616) (hB : B ≤ 128) (hD : D = (18446744073709551616 - 72340172838076673 * B + X) % 18446744073709551616) (hl : 257 * B ≤ X % 65536) (hb : X / 65536 % 256 < B) : D / 8388608 % 2 = 1 ∧ X / 8388608 % 2 = 0 := by
  obtain ⟨z, hz⟩ := own_st2 X B D hX hB hD hl
  have e1 : D / 8388608 = D / 65536 / 128 := (Nat.div_div_eq_div_mul D 65536 128).symm
  have e2 : X / 8388608 = X / 65536 / 128 := (Nat.div_div_eq_div_mul X 65536 128).symm
  rw [e1, e2]
  generalize D / 65536 = d at *
  generalize X / 65536 = x at *
  clear hD hl hX
  omega
theorem own_nb3 (X B : Nat) (hl : 65793 * B ≤ X % 16777216) (hb : B ≤ X / 16777216 % 256) : 16843009 * B ≤ X % 4294967296 := by omega
theorem own_st3 (X B D : Nat) (hX : X < 18446744073709551616) (hB : B ≤ 128) (hD : D = (18446744073709551616 - 72340172838076673 * B + X) % 18446744073709551616) (hl : 65793 * B ≤ X % 16777216) : ∃ z : Int, ((D / 16777216 : Nat) : Int) = ((X / 16777216 % 256 : Nat) : Int) - (B : Int) + 256 * z := by
  refine ⟨((X / 16777216 / 256 : Nat) : Int) - 16843009 * (B : Int) + 4294967296 * (1 - (((18446744073709551616 - 72340172838076673 * B + X) / 18446744073709551616 : Nat) : Int)), ?_⟩
  have h1 : (D : Int) = (((X % 16777216 : Nat) : Int) - 65793 * (B : Int)) + 16777216 * (((X / 16777216 % 256 : Nat) : Int) - (B : Int) + 256 * (((X / 16777216 / 256 : Nat) : Int) - 16843009 * (B : Int) + 4294967296 * (1 - (((18446744073709551616 - 72340172838076673 * B + X) / 18446744073709551616 : Nat) : Int)))) := by omega
  have h2 : 0 ≤ ((X % 16777216 : Nat) : Int) - 65793 * (B : Int) ∧ ((X % 16777216 : Nat) : Int) - 65793 * (B : Int) < 16777216 := by omega
  generalize ((X % 16777216 : Nat) : Int) - 65793 * (B : Int) = y at *
  generalize ((X / 16777216 % 256 : Nat) : Int) - (B : Int) + 256 * (((X / 16777216 / 256 : Nat) : Int) - 16843009 * (B : Int) + 4294967296 * (1 - (((18446744073709551616 - 72340172838076673 * B + X) / 18446744073709551616 : Nat) : Int))) = w at *
  omega
theorem own_lo3 (X B D : Nat) (hX : X < 18446744073709551616) (hB : B ≤ 128) (hD : D = (18446744073709551616 - 72340172838076673 * B + X) % 18446744073709551616) (hl : 65793 * B ≤ X % 16777216) (hb : B ≤ X / 16777216 % 256) : D / 2147483648 % 2 = 1 → X / 2147483648 % 2 = 1 := by
  obtain ⟨z, hz⟩ := own_st3 X B D hX hB hD hl
  have e1 : D / 2147483648 = D / 16777216 / 128 := (Nat.div_div_eq_div_mul D 16777216 128).symm
  have e2 : X / 2147483648 = X / 16777216 / 128 := (Nat.div_div_eq_div_mul X 16777216 128).symm
  rw [e1, e2]
  generalize D / 16777216 = d at *
  generalize X / 16777216 = x at *
  clear hD hl hX
  omega
theorem own_hi3 (X B D : Nat) (hX : X < 18446744073709551616) (hB : B ≤ 128) (hD : D = (18446744073709551616 - 72340172838076673 * B + X) % 18446744073709551616) (hl : 65793 * B ≤ X % 16777216) (hb : X / 16777216 % 256 < B) : D / 2147483648 % 2 = 1 ∧ X / 2147483648 % 2 = 0 := by
  obtain ⟨z, hz⟩ := own_st3 X B D hX hB hD hl
  have e1 : D / 2147483648 = D / 16777216 / 128 := (Nat.div_div_eq_div_mul D 16777216 128).symm
  have e2 : X / 2147483648 = X / 16777216 / 128 := (Nat.div_div_eq_div_mul X 16777216 128).symm
  rw [e1, e2]
  generalize D / 16777216 = d at *
  generalize X / 16777216 = x at *
  clear hD hl hX
  omega
theorem own_nb4 (X B : Nat) (hl : 16843009 * B ≤ X % 4294967296) (hb : B ≤ X / 4294967296 % 256) : 4311810305 * B ≤ X % 1099511627776 := by omega
theorem own_st4 (X B D : Nat) (hX : X < 18446744073709551616) (hB : B ≤ 128) (hD : D = (18446744073709551616 - 72340172838076673 * B + X) % 18446744073709551616) (hl : 16843009 * B ≤ X % 4294967296) : ∃ z : Int, ((D / 4294967296 : Nat) : Int) = ((X / 4294967296 % 256 : Nat) : Int) - (B : Int) + 256 * z := by
  refine ⟨((X / 4294967296 / 256 : Nat) : Int) - 65793 * (B : Int) + 16777216 * (1 - (((18446744073709551616 - 72340172838076673 * B + X) / 18446744073709551616 : Nat) : Int)), ?_⟩
  have h1 : (D : Int) = (((X % 4294967296 : Nat) : Int) - 16843009 * (B : Int)) + 4294967296 * (((X / 4294967296 % 256 : Nat) : Int) - (B : Int) + 256 * (((X / 4294967296 / 256 : Nat) : Int) - 65793 * (B : Int) + 16777216 * (1 - (((18446744073709551616 - 72340172838076673 * B + X) / 18446744073709551616 : Nat) : Int)))) := by omega
  have h2 : 0 ≤ ((X % 4294967296 : Nat) : Int) - 16843009 * (B : Int) ∧ ((X % 4294967296 : Nat) : Int) - 16843009 * (B : Int) < 4294967296 := by omega
  generalize ((X % 4294967296 : Nat) : Int) - 16843009 * (B : Int) = y at *
  generalize ((X / 4294967296 % 256 : Nat) : Int) - (B : Int) + 256 * (((X / 4294967296 / 256 : Nat) : Int) - 65793 * (B : Int) + 16777216 * (1 - (((18446744073709551616 - 72340172838076673 * B + X) / 18446744073709551616 : Nat) : Int))) = w at *
  omega
theorem own_lo4 (X B D : Nat) (hX : X < 18446744073709551616) (hB : B ≤ 128) (hD : D = (18446744073709551616 - 72340172838076673 * B + X) % 18446744073709551616) (hl : 16843009 * B ≤ X % 4294967296) (hb : B ≤ X / 4294967296 % 256) : D / 549755813888 % 2 = 1 → X / 549755813888 % 2 = 1 := by
  obtain ⟨z, hz⟩ := own_st4 X B D hX hB hD hl
  have e1 : D / 549755813888 = D / 4294967296 / 128 := (Nat.div_div_eq_div_mul D 4294967296 128).symm
  have e2 : X / 549755813888 = X / 4294967296 / 128 := (Nat.div_div_eq_div_mul X 4294967296 128).symm
  rw [e1, e2]
  generalize D / 4294967296 = d at *
  generalize X / 4294967296 = x at *
  clear hD hl hX
  omega
theorem own_hi4 (X B D : Nat) (hX : X < 18446744073709551616) (hB : B ≤ 128) (hD : D = (18446744073709551616 - 72340172838076673 * B + X) % 18446744073709551616) (hl : 16843009 * B ≤ X % 4294967296) (hb : X / 4294967296 % 256 < B) : D / 549755813888 % 2 = 1 ∧ X / 549755813888 % 2 = 0 := by
  obtain ⟨z, hz⟩ := own_st4 X B D hX hB hD hl
  have e1 : D / 549755813888 = D / 4294967296 / 128 := (Nat.div_div_eq_div_mul D 4294967296 128).symm
  have e2 : X / 549755813888 = X / 4294967296 / 128 := (Nat.div_div_eq_div_mul X 4294967296 128).symm
  rw [e1, e2]
  generalize D / 4294967296 = d at *
  generalize X / 4294967296 = x at *
  clear hD hl hX
  omega
theorem own_nb5 (X B : Nat) (hl : 4311810305 * B ≤ X % 1099511627776) (hb : B ≤ X / 1099511627776 % 256) : 1103823438081 * B ≤ X % 281474976710656 := by omega
theorem own_st5 (X B D : Nat) (hX : X < 18446744073709551616) (hB : B ≤ 128) (hD : D = (18446744073709551616 - 72340172838076673 * B + X) % 18446744073709551616) (hl : 4311810305 * B ≤ X % 1099511627776) : ∃ z : Int, ((D / 1099511627776 : Nat) : Int) = ((X / 1099511627776 % 256 : Nat) : Int) - (B : Int) + 256 * z := by
  refine ⟨((X / 1099511627776 / 256 : Nat) : Int) - 257 * (B : Int) + 65536 * (1 - (((18446744073709551616 - 72340172838076673 * B + X) / 18446744073709551616 : Nat) : Int)), ?_⟩
  have h1 : (D : Int) = (((X % 1099511627776 : Nat) : Int) - 4311810305 * (B : Int)) + 1099511627776 * (((X / 1099511627776 % 256 : Nat) : Int) - (B : Int) + 256 * (((X / 1099511627776 / 256 : Nat) : Int) - 257 * (B : Int) + 65536 * (1 - (((18446744073709551616 - 72340172838076673 * B + X) / 18446744073709551616 : Nat) : Int)))) := by omega
  have h2 : 0 ≤ ((X % 1099511627776 : Nat) : Int) - 4311810305 * (B : Int) ∧ ((X % 1099511627776 : Nat) : Int) - 4311810305 * (B : Int) < 1099511627776 := by omega
  generalize ((X % 1099511627776 : Nat) : Int) - 4311810305 * (B : Int) = y at *
  generalize ((X / 1099511627776 % 256 : Nat) : Int) - (B : Int) + 256 * (((X / 1099511627776 / 256 : Nat) : Int) - 257 * (B : Int) + 65536 * (1 - (((18446744073709551616 - 72340172838076673 * B + X) / 18446744073709551616 : Nat) : Int))) = w at *
  omega
theorem own_lo5 (X B D : Nat) (hX : X < 18446744073709551616) (hB : B ≤ 128) (hD : D = (18446744073709551616 - 72340172838076673 * B + X) % 18446744073709551616) (hl : 4311810305 * B ≤ X % 1099511627776) (hb : B ≤ X / 1099511627776 % 256) : D / 140737488355328 % 2 = 1 → X / 140737488355328 % 2 = 1 := by
  obtain ⟨z, hz⟩ := own_st5 X B D hX hB hD hl
  have e1 : D / 140737488355328 = D / 1099511627776 / 128 := (Nat.div_div_eq_div_mul D 1099511627776 128).symm
  have e2 : X / 140737488355328 = X / 1099511627776 / 128 := (Nat.div_div_eq_div_mul X 1099511627776 128).symm
  rw [e1, e2]
  generalize D / 1099511627776 = d at *
  generalize X / 1099511627776 = x at *
  clear hD hl hX
  omega
theorem own_hi5 (X B D : Nat) (hX : X < 18446744073709551616) (hB : B ≤ 128) (hD : D = (18446744073709551616 - 72340172838076673 * B + X) % 18446744073709551616) (hl : 4311810305 * B ≤ X % 1099511627776) (hb : X / 1099511627776 % 256 < B) : D / 140737488355328 % 2 = 1 ∧ X / 140737488355328 % 2 = 0 := by
  obtain ⟨z, hz⟩ := own_st5 X B D hX hB hD hl
  have e1 : D / 140737488355328 = D / 1099511627776 / 128 := (Nat.div_div_eq_div_mul D 1099511627776 128).symm
  have e2 : X / 140737488355328 = X / 1099511627776 / 128 := (Nat.div_div_eq_div_mul X 1099511627776 128).symm
  rw [e1, e2]
  generalize D / 1099511627776 = d at *
  generalize X / 1099511627776 = x at *
  clear hD hl hX
  omega
theorem own_nb6 (X B : Nat) (hl : 1103823438081 * B ≤ X % 281474976710656) (hb : B ≤ X / 281474976710656 % 256) : 282578800148737 * B ≤ X % 72057594037927936 := by omega
theorem own_st6 (X B D : Nat) (hX : X < 18446744073709551616) (hB : B ≤ 128) (hD : D = (18446744073709551616 - 72340172838076673 * B + X) % 18446744073709551616) (hl : 1103823438081 * B ≤ X % 281474976710656) : ∃ z : Int, ((D / 281474976710656 : Nat) : Int) = ((X / 281474976710656 % 256 : Nat) : Int) - (B : Int) + 256 * z := by
  refine ⟨((X / 281474976710656 / 256 : Nat) : Int) - 1 * (B : Int) + 256 * (1 - (((18446744073709551616 - 72340172838076673 * B + X) / 18446744073709551616 : Nat) : Int)), ?_⟩
  have h1 : (D : Int) = (((X % 281474976710656 : Nat) : Int) - 1103823438081 * (B : Int)) + 281474976710656 * (((X / 281474976710656 % 256 : Nat) : Int) - (B : Int) + 256 * (((X / 281474976710656 / 256 : Nat) : Int) - 1 * (B : Int) + 256 * (1 - (((18446744073709551616 - 72340172838076673 * B + X) / 18446744073709551616 : Nat) : Int)))) := by omega
  have h2 : 0 ≤ ((X % 281474976710656 : Nat) : Int) - 1103823438081 * (B : Int) ∧ ((X % 281474976710656 : Nat) : Int) - 1103823438081 * (B : Int) < 281474976710656 := by omega
  generalize ((X % 281474976710656 : Nat) : Int) - 1103823438081 * (B : Int) = y at *
  generalize ((X / 281474976710656 % 256 : Nat) : Int) - (B : Int) + 256 * (((X / 281474976710656 / 256 : Nat) : Int) - 1 * (B : Int) + 256 * (1 - (((18446744073709551616 - 72340172838076673 * B + X) / 18446744073709551616 : Nat) : Int))) = w at *
  omega
theorem own_lo6 (X B D : Nat) (hX : X < 18446744073709551616) (hB : B ≤ 128) (hD : D = (18446744073709551616 - 72340172838076673 * B + X) % 18446744073709551616) (hl : 1103823438081 * B ≤ X % 281474976710656) (hb : B ≤ X / 281474976710656 % 256) : D / 36028797018963968 % 2 = 1 → X / 36028797018963968 % 2 = 1 := by
  obtain ⟨z, hz⟩ := own_st6 X B D hX hB hD hl
  have e1 : D / 36028797018963968 = D / 281474976710656 / 128 := (Nat.div_div_eq_div_mul D 281474976710656 128).symm
  have e2 : X / 36028797018963968 = X / 281474976710656 / 128 := (Nat.div_div_eq_div_mul X 281474976710656 128).symm
  rw [e1, e2]
  generalize D / 281474976710656 = d at *
  generalize X / 281474976710656 = x at *
  clear hD hl hX
  omega
theorem own_hi6 (X B D : Nat) (hX : X < 18446744073709551616) (hB : B ≤ 128) (hD : D = (18446744073709551616 - 72340172838076673 * B + X) % 18446744073709551616) (hl : 1103823438081 * B ≤ X % 281474976710656) (hb : X / 281474976710656 % 256 < B) : D / 36028797018963968 % 2 = 1 ∧ X / 36028797018963968 % 2 = 0 := by
  obtain ⟨z, hz⟩ := own_st6 X B D hX hB hD hl
  have e1 : D / 36028797018963968 = D / 281474976710656 / 128 := (Nat.div_div_eq_div_mul D 281474976710656 128).symm
  have e2 : X / 36028797018963968 = X / 281474976710656 / 128 := (Nat.div_div_eq_div_mul X 281474976710656 128).symm
  rw [e1, e2]
  generalize D / 281474976710656 = d at *
  generalize X / 281474976710656 = x at *
  clear hD hl hX
  omega
theorem own_nb7 (X B : Nat) (hl : 282578800148737 * B ≤ X % 72057594037927936) (hb : B ≤ X / 72057594037927936 % 256) : 72340172838076673 * B ≤ X % 18446744073709551616 := by omega
theorem own_st7 (X B D : Nat) (hX : X < 18446744073709551616) (hB : B ≤ 128) (hD : D = (18446744073709551616 - 72340172838076673 * B + X) % 18446744073709551616) (hl : 282578800148737 * B ≤ X % 72057594037927936) : ∃ z : Int, ((D / 72057594037927936 : Nat) : Int) = ((X / 72057594037927936 % 256 : Nat) : Int) - (B : Int) + 256 * z := by
  refine ⟨((X / 72057594037927936 / 256 : Nat) : Int) - 0 * (B : Int) + 1 * (1 - (((18446744073709551616 - 72340172838076673 * B + X) / 18446744073709551616 : Nat) : Int)), ?_⟩
  have h1 : (D : Int) = (((X % 72057594037927936 : Nat) : Int) - 282578800148737 * (B : Int)) + 72057594037927936 * (((X / 72057594037927936 % 256 : Nat) : Int) - (B : Int) + 256 * (((X / 72057594037927936 / 256 : Nat) : Int) - 0 * (B : Int) + 1 * (1 - (((18446744073709551616 - 72340172838076673 * B + X) / 18446744073709551616 : Nat) : Int)))) := by omega
  have h2 : 0 ≤ ((X % 72057594037927936 : Nat) : Int) - 282578800148737 * (B : Int) ∧ ((X % 72057594037927936 : Nat) : Int) - 282578800148737 * (B : Int) < 72057594037927936 := by omega
  generalize ((X % 72057594037927936 : Nat) : Int) - 282578800148737 * (B : Int) = y at *
  generalize ((X / 72057594037927936 % 256 : Nat) : Int) - (B : Int) + 256 * (((X / 72057594037927936 / 256 : Nat) : Int) - 0 * (B : Int) + 1 * (1 - (((18446744073709551616 - 72340172838076673 * B + X) / 18446744073709551616 : Nat) : Int))) = w at *
  omega
theorem own_lo7 (X B D : Nat) (hX : X < 18446744073709551616) (hB : B ≤ 128) (hD : D = (18446744073709551616 - 72340172838076673 * B + X) % 18446744073709551616) (hl : 282578800148737 * B ≤ X % 72057594037927936) (hb : B ≤ X / 72057594037927936 % 256) : D / 9223372036854775808 % 2 = 1 → X / 9223372036854775808 % 2 = 1 := by
  obtain ⟨z, hz⟩ := own_st7 X B D hX hB hD hl
  have e1 : D / 9223372036854775808 = D / 72057594037927936 / 128 := (Nat.div_div_eq_div_mul D 72057594037927936 128).symm
  have e2 : X / 9223372036854775808 = X / 72057594037927936 / 128 := (Nat.div_div_eq_div_mul X 72057594037927936 128).symm
  rw [e1, e2]
  generalize D / 72057594037927936 = d at *
  generalize X / 72057594037927936 = x at *
  clear hD hl hX
  omega
theorem own_hi7 (X B D : Nat) (hX : X < 18446744073709551616) (hB : B ≤ 128) (hD : D = (18446744073709551616 - 72340172838076673 * B + X) % 18446744073709551616) (hl : 282578800148737 * B ≤ X % 72057594037927936) (hb : X / 72057594037927936 % 256 < B) : D / 9223372036854775808 % 2 = 1 ∧ X / 9223372036854775808 % 2 = 0 := by
  obtain ⟨z, hz⟩ := own_st7 X B D hX hB hD hl
  have e1 : D / 9223372036854775808 = D / 72057594037927936 / 128 := (Nat.div_div_eq_div_mul D 72057594037927936 128).symm
  have e2 : X / 9223372036854775808 = X / 72057594037927936 / 128 := (Nat.div_div_eq_div_mul X 72057594037927936 128).symm
  rw [e1, e2]
  generalize D / 72057594037927936 = d at *
  generalize X / 72057594037927936 = x at *
  clear hD hl hX
  omega
theorem own_no0 (X : BitVec 64) (B : Nat) (hB : B ≤ 128) (hl : 0 * B ≤ X.toNat % 1) (hb : B ≤ X.toNat / 1 % 256) : (own_M X B).getLsbD 7 = false := by
  rw [own_Mbit X B 7 (by decide), own_bit, own_bit, own_D X B hB]
  have h := own_lo0 X.toNat B _ X.isLt hB rfl hl hb
  by_cases q : (18446744073709551616 - 72340172838076673 * B + X.toNat) % 18446744073709551616 / 2 ^ 7 % 2 = 1
  · have r : X.toNat / 2 ^ 7 % 2 = 1 := h q
    simp [q, r]
  · simp [q]
theorem own_yes0 (X : BitVec 64) (B : Nat) (hB : B ≤ 128) (hl : 0 * B ≤ X.toNat % 1) (hb : X.toNat / 1 % 256 < B) : (own_M X B).getLsbD 7 = true := by
  rw [own_Mbit X B 7 (by decide), own_bit, own_bit, own_D X B hB]
  have h := own_hi0 X.toNat B _ X.isLt hB rfl hl hb
  have q : (18446744073709551616 - 72340172838076673 * B + X.toNat) % 18446744073709551616 / 2 ^ 7 % 2 = 1 := h.1
  have r : X.toNat / 2 ^ 7 % 2 = 0 := h.2
  simp [q, r]
theorem own_no1 (X : BitVec 64) (B : Nat) (hB : B ≤ 128) (hl : 1 * B ≤ X.toNat % 256) (hb : B ≤ X.toNat / 256 % 256) : (own_M X B).getLsbD 15 = false := by
  rw [own_Mbit X B 15 (by decide), own_bit, own_bit, own_D X B hB]
  have h := own_lo1 X.toNat B _ X.isLt hB rfl hl hb
  by_cases q : (18446744073709551616 - 72340172838076673 * B + X.toNat) % 18446744073709551616 / 2 ^ 15 % 2 = 1
  · have r : X.toNat / 2 ^ 15 % 2 = 1 := h q
    simp [q, r]
  · simp [q]
theorem own_yes1 (X : BitVec 64) (B : Nat) (hB : B ≤ 128) (hl : 1 * B ≤ X.toNat % 256) (hb : X.toNat / 256 % 256 < B) : (own_M X B).getLsbD 15 = true := by
  rw [own_Mbit X B 15 (by decide), own_bit, own_bit, own_D X B hB]
  have h := own_hi1 X.toNat B _ X.isLt hB rfl hl hb
  have q : (18446744073709551616 - 72340172838076673 * B + X.toNat) % 18446744073709551616 / 2 ^ 15 % 2 = 1 := h.1
  have r : X.toNat / 2 ^ 15 % 2 = 0 := h.2
  simp [q, r]
theorem own_no2 (X : BitVec 64) (B : Nat) (hB : B ≤ 128) (hl : 257 * B ≤ X.toNat % 65536) (hb : B ≤ X.toNat / 65536 % 256) : (own_M X B).getLsbD 23 = false := by
  rw [own_Mbit X B 23 (by decide), own_bit, own_bit, own_D X B hB]
  have h := own_lo2 X.toNat B _ X.isLt hB rfl hl hb
  by_cases q : (18446744073709551616 - 72340172838076673 * B + X.toNat) % 18446744073709551616 / 2 ^ 23 % 2 = 1
  · have r : X.toNat / 2 ^ 23 % 2 = 1 := h q
    simp [q, r]
  · simp [q]
theorem own_yes2 (X : BitVec 64) (B : Nat) (hB : B ≤ 128) (hl : 257 * B ≤ X.toNat % 65536) (hb : X.toNat / 65536 % 256 < B) : (own_M X B).getLsbD 23 = true := by
  rw [own_Mbit X B 23 (by decide), own_bit, own_bit, own_D X B hB]
  have h := own_hi2 X.toNat B _ X.isLt hB rfl hl hb
  have q : (18446744073709551616 - 72340172838076673 * B + X.toNat) % 18446744073709551616 / 2 ^ 23 % 2 = 1 := h.1
  have r : X.toNat / 2 ^ 23 % 2 = 0 := h.2
  simp [q, r]
theorem own_no3 (X : BitVec 64) (B : Nat) (hB : B ≤ 128) (hl : 65793 * B ≤ X.toNat % 16777216) (hb : B ≤ X.toNat / 16777216 % 256) : (own_M X B).getLsbD 31 = false := by
  rw [own_Mbit X B 31 (by decide), own_bit, own_bit, own_D X B hB]
  have h := own_lo3 X.toNat B _ X.isLt hB rfl hl hb
  by_cases q : (18446744073709551616 - 72340172838076673 * B + X.toNat) % 18446744073709551616 / 2 ^ 31 % 2 = 1
  · have r : X.toNat / 2 ^ 31 % 2 = 1 := h q
    simp [q, r]
  · simp [q]
theorem own_yes3 (X : BitVec 64) (B : Nat) (hB : B ≤ 128) (hl : 65793 * B ≤ X.toNat % 16777216) (hb : X.toNat / 16777216 % 256 < B) : (own_M X B).getLsbD 31 = true := by
  rw [own_Mbit X B 31 (by decide), own_bit, own_bit, own_D X B hB]
  have h := own_hi3 X.toNat B _ X.isLt hB rfl hl hb
  have q : (18446744073709551616 - 72340172838076673 * B + X.toNat) % 18446744073709551616 / 2 ^ 31 % 2 = 1 := h.1
  have r : X.toNat / 2 ^ 31 % 2 = 0 := h.2
  simp [q, r]
theorem own_no4 (X : BitVec 64) (B : Nat) (hB : B ≤ 128) (hl : 16843009 * B ≤ X.toNat % 4294967296) (hb : B ≤ X.toNat / 4294967296 % 256) : (own_M X B).getLsbD 39 = false := by
  rw [own_Mbit X B 39 (by decide), own_bit, own_bit, own_D X B hB]
  have h := own_lo4 X.toNat B _ X.isLt hB rfl hl hb
  by_cases q : (18446744073709551616 - 72340172838076673 * B + X.toNat) % 18446744073709551616 / 2 ^ 39 % 2 = 1
  · have r : X.toNat / 2 ^ 39 % 2 = 1 := h q
    simp [q, r]
  · simp [q]
theorem own_yes4 (X : BitVec 64) (B : Nat) (hB : B ≤ 128) (hl : 16843009 * B ≤ X.toNat % 4294967296) (hb : X.toNat / 4294967296 % 256 < B) : (own_M X B).getLsbD 39 = true := by
  rw [own_Mbit X B 39 (by decide), own_bit, own_bit, own_D X B hB]
  have h := own_hi4 X.toNat B _ X.isLt hB rfl hl hb
  have q : (18446744073709551616 - 72340172838076673 * B + X.toNat) % 18446744073709551616 / 2 ^ 39 % 2 = 1 := h.1
  have r : X.toNat / 2 ^ 39 % 2 = 0 := h.2
  simp [q, r]
theorem own_no5 (X : BitVec 64) (B : Nat) (hB : B ≤ 128) (hl : 4311810305 * B ≤ X.toNat % 1099511627776) (hb : B ≤ X.toNat / 1099511627776 % 256) : (own_M X B).getLsbD 47 = false := by
  rw [own_Mbit X B 47 (by decide), own_bit, own_bit, own_D X B hB]
  have h := own_lo5 X.toNat B _ X.isLt hB rfl hl hb
  by_cases q : (18446744073709551616 - 72340172838076673 * B + X.toNat) % 18446744073709551616 / 2 ^ 47 % 2 = 1
  · have r : X.toNat / 2 ^ 47 % 2 = 1 := h q
    simp [q, r]
  · simp [q]
theorem own_yes5 (X : BitVec 64) (B : Nat) (hB : B ≤ 128) (hl : 4311810305 * B ≤ X.toNat % 1099511627776) (hb : X.toNat / 1099511627776 % 256 < B) : (own_M X B).getLsbD 47 = true := by
  rw [own_Mbit X B 47 (by decide), own_bit, own_bit, own_D X B hB]
  have h := own_hi5 X.toNat B _ X.isLt hB rfl hl hb
  have q : (18446744073709551616 - 72340172838076673 * B + X.toNat) % 18446744073709551616 / 2 ^ 47 % 2 = 1 := h.1
  have r : X.toNat / 2 ^ 47 % 2 = 0 := h.2
  simp [q, r]
theorem own_no6 (X : BitVec 64) (B : Nat) (hB : B ≤ 128) (hl : 1103823438081 * B ≤ X.toNat % 281474976710656) (hb : B ≤ X.toNat / 281474976710656 % 256) : (own_M X B).getLsbD 55 = false := by
  rw [own_Mbit X B 55 (by decide), own_bit, own_bit, own_D X B hB]
  have h := own_lo6 X.toNat B _ X.isLt hB rfl hl hb
  by_cases q : (18446744073709551616 - 72340172838076673 * B + X.toNat) % 18446744073709551616 / 2 ^ 55 % 2 = 1
  · have r : X.toNat / 2 ^ 55 % 2 = 1 := h q
    simp [q, r]
  · simp [q]
theorem own_yes6 (X : BitVec 64) (B : Nat) (hB : B ≤ 128) (hl : 1103823438081 * B ≤ X.toNat % 281474976710656) (hb : X.toNat / 281474976710656 % 256 < B) : (own_M X B).getLsbD 55 = true := by
  rw [own_Mbit X B 55 (by decide), own_bit, own_bit, own_D X B hB]
  have h := own_hi6 X.toNat B _ X.isLt hB rfl hl hb
  have q : (18446744073709551616 - 72340172838076673 * B + X.toNat) % 18446744073709551616 / 2 ^ 55 % 2 = 1 := h.1
  have r : X.toNat / 2 ^ 55 % 2 = 0 := h.2
  simp [q, r]
theorem own_no7 (X : BitVec 64) (B : Nat) (hB : B ≤ 128) (hl : 282578800148737 * B ≤ X.toNat % 72057594037927936) (hb : B ≤ X.toNat / 72057594037927936 % 256) : (own_M X B).getLsbD 63 = false := by
  rw [own_Mbit X B 63 (by decide), own_bit, own_bit, own_D X B hB]
  have h := own_lo7 X.toNat B _ X.isLt hB rfl hl hb
  by_cases q : (18446744073709551616 - 72340172838076673 * B + X.toNat) % 18446744073709551616 / 2 ^ 63 % 2 = 1
  · have r : X.toNat / 2 ^ 63 % 2 = 1 := h q
    simp [q, r]
  · simp [q]
theorem own_yes7 (X : BitVec 64) (B : Nat) (hB : B ≤ 128) (hl : 282578800148737 * B ≤ X.toNat % 72057594037927936) (hb : X.toNat / 72057594037927936 % 256 < B) : (own_M X B).getLsbD 63 = true := by
  rw [own_Mbit X B 63 (by decide), own_bit, own_bit, own_D X B hB]
  have h := own_hi7 X.toNat B _ X.isLt hB rfl hl hb
  have q : (18446744073709551616 - 72340172838076673 * B + X.toNat) % 18446744073709551616 / 2 ^ 63 % 2 = 1 := h.1
  have r : X.toNat / 2 ^ 63 % 2 = 0 := h.2
  simp [q, r]
theorem own_off (X : BitVec 64) (B t : Nat) (ht : t < 64) (h : ¬ t % 8 = 7) : (own_M X B).getLsbD t = false := by
  rw [own_Mbit X B t ht]; simp [h]
theorem own_first0 (X : BitVec 64) (B : Nat) (hB : B ≤ 128) (g : X.toNat / 1 % 256 < B) : (own_M X B).getLsbD 7 = true ∧ ∀ t, t < 7 → (own_M X B).getLsbD t = false := by
  have l0 : 0 * B ≤ X.toNat % 1 := by omega
  refine ⟨own_yes0 X B hB l0 g, fun t ht => ?_⟩
  by_cases q : t % 8 = 7
  · omega
  · exact own_off X B t (by omega) q
theorem own_first1 (X : BitVec 64) (B : Nat) (hB : B ≤ 128) (h0 : B ≤ X.toNat / 1 % 256) (g : X.toNat / 256 % 256 < B) : (own_M X B).getLsbD 15 = true ∧ ∀ t, t < 15 → (own_M X B).getLsbD t = false := by
  have l0 : 0 * B ≤ X.toNat % 1 := by omega
  have l1 := own_nb0 _ _ l0 h0
  have n0 := own_no0 X B hB l0 h0
  refine ⟨own_yes1 X B hB l1 g, fun t ht => ?_⟩
  by_cases q : t % 8 = 7
  · obtain rfl : t = 7 := by omega
    · exact n0
  · exact own_off X B t (by omega) q
theorem own_first2 (X : BitVec 64) (B : Nat) (hB : B ≤ 128) (h0 : B ≤ X.toNat / 1 % 256) (h1 : B ≤ X.toNat / 256 % 256) (g : X.toNat / 65536 % 256 < B) : (own_M X B).getLsbD 23 = true ∧ ∀ t, t < 23 → (own_M X B).getLsbD t = false := by
  have l0 : 0 * B ≤ X.toNat % 1 := by omega
  have l1 := own_nb0 _ _ l0 h0
  have n0 := own_no0 X B hB l0 h0
  have l2 := own_nb1 _ _ l1 h1
  have n1 := own_no1 X B hB l1 h1
  refine ⟨own_yes2 X B hB l2 g, fun t ht => ?_⟩
  by_cases q : t % 8 = 7
  · obtain rfl | rfl : t = 7 ∨ t = 15 := by omega
    · exact n0
    · exact n1
  · exact own_off X B t (by omega) q
theorem own_first3 (X : BitVec 64) (B : Nat) (hB : B ≤ 128) (h0 : B ≤ X.toNat / 1 % 256) (h1 : B ≤ X.toNat / 256 % 256) (h2 : B ≤ X.toNat / 65536 % 256) (g : X.toNat / 16777216 % 256 < B) : (own_M X B).getLsbD 31 = true ∧ ∀ t, t < 31 → (own_M X B).getLsbD t = false := by
  have l0 : 0 * B ≤ X.toNat % 1 := by omega
  have l1 := own_nb0 _ _ l0 h0
  have n0 := own_no0 X B hB l0 h0
  have l2 := own_nb1 _ _ l1 h1
  have n1 := own_no1 X B hB l1 h1
  have l3 := own_nb2 _ _ l2 h2
  have n2 := own_no2 X B hB l2 h2
  refine ⟨own_yes3 X B hB l3 g, fun t ht => ?_⟩
  by_cases q : t % 8 = 7
  · obtain rfl | rfl | rfl : t = 7 ∨ t = 15 ∨ t = 23 := by omega
    · exact n0
    · exact n1
    · exact n2
  · exact own_off X B t (by omega) q
theorem own_first4 (X : BitVec 64) (B : Nat) (hB : B ≤ 128) (h0 : B ≤ X.toNat / 1 % 256) (h1 : B ≤ X.toNat / 256 % 256) (h2 : B ≤ X.toNat / 65536 % 256) (h3 : B ≤ X.toNat / 16777216 % 256) (g : X.toNat / 4294967296 % 256 < B) : (own_M X B).getLsbD 39 = true ∧ ∀ t, t < 39 → (own_M X B).getLsbD t = false := by
  have l0 : 0 * B ≤ X.toNat % 1 := by omega
  have l1 := own_nb0 _ _ l0 h0
  have n0 := own_no0 X B hB l0 h0
  have l2 := own_nb1 _ _ l1 h1
  have n1 := own_no1 X B hB l1 h1
  have l3 := own_nb2 _ _ l2 h2
  have n2 := own_no2 X B hB l2 h2
  have l4 := own_nb3 _ _ l3 h3
  have n3 := own_no3 X B hB l3 h3
  refine ⟨own_yes4 X B hB l4 g, fun t ht => ?_⟩
  by_cases q : t % 8 = 7
  · obtain rfl | rfl | rfl | rfl : t = 7 ∨ t = 15 ∨ t = 23 ∨ t = 31 := by omega
    · exact n0
    · exact n1
    · exact n2
    · exact n3
  · exact own_off X B t (by omega) q
theorem own_first5 (X : BitVec 64) (B : Nat) (hB : B ≤ 128) (h0 : B ≤ X.toNat / 1 % 256) (h1 : B ≤ X.toNat / 256 % 256) (h2 : B ≤ X.toNat / 65536 % 256) (h3 : B ≤ X.toNat / 16777216 % 256) (h4 : B ≤ X.toNat / 4294967296 % 256) (g : X.toNat / 1099511627776 % 256 < B) : (own_M X B).getLsbD 47 = true ∧ ∀ t, t < 47 → (own_M X B).getLsbD t = false := by
  have l0 : 0 * B ≤ X.toNat % 1 := by omega
  have l1 := own_nb0 _ _ l0 h0
  have n0 := own_no0 X B hB l0 h0
  have l2 := own_nb1 _ _ l1 h1
  have n1 := own_no1 X B hB l1 h1
  have l3 := own_nb2 _ _ l2 h2
  have n2 := own_no2 X B hB l2 h2
  have l4 := own_nb3 _ _ l3 h3
  have n3 := own_no3 X B hB l3 h3
  have l5 := own_nb4 _ _ l4 h4
  have n4 := own_no4 X B hB l4 h4
  refine ⟨own_yes5 X B hB l5 g, fun t ht => ?_⟩
  by_cases q : t % 8 = 7
  · obtain rfl | rfl | rfl | rfl | rfl : t = 7 ∨ t = 15 ∨ t = 23 ∨ t = 31 ∨ t = 39 := by omega
    · exact n0
    · exact n1
    · exact n2
    · exact n3
    · exact n4
  · exact own_off X B t (by omega) q
theorem own_first6 (X : BitVec 64) (B : Nat) (hB : B ≤ 128) (h0 : B ≤ X.toNat / 1 % 256) (h1 : B ≤ X.toNat / 256 % 256) (h2 : B ≤ X.toNat / 65536 % 256) (h3 : B ≤ X.toNat / 16777216 % 256) (h4 : B ≤ X.toNat / 4294967296 % 256) (h5 : B ≤ X.toNat / 1099511627776 % 256) (g : X.toNat / 281474976710656 % 256 < B) : (own_M X B).getLsbD 55 = true ∧ ∀ t, t < 55 → (own_M X B).getLsbD t = false := by
  have l0 : 0 * B ≤ X.toNat % 1 := by omega
  have l1 := own_nb0 _ _ l0 h0
  have n0 := own_no0 X B hB l0 h0
  have l2 := own_nb1 _ _ l1 h1
  have n1 := own_no1 X B hB l1 h1
  have l3 := own_nb2 _ _ l2 h2
  have n2 := own_no2 X B hB l2 h2
  have l4 := own_nb3 _ _ l3 h3
  have n3 := own_no3 X B hB l3 h3
  have l5 := own_nb4 _ _ l4 h4
  have n4 := own_no4 X B hB l4 h4
  have l6 := own_nb5 _ _ l5 h5
  have n5 := own_no5 X B hB l5 h5
  refine ⟨own_yes6 X B hB l6 g, fun t ht => ?_⟩
  by_cases q : t % 8 = 7
  · obtain rfl | rfl | rfl | rfl | rfl | rfl : t = 7 ∨ t = 15 ∨ t = 23 ∨ t = 31 ∨ t = 39 ∨ t = 47 := by omega
    · exact n0
    · exact n1
    · exact n2
    · exact n3
    · exact n4
    · exact n5
  · exact own_off X B t (by omega) q
theorem own_first7 (X : BitVec 64) (B : Nat) (hB : B ≤ 128) (h0 : B ≤ X.toNat / 1 % 256) (h1 : B ≤ X.toNat / 256 % 256) (h2 : B ≤ X.toNat / 65536 % 256) (h3 : B ≤ X.toNat / 16777216 % 256) (h4 : B ≤ X.toNat / 4294967296 % 256) (h5 : B ≤ X.toNat / 1099511627776 % 256) (h6 : B ≤ X.toNat / 281474976710656 % 256) (g : X.toNat / 72057594037927936 % 256 < B) : (own_M X B).getLsbD 63 = true ∧ ∀ t, t < 63 → (own_M X B).getLsbD t = false := by
  have l0 : 0 * B ≤ X.toNat % 1 := by omega
  have l1 := own_nb0 _ _ l0 h0
  have n0 := own_no0 X B hB l0 h0
  have l2 := own_nb1 _ _ l1 h1
  have n1 := own_no1 X B hB l1 h1
  have l3 := own_nb2 _ _ l2 h2
  have n2 := own_no2 X B hB l2 h2
  have l4 := own_nb3 _ _ l3 h3
  have n3 := own_no3 X B hB l3 h3
  have l5 := own_nb4 _ _ l4 h4
  have n4 := own_no4 X B hB l4 h4
  have l6 := own_nb5 _ _ l5 h5
  have n5 := own_no5 X B hB l5 h5
  have l7 := own_nb6 _ _ l6 h6
  have n6 := own_no6 X B hB l6 h6
  refine ⟨own_yes7 X B hB l7 g, fun t ht => ?_⟩
  by_cases q : t % 8 = 7
  · obtain rfl | rfl | rfl | rfl | rfl | rfl | rfl : t = 7 ∨ t = 15 ∨ t = 23 ∨ t = 31 ∨ t = 39 ∨ t = 47 ∨ t = 55 := by omega
    · exact n0
    · exact n1
    · exact n2
    · exact n3
    · exact n4
    · exact n5
    · exact n6
  · exact own_off X B t (by omega) q
theorem own_none (X : BitVec 64) (B : Nat) (hB : B ≤ 128) (h0 : B ≤ X.toNat / 1 % 256) (h1 : B ≤ X.toNat / 256 % 256) (h2 : B ≤ X.toNat / 65536 % 256) (h3 : B ≤ X.toNat / 16777216 % 256) (h4 : B ≤ X.toNat / 4294967296 % 256) (h5 : B ≤ X.toNat / 1099511627776 % 256) (h6 : B ≤ X.toNat / 281474976710656 % 256) (h7 : B ≤ X.toNat / 72057594037927936 % 256) : own_M X B = 0#64 := by
  have l0 : 0 * B ≤ X.toNat % 1 := by omega
  have l1 := own_nb0 _ _ l0 h0
  have n0 := own_no0 X B hB l0 h0
  have l2 := own_nb1 _ _ l1 h1
  have n1 := own_no1 X B hB l1 h1
  have l3 := own_nb2 _ _ l2 h2
  have n2 := own_no2 X B hB l2 h2
  have l4 := own_nb3 _ _ l3 h3
  have n3 := own_no3 X B hB l3 h3
  have l5 := own_nb4 _ _ l4 h4
  have n4 := own_no4 X B hB l4 h4
  have l6 := own_nb5 _ _ l5 h5
  have n5 := own_no5 X B hB l5 h5
  have l7 := own_nb6 _ _ l6 h6
  have n6 := own_no6 X B hB l6 h6
  have l8 := own_nb7 _ _ l7 h7
  have n7 := own_no7 X B hB l7 h7
  apply BitVec.eq_of_getLsbD_eq
  intro t ht
  rw [BitVec.getLsbD_zero]
  by_cases q : t % 8 = 7
  · obtain rfl | rfl | rfl | rfl | rfl | rfl | rfl | rfl : t = 7 ∨ t = 15 ∨ t = 23 ∨ t = 31 ∨ t = 39 ∨ t = 47 ∨ t = 55 ∨ t = 63 := by omega
    · exact n0
    · exact n1
    · exact n2
    · exact n3
    · exact n4
    · exact n5
    · exact n6
    · exact n7
  · exact own_off X B t ht q
theorem own_y0 (X D : Nat) (hX : X < 18446744073709551616) (hD : D = (18446744073709551616 - 72340172838076673 * 1 + X) % 18446744073709551616) (hb : X / 1 % 256 = 0) : ∃ z c : Int, (c = 0 ∨ c = -1) ∧ ((D / 1 : Nat) : Int) = -1 + c + 256 * z := by
  refine ⟨((X / 1 / 256 : Nat) : Int) - 282578800148737 + 72057594037927936 * (1 - (((18446744073709551616 - 72340172838076673 * 1 + X) / 18446744073709551616 : Nat) : Int)), if 0 ≤ X % 1 then 0 else -1, ?_, ?_⟩
  · split <;> simp
  have h1 : (D : Int) = (((X % 1 : Nat) : Int) - 0) + 1 * (-1 + 256 * (((X / 1 / 256 : Nat) : Int) - 282578800148737 + 72057594037927936 * (1 - (((18446744073709551616 - 72340172838076673 * 1 + X) / 18446744073709551616 : Nat) : Int)))) := by omega
  have h2 : ((X % 1 : Nat) : Int) < 1 := by omega
  generalize (((X / 1 / 256 : Nat) : Int) - 282578800148737 + 72057594037927936 * (1 - (((18446744073709551616 - 72340172838076673 * 1 + X) / 18446744073709551616 : Nat) : Int))) = w at *
  clear hD hX hb
  by_cases q : 0 ≤ X % 1
  · rw [if_pos q]; generalize X % 1 = r at *; omega
  · rw [if_neg q]; generalize X % 1 = r at *; omega
theorem own_z0 (X D : Nat) (hX : X < 18446744073709551616) (hD : D = (18446744073709551616 - 72340172838076673 * 1 + X) % 18446744073709551616) (hb : X / 1 % 256 = 0) : D / 128 % 2 = 1 ∧ X / 128 % 2 = 0 := by
  obtain ⟨z, c, hc, hz⟩ := own_y0 X D hX hD hb
  have e1 : D / 128 = D / 1 / 128 := (Nat.div_div_eq_div_mul D 1 128).symm
  have e2 : X / 128 = X / 1 / 128 := (Nat.div_div_eq_div_mul X 1 128).symm
  rw [e1, e2]
  generalize D / 1 = d at *
  generalize X / 1 = x at *
  clear hD hX
  omega
theorem own_zz0 (X : BitVec 64) (hb : X.toNat / 1 % 256 = 0) : (own_M X 1).getLsbD 7 = true := by
  rw [own_Mbit X 1 7 (by decide), own_bit, own_bit, own_D X 1 (by decide)]
  have h := own_z0 X.toNat _ X.isLt rfl hb
  have q : (18446744073709551616 - 72340172838076673 * 1 + X.toNat) % 18446744073709551616 / 2 ^ 7 % 2 = 1 := h.1
  have r : X.toNat / 2 ^ 7 % 2 = 0 := h.2
  simp [q, r]
theorem own_y1 (X D : Nat) (hX : X < 18446744073709551616) (hD : D = (18446744073709551616 - 72340172838076673 * 1 + X) % 18446744073709551616) (hb : X / 256 % 256 = 0) : ∃ z c : Int, (c = 0 ∨ c = -1) ∧ ((D / 256 : Nat) : Int) = -1 + c + 256 * z := by
  refine ⟨((X / 256 / 256 : Nat) : Int) - 1103823438081 + 281474976710656 * (1 - (((18446744073709551616 - 72340172838076673 * 1 + X) / 18446744073709551616 : Nat) : Int)), if 1 ≤ X % 256 then 0 else -1, ?_, ?_⟩
  · split <;> simp
  have h1 : (D : Int) = (((X % 256 : Nat) : Int) - 1) + 256 * (-1 + 256 * (((X / 256 / 256 : Nat) : Int) - 1103823438081 + 281474976710656 * (1 - (((18446744073709551616 - 72340172838076673 * 1 + X) / 18446744073709551616 : Nat) : Int)))) := by omega
  have h2 : ((X % 256 : Nat) : Int) < 256 := by omega
  generalize (((X / 256 / 256 : Nat) : Int) - 1103823438081 + 281474976710656 * (1 - (((18446744073709551616 - 72340172838076673 * 1 + X) / 18446744073709551616 : Nat) : Int))) = w at *
  clear hD hX hb
  by_cases q : 1 ≤ X % 256
  · rw [if_pos q]; generalize X % 256 = r at *; omega
  · rw [if_neg q]; generalize X % 256 = r at *; omega
theorem own_z1 (X D : Nat) (hX : X < 18446744073709551616) (hD : D = (18446744073709551616 - 72340172838076673 * 1 + X) % 18446744073709551616) (hb : X / 256 % 256 = 0) : D / 32768 % 2 = 1 ∧ X / 32768 % 2 = 0 := by
  obtain ⟨z, c, hc, hz⟩ := own_y1 X D hX hD hb
  have e1 : D / 32768 = D / 256 / 128 := (Nat.div_div_eq_div_mul D 256 128).symm
  have e2 : X / 32768 = X / 256 / 128 := (Nat.div_div_eq_div_mul X 256 128).symm
  rw [e1, e2]
  generalize D / 256 = d at *
  generalize X / 256 = x at *
  clear hD hX
  omega
theorem own_zz1 (X : BitVec 64) (hb : X.toNat / 256 % 256 = 0) : (own_M X 1).getLsbD 15 = true := by
  rw [own_Mbit X 1 15 (by decide), own_bit, own_bit, own_D X 1 (by decide)]
  have h := own_z1 X.toNat _ X.isLt rfl hb
  have q : (18446744073709551616 - 72340172838076673 * 1 + X.toNat) % 18446744073709551616 / 2 ^ 15 % 2 = 1 := h.1
  have r : X.toNat / 2 ^ 15 % 2 = 0 := h.2
  simp [q, r]
theorem own_y2 (X D : Nat) (hX : X < 18446744073709551616) (hD : D = (18446744073709551616 - 72340172838076673 * 1 + X) % 18446744073709551616) (hb : X / 65536 % 256 = 0) : ∃ z c : Int, (c = 0 ∨ c = -1) ∧ ((D / 65536 : Nat) : Int) = -1 + c + 256 * z := by
  refine ⟨((X / 65536 / 256 : Nat) : Int) - 4311810305 + 1099511627776 * (1 - (((18446744073709551616 - 72340172838076673 * 1 + X) / 18446744073709551616 : Nat) : Int)), if 257 ≤ X % 65536 then 0 else -1, ?_, ?_⟩
  · split <;> simp
  have h1 : (D : Int) = (((X % 65536 : Nat) : Int) - 257) + 65536 * (-1 + 256 * (((X / 65536 / 256 : Nat) : Int) - 4311810305 + 1099511627776 * (1 - (((18446744073709551616 - 72340172838076673 * 1 + X) / 18446744073709551616 : Nat) : Int)))) := by omega
  have h2 : ((X % 65536 : Nat) : Int) < 65536 := by omega
  generalize (((X / 65536 / 256 : Nat) : Int) - 4311810305 + 1099511627776 * (1 - (((18446744073709551616 - 72340172838076673 * 1 + X) / 18446744073709551616 : Nat) : Int))) = w at *
  clear hD hX hb
  by_cases q : 257 ≤ X % 65536
  · rw [if_pos q]; generalize X % 65536 = r at *; omega
  · rw [if_neg q]; generalize X % 65536 = r at *; omega
theorem own_z2 (X D : Nat) (hX : X < 18446744073709551616) (hD : D = (18446744073709551616 - 72340172838076673 * 1 + X) % 18446744073709551616) (hb : X / 65536 % 256 = 0) : D / 8388608 % 2 = 1 ∧ X / 8388608 % 2 = 0 := by
  obtain ⟨z, c, hc, hz⟩ := own_y2 X D hX hD hb
  have e1 : D / 8388608 = D / 65536 / 128 := (Nat.div_div_eq_div_mul D 65536 128).symm
  have e2 : X / 8388608 = X / 65536 / 128 := (Nat.div_div_eq_div_mul X 65536 128).symm
  rw [e1, e2]
  generalize D / 65536 = d at *
  generalize X / 65536 = x at *
  clear hD hX
  omega
theorem own_zz2 (X : BitVec 64) (hb : X.toNat / 65536 % 256 = 0) : (own_M X 1).getLsbD 23 = true := by
  rw [own_Mbit X 1 23 (by decide), own_bit, own_bit, own_D X 1 (by decide)]
  have h := own_z2 X.toNat _ X.isLt rfl hb
  have q : (18446744073709551616 - 72340172838076673 * 1 + X.toNat) % 18446744073709551616 / 2 ^ 23 % 2 = 1 := h.1
  have r : X.toNat / 2 ^ 23 % 2 = 0 := h.2
  simp [q, r]
theorem own_y3 (X D : Nat) (hX : X < 18446744073709551616) (hD : D = (18446744073709551616 - 72340172838076673 * 1 + X) % 18446744073709551616) (hb : X / 16777216 % 256 = 0) : ∃ z c : Int, (c = 0 ∨ c = -1) ∧ ((D / 16777216 : Nat) : Int) = -1 + c + 256 * z := by
  refine ⟨((X / 16777216 / 256 : Nat) : Int) - 16843009 + 4294967296 * (1 - (((18446744073709551616 - 72340172838076673 * 1 + X) / 18446744073709551616 : Nat) : Int)), if 65793 ≤ X % 16777216 then 0 else -1, ?_, ?_⟩
  · split <;> simp
  have h1 : (D : Int) = (((X % 16777216 : Nat) : Int) - 65793) + 16777216 * (-1 + 256 * (((X / 16777216 / 256 : Nat) : Int) - 16843009 + 4294967296 * (1 - (((18446744073709551616 - 72340172838076673 * 1 + X) / 18446744073709551616 : Nat) : Int)))) := by omega
  have h2 : ((X % 16777216 : Nat) : Int) < 16777216 := by omega
  generalize (((X / 16777216 / 256 : Nat) : Int) - 16843009 + 4294967296 * (1 - (((18446744073709551616 - 72340172838076673 * 1 + X) / 18446744073709551616 : Nat) : Int))) = w at *
  clear hD hX hb
  by_cases q : 65793 ≤ X % 16777216
  · rw [if_pos q]; generalize X % 16777216 = r at *; omega
  · rw [if_neg q]; generalize X % 16777216 = r at *; omega
theorem own_z3 (X D : Nat) (hX : X < 18446744073709551616) (hD : D = (18446744073709551616 - 72340172838076673 * 1 + X) % 18446744073709551616) (hb : X / 16777216 % 256 = 0) : D / 2147483648 % 2 = 1 ∧ X / 2147483648 % 2 = 0 := by
  obtain ⟨z, c, hc, hz⟩ := own_y3 X D hX hD hb
  have e1 : D / 2147483648 = D / 16777216 / 128 := (Nat.div_div_eq_div_mul D 16777216 128).symm
  have e2 : X / 2147483648 = X / 16777216 / 128 := (Nat.div_div_eq_div_mul X 16777216 128).symm
  rw [e1, e2]
  generalize D / 16777216 = d at *
  generalize X / 16777216 = x at *
  clear hD hX
  omega
theorem own_zz3 (X : BitVec 64) (hb : X.toNat / 16777216 % 256 = 0) : (own_M X 1).getLsbD 31 = true := by
  rw [own_Mbit X 1 31 (by decide), own_bit, own_bit, own_D X 1 (by decide)]
  have h := own_z3 X.toNat _ X.isLt rfl hb
  have q : (18446744073709551616 - 72340172838076673 * 1 + X.toNat) % 18446744073709551616 / 2 ^ 31 % 2 = 1 := h.1
  have r : X.toNat / 2 ^ 31 % 2 = 0 := h.2
  simp [q, r]
theorem own_y4 (X D : Nat) (hX : X < 18446744073709551616) (hD : D = (18446744073709551616 - 72340172838076673 * 1 + X) % 18446744073709551616) (hb : X / 4294967296 % 256 = 0) : ∃ z c : Int, (c = 0 ∨ c = -1) ∧ ((D / 4294967296 : Nat) : Int) = -1 + c + 256 * z := by
  refine ⟨((X / 4294967296 / 256 : Nat) : Int) - 65793 + 16777216 * (1 - (((18446744073709551616 - 72340172838076673 * 1 + X) / 18446744073709551616 : Nat) : Int)), if 16843009 ≤ X % 4294967296 then 0 else -1, ?_, ?_⟩
  · split <;> simp
  have h1 : (D : Int) = (((X % 4294967296 : Nat) : Int) - 16843009) + 4294967296 * (-1 + 256 * (((X / 4294967296 / 256 : Nat) : Int) - 65793 + 16777216 * (1 - (((18446744073709551616 - 72340172838076673 * 1 + X) / 18446744073709551616 : Nat) : Int)))) := by omega
  have h2 : ((X % 4294967296 : Nat) : Int) < 4294967296 := by omega
  generalize (((X / 4294967296 / 256 : Nat) : Int) - 65793 + 16777216 * (1 - (((18446744073709551616 - 72340172838076673 * 1 + X) / 18446744073709551616 : Nat) : Int))) = w at *
  clear hD hX hb
  by_cases q : 16843009 ≤ X % 4294967296
  · rw [if_pos q]; generalize X % 4294967296 = r at *; omega
  · rw [if_neg q]; generalize X % 4294967296 = r at *; omega
theorem own_z4 (X D : Nat) (hX : X < 18446744073709551616) (hD : D = (18446744073709551616 - 72340172838076673 * 1 + X) % 18446744073709551616) (hb : X / 4294967296 % 256 = 0) : D / 549755813888 % 2 = 1 ∧ X / 549755813888 % 2 = 0 := by
  obtain ⟨z, c, hc, hz⟩ := own_y4 X D hX hD hb
  have e1 : D / 549755813888 = D / 4294967296 / 128 := (Nat.div_div_eq_div_mul D 4294967296 128).symm
  have e2 : X / 549755813888 = X / 4294967296 / 128 := (Nat.div_div_eq_div_mul X 4294967296 128).symm
  rw [e1, e2]
  generalize D / 4294967296 = d at *
  generalize X / 4294967296 = x at *
  clear hD hX
  omega
theorem own_zz4 (X : BitVec 64) (hb : X.toNat / 4294967296 % 256 = 0) : (own_M X 1).getLsbD 39 = true := by
  rw [own_Mbit X 1 39 (by decide), own_bit, own_bit, own_D X 1 (by decide)]
  have h := own_z4 X.toNat _ X.isLt rfl hb
  have q : (18446744073709551616 - 72340172838076673 * 1 + X.toNat) % 18446744073709551616 / 2 ^ 39 % 2 = 1 := h.1
  have r : X.toNat / 2 ^ 39 % 2 = 0 := h.2
  simp [q, r]
theorem own_y5 (X D : Nat) (hX : X < 18446744073709551616) (hD : D = (18446744073709551616 - 72340172838076673 * 1 + X) % 18446744073709551616) (hb : X / 1099511627776 % 256 = 0) : ∃ z c : Int, (c = 0 ∨ c = -1) ∧ ((D / 1099511627776 : Nat) : Int) = -1 + c + 256 * z := by
  refine ⟨((X / 1099511627776 / 256 : Nat) : Int) - 257 + 65536 * (1 - (((18446744073709551616 - 72340172838076673 * 1 + X) / 18446744073709551616 : Nat) : Int)), if 4311810305 ≤ X % 1099511627776 then 0 else -1, ?_, ?_⟩
  · split <;> simp
  have h1 : (D : Int) = (((X % 1099511627776 : Nat) : Int) - 4311810305) + 1099511627776 * (-1 + 256 * (((X / 1099511627776 / 256 : Nat) : Int) - 257 + 65536 * (1 - (((18446744073709551616 - 72340172838076673 * 1 + X) / 18446744073709551616 : Nat) : Int)))) := by omega
  have h2 : ((X % 1099511627776 : Nat) : Int) < 1099511627776 := by omega
  generalize (((X / 1099511627776 / 256 : Nat) : Int) - 257 + 65536 * (1 - (((18446744073709551616 - 72340172838076673 * 1 + X) / 18446744073709551616 : Nat) : Int))) = w at *
  clear hD hX hb
  by_cases q : 4311810305 ≤ X % 1099511627776
  · rw [if_pos q]; generalize X % 1099511627776 = r at *; omega
  · rw [if_neg q]; generalize X % 1099511627776 = r at *; omega
theorem own_z5 (X D : Nat) (hX : X < 18446744073709551616) (hD : D = (18446744073709551616 - 72340172838076673 * 1 + X) % 18446744073709551616) (hb : X / 1099511627776 % 256 = 0) : D / 140737488355328 % 2 = 1 ∧ X / 140737488355328 % 2 = 0 := by
  obtain ⟨z, c, hc, hz⟩ := own_y5 X D hX hD hb
  have e1 : D / 140737488355328 = D / 1099511627776 / 128 := (Nat.div_div_eq_div_mul D 1099511627776 128).symm
  have e2 : X / 140737488355328 = X / 1099511627776 / 128 := (Nat.div_div_eq_div_mul X 1099511627776 128).symm
  rw [e1, e2]
  generalize D / 1099511627776 = d at *
  generalize X / 1099511627776 = x at *
  clear hD hX
  omega
theorem own_zz5 (X : BitVec 64) (hb : X.toNat / 1099511627776 % 256 = 0) : (own_M X 1).getLsbD 47 = true := by
  rw [own_Mbit X 1 47 (by decide), own_bit, own_bit, own_D X 1 (by decide)]
  have h := own_z5 X.toNat _ X.isLt rfl hb
  have q : (18446744073709551616 - 72340172838076673 * 1 + X.toNat) % 18446744073709551616 / 2 ^ 47 % 2 = 1 := h.1
  have r : X.toNat / 2 ^ 47 % 2 = 0 := h.2
  simp [q, r]
theorem own_y6 (X D : Nat) (hX : X < 18446744073709551616) (hD : D = (18446744073709551616 - 72340172838076673 * 1 + X) % 18446744073709551616) (hb : X / 281474976710656 % 256 = 0) : ∃ z c : Int, (c = 0 ∨ c = -1) ∧ ((D / 281474976710656 : Nat) : Int) = -1 + c + 256 * z := by
  refine ⟨((X / 281474976710656 / 256 : Nat) : Int) - 1 + 256 * (1 - (((18446744073709551616 - 72340172838076673 * 1 + X) / 18446744073709551616 : Nat) : Int)), if 1103823438081 ≤ X % 281474976710656 then 0 else -1, ?_, ?_⟩
  · split <;> simp
  have h1 : (D : Int) = (((X % 281474976710656 : Nat) : Int) - 1103823438081) + 281474976710656 * (-1 + 256 * (((X / 281474976710656 / 256 : Nat) : Int) - 1 + 256 * (1 - (((18446744073709551616 - 72340172838076673 * 1 + X) / 18446744073709551616 : Nat) : Int)))) := by omega
  have h2 : ((X % 281474976710656 : Nat) : Int) < 281474976710656 := by omega
  generalize (((X / 281474976710656 / 256 : Nat) : Int) - 1 + 256 * (1 - (((18446744073709551616 - 72340172838076673 * 1 + X) / 18446744073709551616 : Nat) : Int))) = w at *
  clear hD hX hb
  by_cases q : 1103823438081 ≤ X % 281474976710656
  · rw [if_pos q]; generalize X % 281474976710656 = r at *; omega
  · rw [if_neg q]; generalize X % 281474976710656 = r at *; omega
theorem own_z6 (X D : Nat) (hX : X < 18446744073709551616) (hD : D = (18446744073709551616 - 72340172838076673 * 1 + X) % 18446744073709551616) (hb : X / 281474976710656 % 256 = 0) : D / 36028797018963968 % 2 = 1 ∧ X / 36028797018963968 % 2 = 0 := by
  obtain ⟨z, c, hc, hz⟩ := own_y6 X D hX hD hb
  have e1 : D / 36028797018963968 = D / 281474976710656 / 128 := (Nat.div_div_eq_div_mul D 281474976710656 128).symm
  have e2 : X / 36028797018963968 = X / 281474976710656 / 128 := (Nat.div_div_eq_div_mul X 281474976710656 128).symm
  rw [e1, e2]
  generalize D / 281474976710656 = d at *
  generalize X / 281474976710656 = x at *
  clear hD hX
  omega
theorem own_zz6 (X : BitVec 64) (hb : X.toNat / 281474976710656 % 256 = 0) : (own_M X 1).getLsbD 55 = true := by
  rw [own_Mbit X 1 55 (by decide), own_bit, own_bit, own_D X 1 (by decide)]
  have h := own_z6 X.toNat _ X.isLt rfl hb
  have q : (18446744073709551616 - 72340172838076673 * 1 + X.toNat) % 18446744073709551616 / 2 ^ 55 % 2 = 1 := h.1
  have r : X.toNat / 2 ^ 55 % 2 = 0 := h.2
  simp [q, r]
theorem own_y7 (X D : Nat) (hX : X < 18446744073709551616) (hD : D = (18446744073709551616 - 72340172838076673 * 1 + X) % 18446744073709551616) (hb : X / 72057594037927936 % 256 = 0) : ∃ z c : Int, (c = 0 ∨ c = -1) ∧ ((D / 72057594037927936 : Nat) : Int) = -1 + c + 256 * z := by
  refine ⟨((X / 72057594037927936 / 256 : Nat) : Int) - 0 + 1 * (1 - (((18446744073709551616 - 72340172838076673 * 1 + X) / 18446744073709551616 : Nat) : Int)), if 282578800148737 ≤ X % 72057594037927936 then 0 else -1, ?_, ?_⟩
  · split <;> simp
  have h1 : (D : Int) = (((X % 72057594037927936 : Nat) : Int) - 282578800148737) + 72057594037927936 * (-1 + 256 * (((X / 72057594037927936 / 256 : Nat) : Int) - 0 + 1 * (1 - (((18446744073709551616 - 72340172838076673 * 1 + X) / 18446744073709551616 : Nat) : Int)))) := by omega
  have h2 : ((X % 72057594037927936 : Nat) : Int) < 72057594037927936 := by omega
  generalize (((X / 72057594037927936 / 256 : Nat) : Int) - 0 + 1 * (1 - (((18446744073709551616 - 72340172838076673 * 1 + X) / 18446744073709551616 : Nat) : Int))) = w at *
  clear hD hX hb
  by_cases q : 282578800148737 ≤ X % 72057594037927936
  · rw [if_pos q]; generalize X % 72057594037927936 = r at *; omega
  · rw [if_neg q]; generalize X % 72057594037927936 = r at *; omega
theorem own_z7 (X D : Nat) (hX : X < 18446744073709551616) (hD : D = (18446744073709551616 - 72340172838076673 * 1 + X) % 18446744073709551616) (hb : X / 72057594037927936 % 256 = 0) : D / 9223372036854775808 % 2 = 1 ∧ X / 9223372036854775808 % 2 = 0 := by
  obtain ⟨z, c, hc, hz⟩ := own_y7 X D hX hD hb
  have e1 : D / 9223372036854775808 = D / 72057594037927936 / 128 := (Nat.div_div_eq_div_mul D 72057594037927936 128).symm
  have e2 : X / 9223372036854775808 = X / 72057594037927936 / 128 := (Nat.div_div_eq_div_mul X 72057594037927936 128).symm
  rw [e1, e2]
  generalize D / 72057594037927936 = d at *
  generalize X / 72057594037927936 = x at *
  clear hD hX
  omega
theorem own_zz7 (X : BitVec 64) (hb : X.toNat / 72057594037927936 % 256 = 0) : (own_M X 1).getLsbD 63 = true := by
  rw [own_Mbit X 1 63 (by decide), own_bit, own_bit, own_D X 1 (by decide)]
  have h := own_z7 X.toNat _ X.isLt rfl hb
  have q : (18446744073709551616 - 72340172838076673 * 1 + X.toNat) % 18446744073709551616 / 2 ^ 63 % 2 = 1 := h.1
  have r : X.toNat / 2 ^ 63 % 2 = 0 := h.2
  simp [q, r]
theorem own_ite (q : Prop) [Decidable q] (k t : Nat) (hk : k < 64) : (if q then BitVec.twoPow 64 k else 0#64).getLsbD t = (decide q && decide (t = k)) := by
  by_cases h : q
  · rw [if_pos h, BitVec.getLsbD_twoPow]
    by_cases r : t = k
    · subst r; simp [h, hk]
    · have r' : ¬ k = t := fun z => r z.symm
      simp [h, r, r']
  · rw [if_neg h]; simp [h]
def own_E (X : BitVec 64) : BitVec 64 := ((((((((if X.toNat / 1 % 256 = 0 then BitVec.twoPow 64 7 else 0#64) ||| (if X.toNat / 256 % 256 = 0 then BitVec.twoPow 64 15 else 0#64)) ||| (if X.toNat / 65536 % 256 = 0 then BitVec.twoPow 64 23 else 0#64)) ||| (if X.toNat / 16777216 % 256 = 0 then BitVec.twoPow 64 31 else 0#64)) ||| (if X.toNat / 4294967296 % 256 = 0 then BitVec.twoPow 64 39 else 0#64)) ||| (if X.toNat / 1099511627776 % 256 = 0 then BitVec.twoPow 64 47 else 0#64)) ||| (if X.toNat / 281474976710656 % 256 = 0 then BitVec.twoPow 64 55 else 0#64)) ||| (if X.toNat / 72057594037927936 % 256 = 0 then BitVec.twoPow 64 63 else 0#64))
theorem own_Eb (X : BitVec 64) (t : Nat) : (own_E X).getLsbD t = ((((((((decide (X.toNat / 1 % 256 = 0) && decide (t = 7)) || (decide (X.toNat / 256 % 256 = 0) && decide (t = 15))) || (decide (X.toNat / 65536 % 256 = 0) && decide (t = 23))) || (decide (X.toNat / 16777216 % 256 = 0) && decide (t = 31))) || (decide (X.toNat / 4294967296 % 256 = 0) && decide (t = 39))) || (decide (X.toNat / 1099511627776 % 256 = 0) && decide (t = 47))) || (decide (X.toNat / 281474976710656 % 256 = 0) && decide (t = 55))) || (decide (X.toNat / 72057594037927936 % 256 = 0) && decide (t = 63))) := by
  unfold own_E
  rw [BitVec.getLsbD_or, BitVec.getLsbD_or, BitVec.getLsbD_or, BitVec.getLsbD_or, BitVec.getLsbD_or, BitVec.getLsbD_or, BitVec.getLsbD_or, own_ite _ 7 t (by decide), own_ite _ 15 t (by decide), own_ite _ 23 t (by decide), own_ite _ 31 t (by decide), own_ite _ 39 t (by decide), own_ite _ 47 t (by decide), own_ite _ 55 t (by decide), own_ite _ 63 t (by decide)]
theorem own_s2 (X : BitVec 64) : own_M X 1 &&& own_E X = own_E X := by
  apply BitVec.eq_of_getLsbD_eq
  intro t ht
  rw [BitVec.getLsbD_and]
  by_cases q : (own_E X).getLsbD t = true
  · rw [q]
    have q' := q
    rw [own_Eb] at q'
    simp only [Bool.or_eq_true, Bool.and_eq_true, decide_eq_true_eq] at q'
    rcases q' with ((((((⟨h, rfl⟩ | ⟨h, rfl⟩) | ⟨h, rfl⟩) | ⟨h, rfl⟩) | ⟨h, rfl⟩) | ⟨h, rfl⟩) | ⟨h, rfl⟩) | ⟨h, rfl⟩
    · rw [own_zz0 X h]; rfl
    · rw [own_zz1 X h]; rfl
    · rw [own_zz2 X h]; rfl
    · rw [own_zz3 X h]; rfl
    · rw [own_zz4 X h]; rfl
    · rw [own_zz5 X h]; rfl
    · rw [own_zz6 X h]; rfl
    · rw [own_zz7 X h]; rfl
  · rw [Bool.eq_false_iff.mpr q]; simp
def own_up (E : BitVec 64) : BitVec 64 := ((E &&& -E) - 1#64) ||| (E &&& -E)
theorem own_up0 : ∀ t : Fin 64, ((BitVec.twoPow 64 7 - 1#64) ||| BitVec.twoPow 64 7).getLsbD t.1 = decide (t.1 < 8) := by decide
theorem own_up1 : ∀ t : Fin 64, ((BitVec.twoPow 64 15 - 1#64) ||| BitVec.twoPow 64 15).getLsbD t.1 = decide (t.1 < 16) := by decide
theorem own_up2 : ∀ t : Fin 64, ((BitVec.twoPow 64 23 - 1#64) ||| BitVec.twoPow 64 23).getLsbD t.1 = decide (t.1 < 24) := by decide
theorem own_up3 : ∀ t : Fin 64, ((BitVec.twoPow 64 31 - 1#64) ||| BitVec.twoPow 64 31).getLsbD t.1 = decide (t.1 < 32) := by decide
theorem own_up4 : ∀ t : Fin 64, ((BitVec.twoPow 64 39 - 1#64) ||| BitVec.twoPow 64 39).getLsbD t.1 = decide (t.1 < 40) := by decide
theorem own_up5 : ∀ t : Fin 64, ((BitVec.twoPow 64 47 - 1#64) ||| BitVec.twoPow 64 47).getLsbD t.1 = decide (t.1 < 48) := by decide
theorem own_up6 : ∀ t : Fin 64, ((BitVec.twoPow 64 55 - 1#64) ||| BitVec.twoPow 64 55).getLsbD t.1 = decide (t.1 < 56) := by decide
theorem own_up7 : ∀ t : Fin 64, ((BitVec.twoPow 64 63 - 1#64) ||| BitVec.twoPow 64 63).getLsbD t.1 = decide (t.1 < 64) := by decide
theorem own_s3 (X : BitVec 64) : own_M X 1 &&& own_up (own_E X) = own_E X &&& own_up (own_E X) := by
  by_cases c0 : X.toNat / 1 % 256 = 0
  · have q := own_first0 X 1 (by decide)  (by omega)
    have e1 : (own_E X).getLsbD 7 = true := by rw [own_Eb, decide_eq_true c0]; simp
    have e0 : ∀ t, t < 7 → (own_E X).getLsbD t = false := by
      intro t ht
      rw [own_Eb]
      have d0 : (decide (X.toNat / 1 % 256 = 0) && decide (t = 7)) = false := by rw [decide_eq_false (p := t = 7) (by omega), Bool.and_false]
      have d1 : (decide (X.toNat / 256 % 256 = 0) && decide (t = 15)) = false := by rw [decide_eq_false (p := t = 15) (by omega), Bool.and_false]
      have d2 : (decide (X.toNat / 65536 % 256 = 0) && decide (t = 23)) = false := by rw [decide_eq_false (p := t = 23) (by omega), Bool.and_false]
      have d3 : (decide (X.toNat / 16777216 % 256 = 0) && decide (t = 31)) = false := by rw [decide_eq_false (p := t = 31) (by omega), Bool.and_false]
      have d4 : (decide (X.toNat / 4294967296 % 256 = 0) && decide (t = 39)) = false := by rw [decide_eq_false (p := t = 39) (by omega), Bool.and_false]
      have d5 : (decide (X.toNat / 1099511627776 % 256 = 0) && decide (t = 47)) = false := by rw [decide_eq_false (p := t = 47) (by omega), Bool.and_false]
      have d6 : (decide (X.toNat / 281474976710656 % 256 = 0) && decide (t = 55)) = false := by rw [decide_eq_false (p := t = 55) (by omega), Bool.and_false]
      have d7 : (decide (X.toNat / 72057594037927936 % 256 = 0) && decide (t = 63)) = false := by rw [decide_eq_false (p := t = 63) (by omega), Bool.and_false]
      rw [d0, d1, d2, d3, d4, d5, d6, d7]; rfl
    unfold own_up
    rw [own_low _ 7 e1 e0]
    apply BitVec.eq_of_getLsbD_eq
    intro t ht
    rw [BitVec.getLsbD_and, BitVec.getLsbD_and, own_up0 ⟨t, ht⟩]
    by_cases r : t < 7
    · rw [q.2 t r, e0 t r]
    · by_cases r2 : t = 7
      · subst r2; rw [q.1, e1]
      · have r3 : ¬ t < 8 := by omega
        simp [r3]
  by_cases c1 : X.toNat / 256 % 256 = 0
  · have q := own_first1 X 1 (by decide) (by omega) (by omega)
    have e1 : (own_E X).getLsbD 15 = true := by rw [own_Eb, decide_eq_true c1]; simp
    have e0 : ∀ t, t < 15 → (own_E X).getLsbD t = false := by
      intro t ht
      rw [own_Eb]
      have d0 : (decide (X.toNat / 1 % 256 = 0) && decide (t = 7)) = false := by rw [decide_eq_false c0]; rfl
      have d1 : (decide (X.toNat / 256 % 256 = 0) && decide (t = 15)) = false := by rw [decide_eq_false (p := t = 15) (by omega), Bool.and_false]
      have d2 : (decide (X.toNat / 65536 % 256 = 0) && decide (t = 23)) = false := by rw [decide_eq_false (p := t = 23) (by omega), Bool.and_false]
      have d3 : (decide (X.toNat / 16777216 % 256 = 0) && decide (t = 31)) = false := by rw [decide_eq_false (p := t = 31) (by omega), Bool.and_false]
      have d4 : (decide (X.toNat / 4294967296 % 256 = 0) && decide (t = 39)) = false := by rw [decide_eq_false (p := t = 39) (by omega), Bool.and_false]
      have d5 : (decide (X.toNat / 1099511627776 % 256 = 0) && decide (t = 47)) = false := by rw [decide_eq_false (p := t = 47) (by omega), Bool.and_false]
      have d6 : (decide (X.toNat / 281474976710656 % 256 = 0) && decide (t = 55)) = false := by rw [decide_eq_false (p := t = 55) (by omega), Bool.and_false]
      have d7 : (decide (X.toNat / 72057594037927936 % 256 = 0) && decide (t = 63)) = false := by rw [decide_eq_false (p := t = 63) (by omega), Bool.and_false]
      rw [d0, d1, d2, d3, d4, d5, d6, d7]; rfl
    unfold own_up
    rw [own_low _ 15 e1 e0]
    apply BitVec.eq_of_getLsbD_eq
    intro t ht
    rw [BitVec.getLsbD_and, BitVec.getLsbD_and, own_up1 ⟨t, ht⟩]
    by_cases r : t < 15
    · rw [q.2 t r, e0 t r]
    · by_cases r2 : t = 15
      · subst r2; rw [q.1, e1]
      · have r3 : ¬ t < 16 := by omega
        simp [r3]
  by_cases c2 : X.toNat / 65536 % 256 = 0
  · have q := own_first2 X 1 (by decide) (by omega) (by omega) (by omega)
    have e1 : (own_E X).getLsbD 23 = true := by rw [own_Eb, decide_eq_true c2]; simp
    have e0 : ∀ t, t < 23 → (own_E X).getLsbD t = false := by
      intro t ht
      rw [own_Eb]
      have d0 : (decide (X.toNat / 1 % 256 = 0) && decide (t = 7)) = false := by rw [decide_eq_false c0]; rfl
      have d1 : (decide (X.toNat / 256 % 256 = 0) && decide (t = 15)) = false := by rw [decide_eq_false c1]; rfl
      have d2 : (decide (X.toNat / 65536 % 256 = 0) && decide (t = 23)) = false := by rw [decide_eq_false (p := t = 23) (by omega), Bool.and_false]
      have d3 : (decide (X.toNat / 16777216 % 256 = 0) && decide (t = 31)) = false := by rw [decide_eq_false (p := t = 31) (by omega), Bool.and_false]
      have d4 : (decide (X.toNat / 4294967296 % 256 = 0) && decide (t = 39)) = false := by rw [decide_eq_false (p := t = 39) (by omega), Bool.and_false]
      have d5 : (decide (X.toNat / 1099511627776 % 256 = 0) && decide (t = 47)) = false := by rw [decide_eq_false (p := t = 47) (by omega), Bool.and_false]
      have d6 : (decide (X.toNat / 281474976710656 % 256 = 0) && decide (t = 55)) = false := by rw [decide_eq_false (p := t = 55) (by omega), Bool.and_false]
      have d7 : (decide (X.toNat / 72057594037927936 % 256 = 0) && decide (t = 63)) = false := by rw [decide_eq_false (p := t = 63) (by omega), Bool.and_false]
      rw [d0, d1, d2, d3, d4, d5, d6, d7]; rfl
    unfold own_up
    rw [own_low _ 23 e1 e0]
    apply BitVec.eq_of_getLsbD_eq
    intro t ht
    rw [BitVec.getLsbD_and, BitVec.getLsbD_and, own_up2 ⟨t, ht⟩]
    by_cases r : t < 23
    · rw [q.2 t r, e0 t r]
    · by_cases r2 : t = 23
      · subst r2; rw [q.1, e1]
      · have r3 : ¬ t < 24 := by omega
        simp [r3]
  by_cases c3 : X.toNat / 16777216 % 256 = 0
  · have q := own_first3 X 1 (by decide) (by omega) (by omega) (by omega) (by omega)
    have e1 : (own_E X).getLsbD 31 = true := by rw [own_Eb, decide_eq_true c3]; simp
    have e0 : ∀ t, t < 31 → (own_E X).getLsbD t = false := by
      intro t ht
      rw [own_Eb]
      have d0 : (decide (X.toNat / 1 % 256 = 0) && decide (t = 7)) = false := by rw [decide_eq_false c0]; rfl
      have d1 : (decide (X.toNat / 256 % 256 = 0) && decide (t = 15)) = false := by rw [decide_eq_false c1]; rfl
      have d2 : (decide (X.toNat / 65536 % 256 = 0) && decide (t = 23)) = false := by rw [decide_eq_false c2]; rfl
      have d3 : (decide (X.toNat / 16777216 % 256 = 0) && decide (t = 31)) = false := by rw [decide_eq_false (p := t = 31) (by omega), Bool.and_false]
      have d4 : (decide (X.toNat / 4294967296 % 256 = 0) && decide (t = 39)) = false := by rw [decide_eq_false (p := t = 39) (by omega), Bool.and_false]
      have d5 : (decide (X.toNat / 1099511627776 % 256 = 0) && decide (t = 47)) = false := by rw [decide_eq_false (p := t = 47) (by omega), Bool.and_false]
      have d6 : (decide (X.toNat / 281474976710656 % 256 = 0) && decide (t = 55)) = false := by rw [decide_eq_false (p := t = 55) (by omega), Bool.and_false]
      have d7 : (decide (X.toNat / 72057594037927936 % 256 = 0) && decide (t = 63)) = false := by rw [decide_eq_false (p := t = 63) (by omega), Bool.and_false]
      rw [d0, d1, d2, d3, d4, d5, d6, d7]; rfl
    unfold own_up
    rw [own_low _ 31 e1 e0]
    apply BitVec.eq_of_getLsbD_eq
    intro t ht
    rw [BitVec.getLsbD_and, BitVec.getLsbD_and, own_up3 ⟨t, ht⟩]
    by_cases r : t < 31
    · rw [q.2 t r, e0 t r]
    · by_cases r2 : t = 31
      · subst r2; rw [q.1, e1]
      · have r3 : ¬ t < 32 := by omega
        simp [r3]
  by_cases c4 : X.toNat / 4294967296 % 256 = 0
  · have q := own_first4 X 1 (by decide) (by omega) (by omega) (by omega) (by omega) (by omega)
    have e1 : (own_E X).getLsbD 39 = true := by rw [own_Eb, decide_eq_true c4]; simp
    have e0 : ∀ t, t < 39 → (own_E X).getLsbD t = false := by
      intro t ht
      rw [own_Eb]
      have d0 : (decide (X.toNat / 1 % 256 = 0) && decide (t = 7)) = false := by rw [decide_eq_false c0]; rfl
      have d1 : (decide (X.toNat / 256 % 256 = 0) && decide (t = 15)) = false := by rw [decide_eq_false c1]; rfl
      have d2 : (decide (X.toNat / 65536 % 256 = 0) && decide (t = 23)) = false := by rw [decide_eq_false c2]; rfl
      have d3 : (decide (X.toNat / 16777216 % 256 = 0) && decide (t = 31)) = false := by rw [decide_eq_false c3]; rfl
      have d4 : (decide (X.toNat / 4294967296 % 256 = 0) && decide (t = 39)) = false := by rw [decide_eq_false (p := t = 39) (by omega), Bool.and_false]
      have d5 : (decide (X.toNat / 1099511627776 % 256 = 0) && decide (t = 47)) = false := by rw [decide_eq_false (p := t = 47) (by omega), Bool.and_false]
      have d6 : (decide (X.toNat / 281474976710656 % 256 = 0) && decide (t = 55)) = false := by rw [decide_eq_false (p := t = 55) (by omega), Bool.and_false]
      have d7 : (decide (X.toNat / 72057594037927936 % 256 = 0) && decide (t = 63)) = false := by rw [decide_eq_false (p := t = 63) (by omega), Bool.and_false]
      rw [d0, d1, d2, d3, d4, d5, d6, d7]; rfl
    unfold own_up
    rw [own_low _ 39 e1 e0]
    apply BitVec.eq_of_getLsbD_eq
    intro t ht
    rw [BitVec.getLsbD_and, BitVec.getLsbD_and, own_up4 ⟨t, ht⟩]
    by_cases r : t < 39
    · rw [q.2 t r, e0 t r]
    · by_cases r2 : t = 39
      · subst r2; rw [q.1, e1]
      · have r3 : ¬ t < 40 := by omega
        simp [r3]
  by_cases c5 : X.toNat / 1099511627776 % 256 = 0
  · have q := own_first5 X 1 (by decide) (by omega) (by omega) (by omega) (by omega) (by omega) (by omega)
    have e1 : (own_E X).getLsbD 47 = true := by rw [own_Eb, decide_eq_true c5]; simp
    have e0 : ∀ t, t < 47 → (own_E X).getLsbD t = false := by
      intro t ht
      rw [own_Eb]
      have d0 : (decide (X.toNat / 1 % 256 = 0) && decide (t = 7)) = false := by rw [decide_eq_false c0]; rfl
      have d1 : (decide (X.toNat / 256 % 256 = 0) && decide (t = 15)) = false := by rw [decide_eq_false c1]; rfl
      have d2 : (decide (X.toNat / 65536 % 256 = 0) && decide (t = 23)) = false := by rw [decide_eq_false c2]; rfl
      have d3 : (decide (X.toNat / 16777216 % 256 = 0) && decide (t = 31)) = false := by rw [decide_eq_false c3]; rfl
      have d4 : (decide (X.toNat / 4294967296 % 256 = 0) && decide (t = 39)) = false := by rw [decide_eq_false c4]; rfl
      have d5 : (decide (X.toNat / 1099511627776 % 256 = 0) && decide (t = 47)) = false := by rw [decide_eq_false (p := t = 47) (by omega), Bool.and_false]
      have d6 : (decide (X.toNat / 281474976710656 % 256 = 0) && decide (t = 55)) = false := by rw [decide_eq_false (p := t = 55) (by omega), Bool.and_false]
      have d7 : (decide (X.toNat / 72057594037927936 % 256 = 0) && decide (t = 63)) = false := by rw [decide_eq_false (p := t = 63) (by omega), Bool.and_false]
      rw [d0, d1, d2, d3, d4, d5, d6, d7]; rfl
    unfold own_up
    rw [own_low _ 47 e1 e0]
    apply BitVec.eq_of_getLsbD_eq
    intro t ht
    rw [BitVec.getLsbD_and, BitVec.getLsbD_and, own_up5 ⟨t, ht⟩]
    by_cases r : t < 47
    · rw [q.2 t r, e0 t r]
    · by_cases r2 : t = 47
      · subst r2; rw [q.1, e1]
      · have r3 : ¬ t < 48 := by omega
        simp [r3]
  by_cases c6 : X.toNat / 281474976710656 % 256 = 0
  · have q := own_first6 X 1 (by decide) (by omega) (by omega) (by omega) (by omega) (by omega) (by omega) (by omega)
    have e1 : (own_E X).getLsbD 55 = true := by rw [own_Eb, decide_eq_true c6]; simp
    have e0 : ∀ t, t < 55 → (own_E X).getLsbD t = false := by
      intro t ht
      rw [own_Eb]
      have d0 : (decide (X.toNat / 1 % 256 = 0) && decide (t = 7)) = false := by rw [decide_eq_false c0]; rfl
      have d1 : (decide (X.toNat / 256 % 256 = 0) && decide (t = 15)) = false := by rw [decide_eq_false c1]; rfl
      have d2 : (decide (X.toNat / 65536 % 256 = 0) && decide (t = 23)) = false := by rw [decide_eq_false c2]; rfl
      have d3 : (decide (X.toNat / 16777216 % 256 = 0) && decide (t = 31)) = false := by rw [decide_eq_false c3]; rfl
      have d4 : (decide (X.toNat / 4294967296 % 256 = 0) && decide (t = 39)) = false := by rw [decide_eq_false c4]; rfl
      have d5 : (decide (X.toNat / 1099511627776 % 256 = 0) && decide (t = 47)) = false := by rw [decide_eq_false c5]; rfl
      have d6 : (decide (X.toNat / 281474976710656 % 256 = 0) && decide (t = 55)) = false := by rw [decide_eq_false (p := t = 55) (by omega), Bool.and_false]
      have d7 : (decide (X.toNat / 72057594037927936 % 256 = 0) && decide (t = 63)) = false := by rw [decide_eq_false (p := t = 63) (by omega), Bool.and_false]
      rw [d0, d1, d2, d3, d4, d5, d6, d7]; rfl
    unfold own_up
    rw [own_low _ 55 e1 e0]
    apply BitVec.eq_of_getLsbD_eq
    intro t ht
    rw [BitVec.getLsbD_and, BitVec.getLsbD_and, own_up6 ⟨t, ht⟩]
    by_cases r : t < 55
    · rw [q.2 t r, e0 t r]
    · by_cases r2 : t = 55
      · subst r2; rw [q.1, e1]
      · have r3 : ¬ t < 56 := by omega
        simp [r3]
  by_cases c7 : X.toNat / 72057594037927936 % 256 = 0
  · have q := own_first7 X 1 (by decide) (by omega) (by omega) (by omega) (by omega) (by omega) (by omega) (by omega) (by omega)
    have e1 : (own_E X).getLsbD 63 = true := by rw [own_Eb, decide_eq_true c7]; simp
    have e0 : ∀ t, t < 63 → (own_E X).getLsbD t = false := by
      intro t ht
      rw [own_Eb]
      have d0 : (decide (X.toNat / 1 % 256 = 0) && decide (t = 7)) = false := by rw [decide_eq_false c0]; rfl
      have d1 : (decide (X.toNat / 256 % 256 = 0) && decide (t = 15)) = false := by rw [decide_eq_false c1]; rfl
      have d2 : (decide (X.toNat / 65536 % 256 = 0) && decide (t = 23)) = false := by rw [decide_eq_false c2]; rfl
      have d3 : (decide (X.toNat / 16777216 % 256 = 0) && decide (t = 31)) = false := by rw [decide_eq_false c3]; rfl
      have d4 : (decide (X.toNat / 4294967296 % 256 = 0) && decide (t = 39)) = false := by rw [decide_eq_false c4]; rfl
      have d5 : (decide (X.toNat / 1099511627776 % 256 = 0) && decide (t = 47)) = false := by rw [decide_eq_false c5]; rfl
      have d6 : (decide (X.toNat / 281474976710656 % 256 = 0) && decide (t = 55)) = false := by rw [decide_eq_false c6]; rfl
      have d7 : (decide (X.toNat / 72057594037927936 % 256 = 0) && decide (t = 63)) = false := by rw [decide_eq_false (p := t = 63) (by omega), Bool.and_false]
      rw [d0, d1, d2, d3, d4, d5, d6, d7]; rfl
    unfold own_up
    rw [own_low _ 63 e1 e0]
    apply BitVec.eq_of_getLsbD_eq
    intro t ht
    rw [BitVec.getLsbD_and, BitVec.getLsbD_and, own_up7 ⟨t, ht⟩]
    by_cases r : t < 63
    · rw [q.2 t r, e0 t r]
    · by_cases r2 : t = 63
      · subst r2; rw [q.1, e1]
      · have r3 : ¬ t < 64 := by omega
        simp [r3]
  have z1 := own_none X 1 (by decide) (by omega) (by omega) (by omega) (by omega) (by omega) (by omega) (by omega) (by omega)
  have z2 : own_E X = 0#64 := by
    unfold own_E
    rw [if_neg c0, if_neg c1, if_neg c2, if_neg c3, if_neg c4, if_neg c5, if_neg c6, if_neg c7]
    decide
  rw [z1, z2]
theorem own_x (X R : BitVec 64) (k : Nat) : (X ^^^ R).toNat / 2 ^ k % 256 = 0 ↔ X.toNat / 2 ^ k % 256 = R.toNat / 2 ^ k % 256 := by
  have e : (X ^^^ R).toNat / 2 ^ k % 2 ^ 8 = (X.toNat / 2 ^ k % 2 ^ 8) ^^^ (R.toNat / 2 ^ k % 2 ^ 8) := by
    rw [BitVec.toNat_xor, ← Nat.shiftRight_eq_div_pow, Nat.shiftRight_xor_distrib, Nat.xor_mod_two_pow, Nat.shiftRight_eq_div_pow, Nat.shiftRight_eq_div_pow]
  have e' : (X ^^^ R).toNat / 2 ^ k % 256 = (X.toNat / 2 ^ k % 256) ^^^ (R.toNat / 2 ^ k % 256) := e
  rw [e']
  generalize X.toNat / 2 ^ k % 256 = a
  generalize R.toNat / 2 ^ k % 256 = b
  constructor
  · intro h
    have h2 : (a ^^^ b) ^^^ b = 0 ^^^ b := by rw [h]
    rw [Nat.xor_assoc, Nat.xor_self, Nat.xor_zero, Nat.zero_xor] at h2
    exact h2
  · rintro rfl
    exact Nat.xor_self _
theorem own_rep (c : Int32) : ((72340172838076673 : Int64) * (c &&& (255 : Int32)).toInt64).toBitVec.toNat = 72340172838076673 * (c &&& 255).toInt.toNat ∧ (c &&& 255).toInt.toNat < 256 ∧ (c &&& (255 : Int32)).toInt64.toBitVec.toNat = (c &&& 255).toInt.toNat := by
  have m := c_mask c 255 8 (by decide) (by decide)
  have q1 : (c &&& 255).toInt64.toBitVec.toInt = (c &&& 255).toInt := c_i2l _
  have e : ((72340172838076673 : Int64) * (c &&& (255 : Int32)).toInt64).toBitVec = 72340172838076673#64 * (c &&& 255).toInt64.toBitVec := rfl
  have h2 := BitVec.toInt_eq_toNat_cond (c &&& 255).toInt64.toBitVec
  have h3 := (c &&& 255).toInt64.toBitVec.isLt
  have h4 : (c &&& 255).toInt64.toBitVec.toNat = (c &&& 255).toInt.toNat := by
    rw [q1] at h2
    split at h2 <;> omega
  refine ⟨?_, by omega, h4⟩
  rw [e, BitVec.toNat_mul, h4]
  have t : (72340172838076673#64).toNat = 72340172838076673 := rfl
  rw [t]
  exact Nat.mod_eq_of_lt (by omega)
theorem own_k0 (w : Int64) (c : Int32) : (f3 w (c &&& (255 : Int32)).toInt64 0).toBitVec = if (w.toBitVec ^^^ ((72340172838076673 : Int64) * (c &&& (255 : Int32)).toInt64).toBitVec).toNat / 1 % 256 = 0 then BitVec.twoPow 64 7 else 0#64 := by
  obtain ⟨h1, h2, h3⟩ := own_rep c
  have hx := own_x w.toBitVec ((72340172838076673 : Int64) * (c &&& (255 : Int32)).toInt64).toBitVec 0
  rw [h1] at hx
  have hr : 72340172838076673 * (c &&& 255).toInt.toNat / 2 ^ 0 % 256 = (c &&& 255).toInt.toNat := by
    generalize (c &&& 255).toInt.toNat = n at h2
    have a1 : 72340172838076673 * n = 0 * n + 1 * (n + 256 * (282578800148737 * n)) := by omega
    have a2 : (0 * n + 1 * (n + 256 * (282578800148737 * n))) / 1 = n + 256 * (282578800148737 * n) := by
      rw [Nat.add_mul_div_left _ _ (by decide), Nat.div_eq_of_lt (by omega), Nat.zero_add]
    have a3 : 72340172838076673 * n / 2 ^ 0 = n + 256 * (282578800148737 * n) := by rw [a1]; exact a2
    rw [a3]
    clear a1 a2 a3 hx
    omega
  rw [hr] at hx
  have hb : ((w.toUInt64 >>> (((8 : Int32) * (0 : Int32)) &&& 0x3f).toInt64.toUInt64).toInt64 &&& (255 : Int64)).toBitVec.toNat = w.toBitVec.toNat / 2 ^ 0 % 256 := by
    have e : ((w.toUInt64 >>> (((8 : Int32) * (0 : Int32)) &&& 0x3f).toInt64.toUInt64).toInt64 &&& (255 : Int64)).toBitVec = (w.toBitVec >>> 0) &&& 255#64 := rfl
    have t : (255#64).toNat = 2 ^ 8 - 1 := rfl
    rw [e, BitVec.toNat_and, BitVec.toNat_ushiftRight, Nat.shiftRight_eq_div_pow, t, Nat.and_two_pow_sub_one_eq_mod]
  unfold f3
  by_cases q : ((w.toUInt64 >>> (((8 : Int32) * (0 : Int32)) &&& 0x3f).toInt64.toUInt64).toInt64 &&& (255 : Int64)) = (c &&& (255 : Int32)).toInt64
  · rw [if_pos q]
    have r : w.toBitVec.toNat / 2 ^ 0 % 256 = (c &&& 255).toInt.toNat := by rw [← hb, q, h3]
    refine Eq.trans ?_ (if_pos (hx.mpr r)).symm
    decide
  · rw [if_neg q]
    have r : ¬ w.toBitVec.toNat / 2 ^ 0 % 256 = (c &&& 255).toInt.toNat := fun z => q (Int64.toBitVec_inj.mp (BitVec.eq_of_toNat_eq (by rw [hb, z, h3])))
    refine Eq.trans ?_ (if_neg fun z => r (hx.mp z)).symm
    decide
theorem own_k1 (w : Int64) (c : Int32) : (f3 w (c &&& (255 : Int32)).toInt64 1).toBitVec = if (w.toBitVec ^^^ ((72340172838076673 : Int64) * (c &&& (255 : Int32)).toInt64).toBitVec).toNat / 256 % 256 = 0 then BitVec.twoPow 64 15 else 0#64 := by
  obtain ⟨h1, h2, h3⟩ := own_rep c
  have hx := own_x w.toBitVec ((72340172838076673 : Int64) * (c &&& (255 : Int32)).toInt64).toBitVec 8
  rw [h1] at hx
  have hr : 72340172838076673 * (c &&& 255).toInt.toNat / 2 ^ 8 % 256 = (c &&& 255).toInt.toNat := by
    generalize (c &&& 255).toInt.toNat = n at h2
    have a1 : 72340172838076673 * n = 1 * n + 256 * (n + 256 * (1103823438081 * n)) := by omega
    have a2 : (1 * n + 256 * (n + 256 * (1103823438081 * n))) / 256 = n + 256 * (1103823438081 * n) := by
      rw [Nat.add_mul_div_left _ _ (by decide), Nat.div_eq_of_lt (by omega), Nat.zero_add]
    have a3 : 72340172838076673 * n / 2 ^ 8 = n + 256 * (1103823438081 * n) := by rw [a1]; exact a2
    rw [a3]
    clear a1 a2 a3 hx
    omega
  rw [hr] at hx
  have hb : ((w.toUInt64 >>> (((8 : Int32) * (1 : Int32)) &&& 0x3f).toInt64.toUInt64).toInt64 &&& (255 : Int64)).toBitVec.toNat = w.toBitVec.toNat / 2 ^ 8 % 256 := by
    have e : ((w.toUInt64 >>> (((8 : Int32) * (1 : Int32)) &&& 0x3f).toInt64.toUInt64).toInt64 &&& (255 : Int64)).toBitVec = (w.toBitVec >>> 8) &&& 255#64 := rfl
    have t : (255#64).toNat = 2 ^ 8 - 1 := rfl
    rw [e, BitVec.toNat_and, BitVec.toNat_ushiftRight, Nat.shiftRight_eq_div_pow, t, Nat.and_two_pow_sub_one_eq_mod]
  unfold f3
  by_cases q : ((w.toUInt64 >>> (((8 : Int32) * (1 : Int32)) &&& 0x3f).toInt64.toUInt64).toInt64 &&& (255 : Int64)) = (c &&& (255 : Int32)).toInt64
  · rw [if_pos q]
    have r : w.toBitVec.toNat / 2 ^ 8 % 256 = (c &&& 255).toInt.toNat := by rw [← hb, q, h3]
    refine Eq.trans ?_ (if_pos (hx.mpr r)).symm
    decide
  · rw [if_neg q]
    have r : ¬ w.toBitVec.toNat / 2 ^ 8 % 256 = (c &&& 255).toInt.toNat := fun z => q (Int64.toBitVec_inj.mp (BitVec.eq_of_toNat_eq (by rw [hb, z, h3])))
    refine Eq.trans ?_ (if_neg fun z => r (hx.mp z)).symm
    decide
theorem own_k2 (w : Int64) (c : Int32) : (f3 w (c &&& (255 : Int32)).toInt64 2).toBitVec = if (w.toBitVec ^^^ ((72340172838076673 : Int64) * (c &&& (255 : Int32)).toInt64).toBitVec).toNat / 65536 % 256 = 0 then BitVec.twoPow 64 23 else 0#64 := by
  obtain ⟨h1, h2, h3⟩ := own_rep c
  have hx := own_x w.toBitVec ((72340172838076673 : Int64) * (c &&& (255 : Int32)).toInt64).toBitVec 16
  rw [h1] at hx
  have hr : 72340172838076673 * (c &&& 255).toInt.toNat / 2 ^ 16 % 256 = (c &&& 255).toInt.toNat := by
    generalize (c &&& 255).toInt.toNat = n at h2
    have a1 : 72340172838076673 * n = 257 * n + 65536 * (n + 256 * (4311810305 * n)) := by omega
    have a2 : (257 * n + 65536 * (n + 256 * (4311810305 * n))) / 65536 = n + 256 * (4311810305 * n) := by
      rw [Nat.add_mul_div_left _ _ (by decide), Nat.div_eq_of_lt (by omega), Nat.zero_add]
    have a3 : 72340172838076673 * n / 2 ^ 16 = n + 256 * (4311810305 * n) := by rw [a1]; exact a2
    rw [a3]
    clear a1 a2 a3 hx
    omega
  rw [hr] at hx
  have hb : ((w.toUInt64 >>> (((8 : Int32) * (2 : Int32)) &&& 0x3f).toInt64.toUInt64).toInt64 &&& (255 : Int64)).toBitVec.toNat = w.toBitVec.toNat / 2 ^ 16 % 256 := by
    have e : ((w.toUInt64 >>> (((8 : Int32) * (2 : Int32)) &&& 0x3f).toInt64.toUInt64).toInt64 &&& (255 : Int64)).toBitVec = (w.toBitVec >>> 16) &&& 255#64 := rfl
    have t : (255#64).toNat = 2 ^ 8 - 1 := rfl
    rw [e, BitVec.toNat_and, BitVec.toNat_ushiftRight, Nat.shiftRight_eq_div_pow, t, Nat.and_two_pow_sub_one_eq_mod]
  unfold f3
  by_cases q : ((w.toUInt64 >>> (((8 : Int32) * (2 : Int32)) &&& 0x3f).toInt64.toUInt64).toInt64 &&& (255 : Int64)) = (c &&& (255 : Int32)).toInt64
  · rw [if_pos q]
    have r : w.toBitVec.toNat / 2 ^ 16 % 256 = (c &&& 255).toInt.toNat := by rw [← hb, q, h3]
    refine Eq.trans ?_ (if_pos (hx.mpr r)).symm
    decide
  · rw [if_neg q]
    have r : ¬ w.toBitVec.toNat / 2 ^ 16 % 256 = (c &&& 255).toInt.toNat := fun z => q (Int64.toBitVec_inj.mp (BitVec.eq_of_toNat_eq (by rw [hb, z, h3])))
    refine Eq.trans ?_ (if_neg fun z => r (hx.mp z)).symm
    decide
theorem own_k3 (w : Int64) (c : Int32) : (f3 w (c &&& (255 : Int32)).toInt64 3).toBitVec = if (w.toBitVec ^^^ ((72340172838076673 : Int64) * (c &&& (255 : Int32)).toInt64).toBitVec).toNat / 16777216 % 256 = 0 then BitVec.twoPow 64 31 else 0#64 := by
  obtain ⟨h1, h2, h3⟩ := own_rep c
  have hx := own_x w.toBitVec ((72340172838076673 : Int64) * (c &&& (255 : Int32)).toInt64).toBitVec 24
  rw [h1] at hx
  have hr : 72340172838076673 * (c &&& 255).toInt.toNat / 2 ^ 24 % 256 = (c &&& 255).toInt.toNat := by
    generalize (c &&& 255).toInt.toNat = n at h2
    have a1 : 72340172838076673 * n = 65793 * n + 16777216 * (n + 256 * (16843009 * n)) := by omega
    have a2 : (65793 * n + 16777216 * (n + 256 * (16843009 * n))) / 16777216 = n + 256 * (16843009 * n) := by
      rw [Nat.add_mul_div_left _ _ (by decide), Nat.div_eq_of_lt (by omega), Nat.zero_add]
    have a3 : 72340172838076673 * n / 2 ^ 24 = n + 256 * (16843009 * n) := by rw [a1]; exact a2
    rw [a3]
    clear a1 a2 a3 hx
    omega
  rw [hr] at hx
  have hb : ((w.toUInt64 >>> (((8 : Int32) * (3 : Int32)) &&& 0x3f).toInt64.toUInt64).toInt64 &&& (255 : Int64)).toBitVec.toNat = w.toBitVec.toNat / 2 ^ 24 % 256 := by
    have e : ((w.toUInt64 >>> (((8 : Int32) * (3 : Int32)) &&& 0x3f).toInt64.toUInt64).toInt64 &&& (255 : Int64)).toBitVec = (w.toBitVec >>> 24) &&& 255#64 := rfl
    have t : (255#64).toNat = 2 ^ 8 - 1 := rfl
    rw [e, BitVec.toNat_and, BitVec.toNat_ushiftRight, Nat.shiftRight_eq_div_pow, t, Nat.and_two_pow_sub_one_eq_mod]
  unfold f3
  by_cases q : ((w.toUInt64 >>> (((8 : Int32) * (3 : Int32)) &&& 0x3f).toInt64.toUInt64).toInt64 &&& (255 : Int64)) = (c &&& (255 : Int32)).toInt64
  · rw [if_pos q]
    have r : w.toBitVec.toNat / 2 ^ 24 % 256 = (c &&& 255).toInt.toNat := by rw [← hb, q, h3]
    refine Eq.trans ?_ (if_pos (hx.mpr r)).symm
    decide
  · rw [if_neg q]
    have r : ¬ w.toBitVec.toNat / 2 ^ 24 % 256 = (c &&& 255).toInt.toNat := fun z => q (Int64.toBitVec_inj.mp (BitVec.eq_of_toNat_eq (by rw [hb, z, h3])))
    refine Eq.trans ?_ (if_neg fun z => r (hx.mp z)).symm
    decide
theorem own_k4 (w : Int64) (c : Int32) : (f3 w (c &&& (255 : Int32)).toInt64 4).toBitVec = if (w.toBitVec ^^^ ((72340172838076673 : Int64) * (c &&& (255 : Int32)).toInt64).toBitVec).toNat / 4294967296 % 256 = 0 then BitVec.twoPow 64 39 else 0#64 := by
  obtain ⟨h1, h2, h3⟩ := own_rep c
  have hx := own_x w.toBitVec ((72340172838076673 : Int64) * (c &&& (255 : Int32)).toInt64).toBitVec 32
  rw [h1] at hx
  have hr : 72340172838076673 * (c &&& 255).toInt.toNat / 2 ^ 32 % 256 = (c &&& 255).toInt.toNat := by
    generalize (c &&& 255).toInt.toNat = n at h2
    have a1 : 72340172838076673 * n = 16843009 * n + 4294967296 * (n + 256 * (65793 * n)) := by omega
    have a2 : (16843009 * n + 4294967296 * (n + 256 * (65793 * n))) / 4294967296 = n + 256 * (65793 * n) := by
      rw [Nat.add_mul_div_left _ _ (by decide), Nat.div_eq_of_lt (by omega), Nat.zero_add]
    have a3 : 72340172838076673 * n / 2 ^ 32 = n + 256 * (65793 * n) := by rw [a1]; exact a2
    rw [a3]
    clear a1 a2 a3 hx
    omega
  rw [hr] at hx
  have hb : ((w.toUInt64 >>> (((8 : Int32) * (4 : Int32)) &&& 0x3f).toInt64.toUInt64).toInt64 &&& (255 : Int64)).toBitVec.toNat = w.toBitVec.toNat / 2 ^ 32 % 256 := by
    have e : ((w.toUInt64 >>> (((8 : Int32) * (4 : Int32)) &&& 0x3f).toInt64.toUInt64).toInt64 &&& (255 : Int64)).toBitVec = (w.toBitVec >>> 32) &&& 255#64 := rfl
    have t : (255#64).toNat = 2 ^ 8 - 1 := rfl
    rw [e, BitVec.toNat_and, BitVec.toNat_ushiftRight, Nat.shiftRight_eq_div_pow, t, Nat.and_two_pow_sub_one_eq_mod]
  unfold f3
  by_cases q : ((w.toUInt64 >>> (((8 : Int32) * (4 : Int32)) &&& 0x3f).toInt64.toUInt64).toInt64 &&& (255 : Int64)) = (c &&& (255 : Int32)).toInt64
  · rw [if_pos q]
    have r : w.toBitVec.toNat / 2 ^ 32 % 256 = (c &&& 255).toInt.toNat := by rw [← hb, q, h3]
    refine Eq.trans ?_ (if_pos (hx.mpr r)).symm
    decide
  · rw [if_neg q]
    have r : ¬ w.toBitVec.toNat / 2 ^ 32 % 256 = (c &&& 255).toInt.toNat := fun z => q (Int64.toBitVec_inj.mp (BitVec.eq_of_toNat_eq (by rw [hb, z, h3])))
    refine Eq.trans ?_ (if_neg fun z => r (hx.mp z)).symm
    decide
theorem own_k5 (w : Int64) (c : Int32) : (f3 w (c &&& (255 : Int32)).toInt64 5).toBitVec = if (w.toBitVec ^^^ ((72340172838076673 : Int64) * (c &&& (255 : Int32)).toInt64).toBitVec).toNat / 1099511627776 % 256 = 0 then BitVec.twoPow 64 47 else 0#64 := by
  obtain ⟨h1, h2, h3⟩ := own_rep c
  have hx := own_x w.toBitVec ((72340172838076673 : Int64) * (c &&& (255 : Int32)).toInt64).toBitVec 40
  rw [h1] at hx
  have hr : 72340172838076673 * (c &&& 255).toInt.toNat / 2 ^ 40 % 256 = (c &&& 255).toInt.toNat := by
    generalize (c &&& 255).toInt.toNat = n at h2
    have a1 : 72340172838076673 * n = 4311810305 * n + 1099511627776 * (n + 256 * (257 * n)) := by omega
    have a2 : (4311810305 * n + 1099511627776 * (n + 256 * (257 * n))) / 1099511627776 = n + 256 * (257 * n) := by
      rw [Nat.add_mul_div_left _ _ (by decide), Nat.div_eq_of_lt (by omega), Nat.zero_add]
    have a3 : 72340172838076673 * n / 2 ^ 40 = n + 256 * (257 * n) := by rw [a1]; exact a2
    rw [a3]
    clear a1 a2 a3 hx
    omega
  rw [hr] at hx
  have hb : ((w.toUInt64 >>> (((8 : Int32) * (5 : Int32)) &&& 0x3f).toInt64.toUInt64).toInt64 &&& (255 : Int64)).toBitVec.toNat = w.toBitVec.toNat / 2 ^ 40 % 256 := by
    have e : ((w.toUInt64 >>> (((8 : Int32) * (5 : Int32)) &&& 0x3f).toInt64.toUInt64).toInt64 &&& (255 : Int64)).toBitVec = (w.toBitVec >>> 40) &&& 255#64 := rfl
    have t : (255#64).toNat = 2 ^ 8 - 1 := rfl
    rw [e, BitVec.toNat_and, BitVec.toNat_ushiftRight, Nat.shiftRight_eq_div_pow, t, Nat.and_two_pow_sub_one_eq_mod]
  unfold f3
  by_cases q : ((w.toUInt64 >>> (((8 : Int32) * (5 : Int32)) &&& 0x3f).toInt64.toUInt64).toInt64 &&& (255 : Int64)) = (c &&& (255 : Int32)).toInt64
  · rw [if_pos q]
    have r : w.toBitVec.toNat / 2 ^ 40 % 256 = (c &&& 255).toInt.toNat := by rw [← hb, q, h3]
    refine Eq.trans ?_ (if_pos (hx.mpr r)).symm
    decide
  · rw [if_neg q]
    have r : ¬ w.toBitVec.toNat / 2 ^ 40 % 256 = (c &&& 255).toInt.toNat := fun z => q (Int64.toBitVec_inj.mp (BitVec.eq_of_toNat_eq (by rw [hb, z, h3])))
    refine Eq.trans ?_ (if_neg fun z => r (hx.mp z)).symm
    decide
theorem own_k6 (w : Int64) (c : Int32) : (f3 w (c &&& (255 : Int32)).toInt64 6).toBitVec = if (w.toBitVec ^^^ ((72340172838076673 : Int64) * (c &&& (255 : Int32)).toInt64).toBitVec).toNat / 281474976710656 % 256 = 0 then BitVec.twoPow 64 55 else 0#64 := by
  obtain ⟨h1, h2, h3⟩ := own_rep c
  have hx := own_x w.toBitVec ((72340172838076673 : Int64) * (c &&& (255 : Int32)).toInt64).toBitVec 48
  rw [h1] at hx
  have hr : 72340172838076673 * (c &&& 255).toInt.toNat / 2 ^ 48 % 256 = (c &&& 255).toInt.toNat := by
    generalize (c &&& 255).toInt.toNat = n at h2
    have a1 : 72340172838076673 * n = 1103823438081 * n + 281474976710656 * (n + 256 * (1 * n)) := by omega
    have a2 : (1103823438081 * n + 281474976710656 * (n + 256 * (1 * n))) / 281474976710656 = n + 256 * (1 * n) := by
      rw [Nat.add_mul_div_left _ _ (by decide), Nat.div_eq_of_lt (by omega), Nat.zero_add]
    have a3 : 72340172838076673 * n / 2 ^ 48 = n + 256 * (1 * n) := by rw [a1]; exact a2
    rw [a3]
    clear a1 a2 a3 hx
    omega
  rw [hr] at hx
  have hb : ((w.toUInt64 >>> (((8 : Int32) * (6 : Int32)) &&& 0x3f).toInt64.toUInt64).toInt64 &&& (255 : Int64)).toBitVec.toNat = w.toBitVec.toNat / 2 ^ 48 % 256 := by
    have e : ((w.toUInt64 >>> (((8 : Int32) * (6 : Int32)) &&& 0x3f).toInt64.toUInt64).toInt64 &&& (255 : Int64)).toBitVec = (w.toBitVec >>> 48) &&& 255#64 := rfl
    have t : (255#64).toNat = 2 ^ 8 - 1 := rfl
    rw [e, BitVec.toNat_and, BitVec.toNat_ushiftRight, Nat.shiftRight_eq_div_pow, t, Nat.and_two_pow_sub_one_eq_mod]
  unfold f3
  by_cases q : ((w.toUInt64 >>> (((8 : Int32) * (6 : Int32)) &&& 0x3f).toInt64.toUInt64).toInt64 &&& (255 : Int64)) = (c &&& (255 : Int32)).toInt64
  · rw [if_pos q]
    have r : w.toBitVec.toNat / 2 ^ 48 % 256 = (c &&& 255).toInt.toNat := by rw [← hb, q, h3]
    refine Eq.trans ?_ (if_pos (hx.mpr r)).symm
    decide
  · rw [if_neg q]
    have r : ¬ w.toBitVec.toNat / 2 ^ 48 % 256 = (c &&& 255).toInt.toNat := fun z => q (Int64.toBitVec_inj.mp (BitVec.eq_of_toNat_eq (by rw [hb, z, h3])))
    refine Eq.trans ?_ (if_neg fun z => r (hx.mp z)).symm
    decide
theorem own_k7 (w : Int64) (c : Int32) : (f3 w (c &&& (255 : Int32)).toInt64 7).toBitVec = if (w.toBitVec ^^^ ((72340172838076673 : Int64) * (c &&& (255 : Int32)).toInt64).toBitVec).toNat / 72057594037927936 % 256 = 0 then BitVec.twoPow 64 63 else 0#64 := by
  obtain ⟨h1, h2, h3⟩ := own_rep c
  have hx := own_x w.toBitVec ((72340172838076673 : Int64) * (c &&& (255 : Int32)).toInt64).toBitVec 56
  rw [h1] at hx
  have hr : 72340172838076673 * (c &&& 255).toInt.toNat / 2 ^ 56 % 256 = (c &&& 255).toInt.toNat := by
    generalize (c &&& 255).toInt.toNat = n at h2
    have a1 : 72340172838076673 * n = 282578800148737 * n + 72057594037927936 * (n + 256 * (0 * n)) := by omega
    have a2 : (282578800148737 * n + 72057594037927936 * (n + 256 * (0 * n))) / 72057594037927936 = n + 256 * (0 * n) := by
      rw [Nat.add_mul_div_left _ _ (by decide), Nat.div_eq_of_lt (by omega), Nat.zero_add]
    have a3 : 72340172838076673 * n / 2 ^ 56 = n + 256 * (0 * n) := by rw [a1]; exact a2
    rw [a3]
    clear a1 a2 a3 hx
    omega
  rw [hr] at hx
  have hb : ((w.toUInt64 >>> (((8 : Int32) * (7 : Int32)) &&& 0x3f).toInt64.toUInt64).toInt64 &&& (255 : Int64)).toBitVec.toNat = w.toBitVec.toNat / 2 ^ 56 % 256 := by
    have e : ((w.toUInt64 >>> (((8 : Int32) * (7 : Int32)) &&& 0x3f).toInt64.toUInt64).toInt64 &&& (255 : Int64)).toBitVec = (w.toBitVec >>> 56) &&& 255#64 := rfl
    have t : (255#64).toNat = 2 ^ 8 - 1 := rfl
    rw [e, BitVec.toNat_and, BitVec.toNat_ushiftRight, Nat.shiftRight_eq_div_pow, t, Nat.and_two_pow_sub_one_eq_mod]
  unfold f3
  by_cases q : ((w.toUInt64 >>> (((8 : Int32) * (7 : Int32)) &&& 0x3f).toInt64.toUInt64).toInt64 &&& (255 : Int64)) = (c &&& (255 : Int32)).toInt64
  · rw [if_pos q]
    have r : w.toBitVec.toNat / 2 ^ 56 % 256 = (c &&& 255).toInt.toNat := by rw [← hb, q, h3]
    refine Eq.trans ?_ (if_pos (hx.mpr r)).symm
    decide
  · rw [if_neg q]
    have r : ¬ w.toBitVec.toNat / 2 ^ 56 % 256 = (c &&& 255).toInt.toNat := fun z => q (Int64.toBitVec_inj.mp (BitVec.eq_of_toNat_eq (by rw [hb, z, h3])))
    refine Eq.trans ?_ (if_neg fun z => r (hx.mp z)).symm
    decide
theorem own_f2 (w r : Int64) : (f2 w r).toBitVec = own_M (w.toBitVec ^^^ r.toBitVec) 1 := by
  have e : (f2 w r).toBitVec = ((w.toBitVec ^^^ r.toBitVec) - 72340172838076673#64) &&& ((w.toBitVec ^^^ r.toBitVec) ^^^ BitVec.allOnes 64) &&& 9259542123273814144#64 := rfl
  rw [e, BitVec.xor_allOnes]
  rfl
theorem own_e (w : Int64) (c : Int32) (r : Int64) (hr : r = (72340172838076673 : Int64) * (c &&& (255 : Int32)).toInt64) (b : Int64) (hb : b = (c &&& (255 : Int32)).toInt64) :
    ((((((((f3 w b (0 : Int32)) ||| (f3 w b (1 : Int32))) ||| (f3 w b (2 : Int32))) ||| (f3 w b (3 : Int32))) ||| (f3 w b (4 : Int32))) ||| (f3 w b (5 : Int32))) ||| (f3 w b (6 : Int32))) ||| (f3 w b (7 : Int32))).toBitVec = own_E (w.toBitVec ^^^ r.toBitVec) := by
  subst hr hb
  rw [Int64.toBitVec_or, Int64.toBitVec_or, Int64.toBitVec_or, Int64.toBitVec_or, Int64.toBitVec_or, Int64.toBitVec_or, Int64.toBitVec_or, own_k0, own_k1, own_k2, own_k3, own_k4, own_k5, own_k6, own_k7]
  rfl
theorem own_law (i0 : Int64) (i1 i2 : Int32) : f0 i0 i1 i2 = 1 := by
  have hE := own_e (g0_81 i0 i1 i2) i1 _ rfl _ rfl
  have hF := own_f2 (g0_81 i0 i1 i2) ((72340172838076673 : Int64) * (i1 &&& (255 : Int32)).toInt64)
  have hG : (g0_165 i0 i1 i2).toBitVec = own_E ((g0_81 i0 i1 i2).toBitVec ^^^ ((72340172838076673 : Int64) * (i1 &&& (255 : Int32)).toInt64).toBitVec) := hE
  have hU : (g0_182 i0 i1 i2).toBitVec = own_up (g0_165 i0 i1 i2).toBitVec := rfl
  have s2 := own_s2 ((g0_81 i0 i1 i2).toBitVec ^^^ ((72340172838076673 : Int64) * (i1 &&& (255 : Int32)).toInt64).toBitVec)
  have s3 := own_s3 ((g0_81 i0 i1 i2).toBitVec ^^^ ((72340172838076673 : Int64) * (i1 &&& (255 : Int32)).toInt64).toBitVec)
  rw [← hF, ← hG] at s2
  rw [← hF, ← hG, ← hU] at s3
  have a1 : (f2 (g0_81 i0 i1 i2) ((72340172838076673 : Int64) * (i1 &&& (255 : Int32)).toInt64) &&& (9187201950435737471 : Int64)) = (0 : Int64) := by
    unfold f2
    rw [Int64.and_assoc]
    have : ((-9187201950435737472 : Int64) &&& (9187201950435737471 : Int64)) = 0 := by decide
    rw [this]
    exact Int64.and_zero
  have a2 : (f2 (g0_81 i0 i1 i2) ((72340172838076673 : Int64) * (i1 &&& (255 : Int32)).toInt64) &&& g0_165 i0 i1 i2) = g0_165 i0 i1 i2 := Int64.toBitVec_inj.mp s2
  have a3 : (f2 (g0_81 i0 i1 i2) ((72340172838076673 : Int64) * (i1 &&& (255 : Int32)).toInt64) &&& g0_182 i0 i1 i2) = (g0_165 i0 i1 i2 &&& g0_182 i0 i1 i2) := Int64.toBitVec_inj.mp s3
  unfold f0
  rw [if_pos a1]
  unfold f0_200
  rw [if_pos a2]
  unfold f0_218
  rw [if_pos a3]
  unfold f0_239
  decide

set_option maxRecDepth 65536 in
set_option maxHeartbeats 40000000 in
theorem comes_1 {Post : Tables → Env → Array Value → State → Outcome → State → Prop} (hpost : ∀ tb e args s v u, (limb_1_1.after args s (.returned v) u = true ∧ limb_1_2.after args s (.returned v) u = true ∧ True) → FrameEnd s (.returned v) u (Jvm.fieldLocs frame_1_writes args s ++ Jvm.arrayLocs frame_1_arrays args s ++ Jvm.staticLocs frame_1_statics s) 0 0 → Post tb e args s (.returned v) u) :
    ArmFor flags0 classFile x code maxLocals ret World_1 tables_1 room_1 Calls_1 rest_1 Pre_1 Post := by
  intro l hfl _ _ p e ha hc hk s m args below hf hA hF happ hP
  obtain ⟨hcalls, hrest, hpre⟩ := hP
  obtain ⟨-, -, -, hnamed, -, -, -, hat⟩ := (Spec.applies_iff hf).mp happ
  obtain ⟨hg, hn⟩ := and_e (Cond.before_iff.mp (show (Jvm.Cond.and given_1 narrow_1).before args s = true from hpre))
  obtain ⟨g1, g2⟩ := and_e hg
  obtain ⟨g3, g4⟩ := and_e g2
  obtain ⟨g5, g6⟩ := and_e g4
  obtain ⟨w0, w1, w2, rfl⟩ : ∃ w0 w1 w2 : Value, args = #[w0, w1, w2] := by
    have hs : args.size = 3 := by simpa [Cond.value, given_1] using g1
    obtain ⟨L⟩ := args
    match L, hs with
    | [w0, w1, w2], _ => exact ⟨w0, w1, w2, rfl⟩
  have hw := fun d (hd : d ∈ tables_1) => atoms_spec (ws := Jvm.Cond.code x code maxLocals ret :: tables_1) hat d (List.mem_cons_of_mem _ hd)
  have hfit : Fit s := fun {y c} hc i hi => by
    obtain ⟨ha, rfl⟩ := Array.getElem?_eq_some_iff.mp hc
    have q := List.all_eq_true.mp ((Array.all_eq_true_iff_forall_mem.mp hF) _ (Array.getElem_mem ha)) i (List.mem_range.mpr hi)
    simpa [Array.getElem?_eq_getElem hi] using q
  obtain ⟨i0, ei0⟩ := isL_v g3
  obtain rfl : w0 = (.long i0) := Option.some.inj ei0
  obtain ⟨i1, ei1⟩ := is_v g5
  obtain rfl : w1 = (.int i1) := Option.some.inj ei1
  obtain ⟨i2, ei2⟩ := is_v g6
  obtain rfl : w2 = (.int i2) := Option.some.inj ei2
  obtain ⟨n, o, h1, h2, h3, v, L, rfl, ⟨rfl, hheap, rfl⟩, hq⟩ := rm0 l s _ hw tables_1 i0 i1 i2 s.heap p e ha hc hk s m _ below hf ((Spec.applies_iff_loose hf).mp happ).1 ⟨rfl, State.Warmed39.refl s, rfl⟩ trivial
  refine ⟨n, _, h1, h2, h3, hpost _ _ _ _ _ _ ⟨Cond.after_iff.mpr rfl, Cond.after_iff.mpr (eq_i res_at (Term.int_eval (1)) (congrArg Value.int (own_law i0 i1 i2))), trivial⟩ ⟨hq.1, hq.2.1, (hq.2.2.sift fun y hy => nomatch hy).mono (by decide) (by decide)⟩⟩
theorem main_1_1 : Claimed_1_1 := comes_1 fun _ _ _ _ _ _ h hF => ⟨h.1, hF⟩
theorem main_1_2 : Claimed_1_2 := comes_1 fun _ _ _ _ _ _ h hF => ⟨h.2.1, hF⟩
end Jvm.Pilot.@@N@@
namespace Jvm.Pilot.@@N@@
open Jvm Jvm.ClassFile Sem Op Lib Jvm.Free Jvm.Stand Jvm.Pilot.@@N@@.Jvm.D
/-! MADE BY PROGRAM (witnessworld.py) out of the Statement's table words and the real class files: 9 classes; the members and pool entries that the words name. The judged class is class 1, her method 1. -/
namespace start1
open Jvm.ClassFile
def u (s : String) : CpInfo := .utf8 (stringToUtf16 s)
/-- a pool by its gaps: so many unusable entries, then the entry; so many at the end -/
def gap : Nat → List CpInfo → List CpInfo
  | 0, r => r
  | n + 1, r => .unusable :: gap n r
def poolList (es : List (Nat × CpInfo)) (last : Nat) : List CpInfo := es.foldr (fun e r => gap e.1 (e.2 :: r)) (gap last [])
def pool (es : List (Nat × CpInfo)) (last : Nat) : Array CpInfo := ⟨poolList es last⟩
def fileOf (pool : Array CpInfo) (this : Nat) (attrs : Array Attribute := #[]) (ms : Array MethodInfo := #[]) (fl : Nat := 33) (sup : Nat := 0) (ifs : Array Nat := #[]) (fds : Array FieldInfo := #[]) : ClassFile where
  minorVersion := 0
  majorVersion := 65
  constantPool := pool
  accessFlags := fl
  thisClass := this
  superClass := sup
  interfaces := ifs
  fields := fds
  methods := ms
  attributes := attrs
def plain (name : String) (sup : Option ClassId) : Class where
  name := name
  kind := .ordinary
  loader := none
  accessFlags := 33
  super := sup
  interfaces := #[]
  cf := none
  fields := #[]
  methods := #[]
  instanceTypes := #[]
  staticTypes := #[]
  resolved := #[]
  callSites := []
  init := .initialized
  statics := none
  mirror := none

def pool0 : Array CpInfo := pool [(5, u "<init>"), (0, u "()V"), (1, .class_ 10), (1, u "java/lang/Object")] 113

def k0m0 : Method := { name := "<init>", desc := "()V", sig := { parameters := [], returnType := none }, accessFlags := 1, code := none }
/-- java/lang/Object -/
def k0 : Class := { plain "java/lang/Object" none with
  accessFlags := 33
  interfaces := #[]
  cf := some (fileOf pool0 8 #[] #[{ accessFlags := 1, nameIndex := 5, descriptorIndex := 6, attributes := #[] }] 33 0 #[] #[])
  fields := #[]
  methods := #[k0m0]
  instanceTypes := #[]
  staticTypes := #[]
  resolved := Array.replicate 124 none
  statics := none }

def pool1 : Array CpInfo := pool [(2, .class_ 4), (1, u "java/lang/Object"), (0, u "<init>"), (0, u "()V"), (0, .long 72340172838076673), (1, .methodref 10 11), (0, .class_ 12), (0, .nameAndType 13 14), (0, u "com/example/bounds/bounds/json/WordsEqualPinLaw"), (0, u "keep"), (0, u "(II)J"), (0, .long 18446744073709551615), (1, .methodref 18 19), (0, .class_ 20), (0, .nameAndType 21 22), (0, u "com/example/bounds/bounds/json/Words"), (0, u "equal"), (0, u "(JJ)J"), (0, .methodref 10 24), (0, .nameAndType 25 26), (0, u "mark"), (0, u "(JJI)J"), (0, .long 9187201950435737471), (1, .long 255), (1, .long 128), (3, u "law"), (0, u "(JII)Z")] 3

def k1m0 : Method := { name := "<init>", desc := "()V", sig := { parameters := [], returnType := none }, accessFlags := 2, code := none }
def k1c1 : Code := { maxStack := 7, maxLocals := 23, code := code, exceptionTable := #[], attributes := #[] }
def k1m1 : Method := { name := "law", desc := "(JII)Z", sig := { parameters := [.long, .int, .int], returnType := some .boolean }, accessFlags := 9, code := some k1c1 }
def k1c2 : Code := { maxStack := 4, maxLocals := 5, code := method_3_code, exceptionTable := #[], attributes := #[] }
def k1m2 : Method := { name := "mark", desc := "(JJI)J", sig := { parameters := [.long, .long, .int], returnType := some .long }, accessFlags := 10, code := some k1c2 }
def k1c3 : Code := { maxStack := 4, maxLocals := 2, code := method_4_code, exceptionTable := #[], attributes := #[] }
def k1m3 : Method := { name := "keep", desc := "(II)J", sig := { parameters := [.int, .int], returnType := some .long }, accessFlags := 10, code := some k1c3 }
/-- com/example/bounds/bounds/json/WordsEqualPinLaw -/
def k1 : Class := { plain "com/example/bounds/bounds/json/WordsEqualPinLaw" (some 0) with
  accessFlags := 49
  interfaces := #[]
  cf := some (fileOf pool1 10 #[] #[{ accessFlags := 2, nameIndex := 5, descriptorIndex := 6, attributes := #[] }, { accessFlags := 9, nameIndex := 35, descriptorIndex := 36, attributes := #[] }, { accessFlags := 10, nameIndex := 25, descriptorIndex := 26, attributes := #[] }, { accessFlags := 10, nameIndex := 13, descriptorIndex := 14, attributes := #[] }] 49 2 #[] #[])
  fields := #[]
  methods := #[k1m0, k1m1, k1m2, k1m3]
  instanceTypes := #[]
  staticTypes := #[]
  resolved := Array.replicate 40 none
  statics := none }

def pool2 : Array CpInfo := pool [(4, .class_ 6), (1, u "java/lang/Object"), (0, u "<init>"), (0, u "()V"), (0, .class_ 10), (0, u "com/example/bounds/bounds/json/Words"), (8, u "WORDS"), (0, u "Ljava/lang/invoke/VarHandle;"), (8, .long 72340172838076673), (1, .long 18446744073709551615), (1, .long 9259542123273814144), (19, u "SIZE"), (0, u "I"), (2, u "ONES"), (0, u "J"), (0, u "HIGHS"), (5, u "equal"), (0, u "(JJ)J")] 9

def k2m0 : Method := { name := "<init>", desc := "()V", sig := { parameters := [], returnType := none }, accessFlags := 2, code := none }
def k2c1 : Code := { maxStack := 6, maxLocals := 6, code := prog_9_method_4_code, exceptionTable := #[], attributes := #[] }
def k2m1 : Method := { name := "equal", desc := "(JJ)J", sig := { parameters := [.long, .long], returnType := some .long }, accessFlags := 8, code := some k2c1 }
/-- com/example/bounds/bounds/json/Words -/
def k2 : Class := { plain "com/example/bounds/bounds/json/Words" (some 0) with
  accessFlags := 32
  interfaces := #[]
  cf := some (fileOf pool2 9 #[] #[{ accessFlags := 2, nameIndex := 7, descriptorIndex := 8, attributes := #[] }, { accessFlags := 8, nameIndex := 65, descriptorIndex := 66, attributes := #[] }] 32 4 #[] #[{ accessFlags := 24, nameIndex := 53, descriptorIndex := 54, attributes := #[] }, { accessFlags := 26, nameIndex := 57, descriptorIndex := 58, attributes := #[] }, { accessFlags := 26, nameIndex := 59, descriptorIndex := 58, attributes := #[] }, { accessFlags := 26, nameIndex := 19, descriptorIndex := 20, attributes := #[] }])
  fields := #[{ name := "SIZE", type := .int, accessFlags := 24, slot := 0, constantValue := 0 }, { name := "ONES", type := .long, accessFlags := 26, slot := 1, constantValue := 0 }, { name := "HIGHS", type := .long, accessFlags := 26, slot := 2, constantValue := 0 }, { name := "WORDS", type := (.object "java/lang/invoke/VarHandle"), accessFlags := 26, slot := 3, constantValue := 0 }]
  methods := #[k2m0, k2m1]
  instanceTypes := #[]
  staticTypes := #[.int, .long, .long, (.object "java/lang/invoke/VarHandle")]
  resolved := Array.replicate 76 none
  statics := none }

def pool3 : Array CpInfo := pool [(1, u "java/lang/Cloneable"), (0, .class_ 1), (0, u "java/lang/Object"), (0, .class_ 3)] 3

/-- java/lang/Cloneable -/
def k3 : Class := { plain "java/lang/Cloneable" (some 0) with
  accessFlags := 1537
  interfaces := #[]
  cf := some (fileOf pool3 2 #[] #[] 1537 4 #[] #[])
  fields := #[]
  methods := #[]
  instanceTypes := #[]
  staticTypes := #[]
  resolved := Array.replicate 8 none
  statics := none }

def pool4 : Array CpInfo := pool [(1, u "java/io/Serializable"), (0, .class_ 1), (0, u "java/lang/Object"), (0, .class_ 3)] 3

/-- java/io/Serializable -/
def k4 : Class := { plain "java/io/Serializable" (some 0) with
  accessFlags := 1537
  interfaces := #[]
  cf := some (fileOf pool4 2 #[] #[] 1537 4 #[] #[])
  fields := #[]
  methods := #[]
  instanceTypes := #[]
  staticTypes := #[]
  resolved := Array.replicate 8 none
  statics := none }

/-- the primitive byte -/
def k5 : Class := { plain "byte" none with kind := .primitive 'B', accessFlags := 0x411 }
/-- [B -/
def k6 : Class := { plain "[B" (some 0) with kind := .array 5 .byte, interfaces := #[3, 4], accessFlags := 1041 }

/-- the primitive int -/
def k7 : Class := { plain "int" none with kind := .primitive 'I', accessFlags := 0x411 }
/-- [I -/
def k8 : Class := { plain "[I" (some 0) with kind := .array 7 .int, interfaces := #[3, 4], accessFlags := 1041 }

def heap : Heap := #[]
def classes : Array Class := #[k0, k1, k2, k3, k4, k5, k6, k7, k8]
def interned : List (Array UInt16 × Addr) := []
def slotsUsed : Nat := 0
def theMethod : MethodId := ⟨1, 1⟩
def args0 : Array Value := #[.long 5, .int 7, .int 3]
def aboutOver (below : List Frame) : State where
  vm := { classes := classes, interned := interned.toArray }
  heap := heap
  slotsUsed := slotsUsed
  threads := #[{ frames := .invoking theMethod args0 :: below }]
def below0 : List Frame := [.native { method := ⟨0, 0⟩, args := #[] }]
def about1 : State := aboutOver below0
def p0 : Program := .bare "" "" ""
def e0 : Env := launch0.env 0 0 0
theorem w_frames : about1.frames = Frame.invoking theMethod args0 :: below0 := rfl
set_option maxRecDepth 65536 in
theorem w_args : argsFit about1.vm theMethod args0 = true := by decide +kernel
set_option maxRecDepth 65536 in
theorem w_heap : heapFits about1 = true := by decide +kernel
set_option maxRecDepth 65536 in
theorem w_runnable : about1.curStatus? = some .runnable := by decide +kernel
set_option maxRecDepth 65536 in
theorem w_alone : about1.alone = true := by decide +kernel
set_option maxRecDepth 65536 in
theorem w_named : about1.methodNamed? x = some theMethod := by decide +kernel
set_option maxRecDepth 65536 in
theorem w_hears : about1.hears theMethod below0 = true := by decide +kernel
set_option maxRecDepth 65536 in
theorem w_ripe : about1.ripe theMethod args0 below0 = true := by decide +kernel
theorem w_running : about1.status = .running := rfl
set_option maxRecDepth 65536 in
theorem w_room : about1.hasRoom e0.platform room_1 = true :=
  launch0.hasRoom_least _ room_1 (by decide +kernel) (by decide +kernel) (by decide +kernel) (by decide +kernel) (by decide +kernel) (by decide +kernel)
theorem allAtoms_all (ts : List Jvm.Cond) (a : Array Jvm.Value) (st : Jvm.State) : (allAtoms ts).before a st = ts.all (fun c => c.before a st) := by
  induction ts with
  | nil => rfl
  | cons c t ih =>
    show (Jvm.Cond.and c (allAtoms t)).before a st = _
    rw [Jvm.Cond.before_and, ih, List.all_cons]
def words1 : List Jvm.Cond := Jvm.Cond.code x code maxLocals ret :: tables_1
/-- a 'code' word, met by the world's own term for the bytes: nothing is compared byte by byte -/
theorem code_word {y : MethodName} {bytes : ByteArray} {mx : Nat} {rt : Option FieldType} {a : Array Value} {s : State} {m : MethodId} {meth : Method} {c : Code} (h1 : s.methodNamed? y = some m) (h2 : s.vm.method? m = some meth) (h3 : meth.code = some c) (h4 : c.code = bytes)
    (h5 : (c.maxLocals == mx && c.exceptionTable.isEmpty && decide (c.maxStack ≤ mostOperands) && decide (meth.sig.returnType = rt) && !meth.locks && decide (parseMethodDescriptor y.desc = some meth.sig)) = true) : (Jvm.Cond.code y bytes mx rt).before a s = true := by
  simp only [Bool.and_eq_true, beq_iff_eq, Bool.not_eq_true', decide_eq_true_eq] at h5
  obtain ⟨⟨⟨⟨⟨g1, g2⟩, g3⟩, g4⟩, g5⟩, g6⟩ := h5
  simp [Cond.before, Cond.holds, Cond.value, h1, h2, h3, h4, g1, g2, g3, g4, g5, g6]
def isCode : Jvm.Cond → Bool
  | .code _ _ _ _ => true
  | _ => false
theorem all_split {L : List Jvm.Cond} {P : Jvm.Cond → Bool} (h1 : L.all (fun c => isCode c || P c) = true) (h2 : ∀ c ∈ L.filter isCode, P c = true) : L.all P = true := by
  refine List.all_eq_true.mpr fun c hc => ?_
  have h := List.all_eq_true.mp h1 c hc
  rcases Bool.eq_false_or_eq_true (isCode c) with hi | hi
  · exact h2 c (List.mem_filter.mpr ⟨hc, hi⟩)
  · simpa [hi] using h
set_option maxRecDepth 65536 in
theorem w_c0 : (Jvm.Cond.code x code maxLocals ret).before args0 about1 = true := code_word (m := ⟨1, 1⟩) (meth := k1m1) (c := k1c1) (by decide +kernel) rfl rfl rfl (by decide +kernel)
set_option maxRecDepth 65536 in
theorem w_c1 : (Jvm.Cond.code ({ cls := "com/example/bounds/bounds/json/WordsEqualPinLaw", name := "keep", desc := "(II)J" } : Jvm.MethodName) method_4_code (2 : Nat) (Option.some Jvm.ClassFile.FieldType.long)).before args0 about1 = true := code_word (m := ⟨1, 3⟩) (meth := k1m3) (c := k1c3) (by decide +kernel) rfl rfl rfl (by decide +kernel)
set_option maxRecDepth 65536 in
theorem w_c2 : (Jvm.Cond.code ({ cls := "com/example/bounds/bounds/json/Words", name := "equal", desc := "(JJ)J" } : Jvm.MethodName) prog_9_method_4_code (6 : Nat) (Option.some Jvm.ClassFile.FieldType.long)).before args0 about1 = true := code_word (m := ⟨2, 1⟩) (meth := k2m1) (c := k2c1) (by decide +kernel) rfl rfl rfl (by decide +kernel)
set_option maxRecDepth 65536 in
theorem w_c3 : (Jvm.Cond.code ({ cls := "com/example/bounds/bounds/json/WordsEqualPinLaw", name := "mark", desc := "(JJI)J" } : Jvm.MethodName) method_3_code (5 : Nat) (Option.some Jvm.ClassFile.FieldType.long)).before args0 about1 = true := code_word (m := ⟨1, 2⟩) (meth := k1m2) (c := k1c2) (by decide +kernel) rfl rfl rfl (by decide +kernel)
def codes1 : List Jvm.Cond := [Jvm.Cond.code x code maxLocals ret, Jvm.Cond.code ({ cls := "com/example/bounds/bounds/json/WordsEqualPinLaw", name := "keep", desc := "(II)J" } : Jvm.MethodName) method_4_code (2 : Nat) (Option.some Jvm.ClassFile.FieldType.long), Jvm.Cond.code ({ cls := "com/example/bounds/bounds/json/Words", name := "equal", desc := "(JJ)J" } : Jvm.MethodName) prog_9_method_4_code (6 : Nat) (Option.some Jvm.ClassFile.FieldType.long), Jvm.Cond.code ({ cls := "com/example/bounds/bounds/json/WordsEqualPinLaw", name := "mark", desc := "(JJI)J" } : Jvm.MethodName) method_3_code (5 : Nat) (Option.some Jvm.ClassFile.FieldType.long)]
set_option maxRecDepth 65536 in
theorem codes_eq : words1.filter isCode = codes1 := rfl
theorem w_codes : ∀ c ∈ words1.filter isCode, c.before args0 about1 = true := by
  rw [codes_eq]
  intro c hc
  simp only [codes1, List.mem_cons, List.not_mem_nil, or_false] at hc
  rcases hc with rfl | rfl | rfl | rfl
  · exact w_c0
  · exact w_c1
  · exact w_c2
  · exact w_c3
set_option maxRecDepth 65536 in
theorem w_t1 : words1.all (fun c => isCode c || c.before args0 about1) = true := by decide +kernel
theorem w_tables : (allAtoms (Jvm.Cond.code x code maxLocals ret :: tables_1)).before args0 about1 = true := by
  rw [allAtoms_all]
  show words1.all (fun c => c.before args0 about1) = true
  refine all_split ?_ w_codes
  rw [w_t1]
set_option maxRecDepth 65536 in
theorem w_case : (Jvm.Cond.and given_1 narrow_1).before args0 about1 = true := by decide +kernel
theorem w_applies : (headSpec (Jvm.Cond.code x code maxLocals ret :: tables_1) room_1).applies x e0.platform about1 = true :=
  (Spec.applies_iff w_frames).mpr ⟨w_running, w_runnable, w_alone, w_named, w_hears, w_ripe, w_room, w_tables⟩
theorem atStart : AtStart classFile x code maxLocals ret World_1 tables_1 room_1 Calls_1 rest_1 Pre_1 launch0 p0 e0 about1 theMethod args0 below0 :=
  ⟨lists_1, trivial, launch0.admits_env _ _ _, launch0.least_env, fairChoices_fair.cas, fairChoices_fair.clock, w_frames, w_args, w_heap, w_applies, trivial, trivial, w_case⟩
end start1
theorem witness_1 : WitnessClaimed_1 := ⟨start1.p0, start1.e0, start1.about1, start1.theMethod, start1.args0, start1.below0, start1.atStart⟩
end Jvm.Pilot.@@N@@
