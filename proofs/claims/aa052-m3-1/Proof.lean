import JvmDerived
import JvmDerived.Pilot.@@N@@Statement
import JvmDerived.Pilot.@@N@@Code
set_option linter.unusedVariables false
set_option linter.unusedSimpArgs false
namespace Jvm.RoadKit
open Sem ClassFile Op Lib Jvm.Stand Jvm.Free Jvm.LawKit
section New
variable {p : Program} {l : Launch} {e : Env} {R : Room} {s : State} {m : MethodId} {args : Array Value} {below : List Frame} {meth : Method} {c : Code} {T : State} {locs : List Loc} {cells slots : Nat}
theorem retI (X : Stand p l e R s m args below meth c T locs cells slots) (hx : p.tables.exec = Jvm.exec) {pc : Nat} {Ls : Array Slot} {z : Int32} {rest : List Value} (hret : meth.sig.returnType = some .int) (hd : decode c.code pc = .ok (.ireturn, 1)) {fs : List Frame}
    (hl : ∀ (f : JFrame) (acts : List Action), f.method = m → f.locked = none → f.entered = [] → (doReturn e (T.setTop f) acts (some (.int z))).1 = T.setFrames fs) : Steps p.tables e below (T.setTop (mkF m pc Ls (.int z :: rest))) (T.setFrames fs) := by
  have hm' : T.vm.method? m = some meth := X.method'
  have hn : narrow .int (.int z) = .int z := rfl
  show Steps p.tables e below (T.setTop { method := m, pc := pc, locals := Ls, stack := _ :: rest, locked := none }) _
  jvm_step X.here [X.here.top, hx, hd, hm', hret, hn]
  first | (intro acts; rw [hl _ acts rfl rfl rfl]) | rw [hl _ _ rfl rfl rfl]
  exact Steps.refl _
end New
end Jvm.RoadKit
namespace Jvm.Pilot.@@N@@
open Jvm Jvm.ClassFile Sem Op Lib Jvm.Free Jvm.Stand Jvm.LawKit Jvm.RoadKit Bundle Jvm.Pilot.@@N@@.Jvm.D

/-! the walk's goal: from this frame the run comes to its end, and Q holds of what it returns, of the heap and of the places written -/
def Fini (p : Program) (e : Env) (below : List Frame) (s : State) (Q : Option Value → Heap → List Loc → Prop) (C S : Nat) (T : State) (g : JFrame) : Prop :=
  ∃ s₂ o, Steps p.tables e below (T.setTop g) s₂ ∧ s₂.status = .running ∧ Ended s₂ below o ∧ ∃ v L, o = .returned v ∧ Q v s₂.heap L ∧ FrameEnd s o s₂ L C S
abbrev Cmet (l : Launch) (Z : State) (y : MethodName) (bytes : ByteArray) (ml : Nat) (ret : Option FieldType) (ws : List Jvm.Cond) (rm : Room) (as : Array Value) (h0 : Heap) (Q : Option Value → Heap → List Loc → Prop) : Prop :=
  MetFree l y (head1 (Jvm.Cond.code y bytes ml ret :: ws) rm) (fun a U => a = as ∧ Z.Warmed39 U.vm ∧ U.heap = h0) (fun _ _ _ _ _ => True) (fun _ U o U' => ∃ v L, o = .returned v ∧ Q v U'.heap L ∧ FrameEnd U o U' L rm.cells rm.slots)
section Own
variable {p : Program} {l : Launch} {e : Env} {R : Room} {s : State} {m : MethodId} {args : Array Value} {below : List Frame} {meth : Method} {c : Code} {T T' : State} {locs : List Loc} {cells slots : Nat} {Q : Option Value → Heap → List Loc → Prop} {C S : Nat} {g g' : JFrame} {Z : State} {a0 : Array Value} {h : Heap}
theorem Fini.st (k : ∀ t, Steps p.tables e below (T'.setTop g') t → Steps p.tables e below (T.setTop g) t) (f : Fini p e below s Q C S T' g') : Fini p e below s Q C S T g := by
  obtain ⟨s2, o, h1, r⟩ := f
  exact ⟨s2, o, k _ h1, r⟩
theorem Fini.cast (q : g = g') (f : Fini p e below s Q C S T g') : Fini p e below s Q C S T g := q ▸ f
theorem Fini.retI (X : Stand p l e R s m args below meth c T locs cells slots) (hx : p.tables.exec = Jvm.exec) (hl : meth.locks = false) (hret : meth.sig.returnType = some .int) {pc : Nat} {Ls : Array Slot} {z : Int32} {rest : List Value} (hd : decode c.code pc = .ok (.ireturn, 1))
    (hC : cells ≤ C) (hS : slots ≤ S) (hQ : Q (some (.int z)) T.heap locs) : Fini p e below s Q C S T (mkF m pc Ls (.int z :: rest)) := by
  obtain ⟨fs, hr, hrun, hended, hW, hsame⟩ := X.leave (v := some (.int z)) (fun h => by rw [hret] at h; cases h) hl
  exact ⟨_, _, Jvm.RoadKit.retI X hx hret hd hr, hrun, hended, _, _, rfl, hQ, ⟨_, rfl⟩, hW, hsame.mono hC hS⟩
theorem Fini.retN (X : Stand p l e R s m args below meth c T locs cells slots) (hx : p.tables.exec = Jvm.exec) (hl : meth.locks = false) {t : FieldType} (hret : meth.sig.returnType = some t) (ht : t = .boolean ∨ t = .byte ∨ t = .char ∨ t = .short) {pc : Nat} {Ls : Array Slot} {z z' : Int32} {rest : List Value} (hd : decode c.code pc = .ok (.ireturn, 1))
    (hz : nar t z = z') (hC : cells ≤ C) (hS : slots ≤ S) (hQ : Q (some (.int z')) T.heap locs) : Fini p e below s Q C S T (mkF m pc Ls (.int z :: rest)) := by
  subst hz
  obtain ⟨fs, hr, hrun, hended, hW, hsame⟩ := X.leave (v := some (.int (nar t z))) (fun h => by rw [hret] at h; cases h) hl
  exact ⟨_, _, Jvm.RoadKit.retN X hx hret ht hd hr, hrun, hended, _, _, rfl, hQ, ⟨_, rfl⟩, hW, hsame.mono hC hS⟩
theorem Fini.retJ (X : Stand p l e R s m args below meth c T locs cells slots) (hx : p.tables.exec = Jvm.exec) (hl : meth.locks = false) (hret : meth.sig.returnType = some .long) {pc : Nat} {Ls : Array Slot} {z : Int64} {rest : List Value} (hd : decode c.code pc = .ok (.lreturn, 1))
    (hC : cells ≤ C) (hS : slots ≤ S) (hQ : Q (some (.long z)) T.heap locs) : Fini p e below s Q C S T (mkF m pc Ls (.long z :: rest)) := by
  obtain ⟨fs, hr, hrun, hended, hW, hsame⟩ := X.leave (v := some (.long z)) (fun h => by rw [hret] at h; cases h) hl
  exact ⟨_, _, retOut X hx hret rfl (Or.inr (Or.inl ⟨rfl, rfl, z, rfl⟩)) hd hr, hrun, hended, _, _, rfl, hQ, ⟨_, rfl⟩, hW, hsame.mono hC hS⟩
theorem Fini.retA (X : Stand p l e R s m args below meth c T locs cells slots) (hx : p.tables.exec = Jvm.exec) (hl : meth.locks = false) {t : FieldType} (hret : meth.sig.returnType = some t) (ht : t.isReference = true) {pc : Nat} {Ls : Array Slot} {w : Value} {rest : List Value} (hd : decode c.code pc = .ok (.areturn, 1)) (hw : w.isRef = true) (hn : narrow t w = w)
    (hC : cells ≤ C) (hS : slots ≤ S) (hQ : Q (some w) T.heap locs) : Fini p e below s Q C S T (mkF m pc Ls (w :: rest)) := by
  obtain ⟨fs, hr, hrun, hended, hW, hsame⟩ := X.leave (v := some w) (fun h => by rw [hret] at h; cases h) hl
  exact ⟨_, _, retOut X hx hret hn (Or.inr (Or.inr (Or.inr (Or.inr ⟨rfl, ht, hw⟩)))) hd hr, hrun, hended, _, _, rfl, hQ, ⟨_, rfl⟩, hW, hsame.mono hC hS⟩
theorem Fini.ret0 (X : Stand p l e R s m args below meth c T locs cells slots) (hx : p.tables.exec = Jvm.exec) (hl : meth.locks = false) (hret : meth.sig.returnType = none) {pc : Nat} {Ls : Array Slot} (hd : decode c.code pc = .ok (.return_, 1))
    (hC : cells ≤ C) (hS : slots ≤ S) (hQ : Q none T.heap locs) : Fini p e below s Q C S T (mkF m pc Ls []) := by
  obtain ⟨fs, hr, hrun, hended, hW, hsame⟩ := X.leave (v := none) (fun _ => rfl) hl
  exact ⟨_, _, X.returnOut hx hret hd hr, hrun, hended, _, _, rfl, hQ, ⟨_, rfl⟩, hW, hsame.mono hC hS⟩
/-- a static call by its contract -/
theorem callQ (X : Stand p l e R s m args below meth c T locs cells slots) (hx : p.tables.exec = Jvm.exec) (hZ : Z.Warmed39 s.vm) {own : String} {index : Nat} {y : MethodName} {bytes : ByteArray} {maxL : Nat} {ret : Option FieldType} {rm : Room} {as : Array Value}
    (hown : s.vm.findClass own = some m.cls) (w1 : (Cond.methodLink own index y).before a0 Z = true) (w2 : (Cond.static y).before a0 Z = true) (w3 : (Cond.initialized y.cls).before a0 Z = true) (w4 : (Cond.code y bytes maxL ret).before a0 Z = true)
    (hy : y.cls ≠ "java/lang/invoke/MethodHandle" ∧ y.cls ≠ "java/lang/invoke/VarHandle") (M : Cmet l Z y bytes maxL ret [] rm as h Q) (eT : T.heap = h) {W : Nat} (hf : rm.frames + 1 ≤ R.frames) (hl : W + (maxL + 11) + rm.locals ≤ R.locals) (hc : cells + rm.cells ≤ R.cells) (hs : slots + rm.slots ≤ R.slots)
    (hg : g.method = m) (hsize : g.locals.size = c.maxLocals) {argsL rest : List Value} (has : argsL.toArray = as) (hlen : ∀ sig, parseMethodDescriptor y.desc = some sig → argsL.length = sig.parameters.length)
    (hstack : g.stack = argsL.reverse ++ rest) (hW : 2 * g.monitorRoom + (rest.map fun v => v.category).sum ≤ W) (hdg : decode c.code g.pc = .ok (.invokestatic index, 3)) :
    ∃ (v : Option Value) (T' : State) (L : List Loc), Stand p l e R s m args below meth c T' (locs ++ L) (cells + rm.cells) (slots + rm.slots) ∧ Q v T'.heap L ∧
      ∀ target, Steps p.tables e below (T'.setTop { g with pc := g.pc + 3, stack := v.toList ++ rest }) target → Steps p.tables e below (T.setTop g) target := by
  obtain ⟨v, vm1, ⟨T', L', c', n'⟩, -, X', ⟨L, hQ, q1, q2, q3⟩, st⟩ := Jvm.LawKit.callS X hx hown (mvT hZ w1) (mvT hZ w2) (mvT hZ w3) (mvT hZ w4) hy (backOf (W := W) M hZ w4 w3 hf hl) hg hsize hlen hstack hW hdg (fun _ _ => ⟨has, eT, hc, hs⟩)
  dsimp only [Pt.U, Pt.locs, Pt.cells, Pt.slots] at X' q1 q2 q3 st hQ
  subst q1 q2 q3
  exact ⟨v, T', L, X', hQ, st⟩
/-- a static call that leaves the heap as it was -/
theorem pureS (X : Stand p l e R s m args below meth c T locs cells slots) (hx : p.tables.exec = Jvm.exec) (hZ : Z.Warmed39 s.vm) {own : String} {index : Nat} {y : MethodName} {bytes : ByteArray} {maxL : Nat} {ret : Option FieldType} {fr lo : Nat} {as : Array Value} {w : Option Value}
    (hown : s.vm.findClass own = some m.cls) (w1 : (Cond.methodLink own index y).before a0 Z = true) (w2 : (Cond.static y).before a0 Z = true) (w3 : (Cond.initialized y.cls).before a0 Z = true) (w4 : (Cond.code y bytes maxL ret).before a0 Z = true)
    (hy : y.cls ≠ "java/lang/invoke/MethodHandle" ∧ y.cls ≠ "java/lang/invoke/VarHandle") (M : Cmet l Z y bytes maxL ret [] ({ frames := fr, cells := 0, slots := 0, locals := lo } : Room) as h (fun v h' L => v = w ∧ h' = h ∧ L = [])) (eT : T.heap = h) {W : Nat} (hf : fr + 1 ≤ R.frames) (hl : W + (maxL + 11) + lo ≤ R.locals) (hc : cells ≤ R.cells) (hs : slots ≤ R.slots)
    (hg : g.method = m) (hsize : g.locals.size = c.maxLocals) {argsL rest : List Value} (has : argsL.toArray = as) (hlen : ∀ sig, parseMethodDescriptor y.desc = some sig → argsL.length = sig.parameters.length)
    (hstack : g.stack = argsL.reverse ++ rest) (hW : 2 * g.monitorRoom + (rest.map fun v => v.category).sum ≤ W) (hdg : decode c.code g.pc = .ok (.invokestatic index, 3)) :
    ∃ (T' : State), Stand p l e R s m args below meth c T' locs cells slots ∧ T'.heap = h ∧
      ∀ target, Steps p.tables e below (T'.setTop { g with pc := g.pc + 3, stack := w.toList ++ rest }) target → Steps p.tables e below (T.setTop g) target := by
  obtain ⟨v, T', L, X', ⟨rfl, q, rfl⟩, st⟩ := callQ X hx hZ hown w1 w2 w3 w4 hy M eT (W := W) hf hl hc hs hg hsize has hlen hstack hW hdg
  rw [List.append_nil] at X'
  exact ⟨T', X', q, st⟩
/-- an instance method by the contract of the body that the receiver's class selects -/
theorem callV (X : Stand p l e R s m args below meth c T locs cells slots) (hx : p.tables.exec = Jvm.exec) (hZ : Z.Warmed39 s.vm) {own C' : String} {index : Nat} {y z : MethodName} {bytes : ByteArray} {maxL : Nat} {ret : Option FieldType} {rm : Room} {as : Array Value} {b : Addr}
    (hown : s.vm.findClass own = some m.cls) (w1 : (Cond.methodLink own index y).before a0 Z = true) (w2 : (Cond.declares y).before a0 Z = true) (w3 : (Cond.selects C' y z).before a0 Z = true) (w4 : (Cond.instanceMethod z).before a0 Z = true) (w5 : (Cond.initialized z.cls).before a0 Z = true) (w6 : (Cond.code z bytes maxL ret).before a0 Z = true)
    (nf : NotFace s y) (E : Exa Z h b C') (hy : y.cls ≠ "java/lang/invoke/MethodHandle" ∧ y.cls ≠ "java/lang/invoke/VarHandle") (M : Cmet l Z z bytes maxL ret [] rm as h Q) (eT : T.heap = h) {W : Nat} (hf : rm.frames + 1 ≤ R.frames) (hl : W + (maxL + 11) + rm.locals ≤ R.locals) (hc : cells + rm.cells ≤ R.cells) (hs : slots + rm.slots ≤ R.slots)
    (hg : g.method = m) (hsize : g.locals.size = c.maxLocals) {argsL rest : List Value} (has : (Value.ref b :: argsL).toArray = as) (hlen : ∀ sig, parseMethodDescriptor y.desc = some sig → argsL.length = sig.parameters.length)
    (hstack : g.stack = argsL.reverse ++ .ref b :: rest) (hW : 2 * g.monitorRoom + (rest.map fun v => v.category).sum ≤ W) (hdg : decode c.code g.pc = .ok (.invokevirtual index, 3)) :
    ∃ (v : Option Value) (T' : State) (L : List Loc), Stand p l e R s m args below meth c T' (locs ++ L) (cells + rm.cells) (slots + rm.slots) ∧ Q v T'.heap L ∧
      ∀ target, Steps p.tables e below (T'.setTop { g with pc := g.pc + 3, stack := v.toList ++ rest }) target → Steps p.tables e below (T.setTop g) target := by
  obtain ⟨cB, kB, q1, q2, q3⟩ := isOf hZ eT E
  obtain ⟨v, vm1, ⟨T', L', c', n'⟩, -, X', ⟨L, hQ, r1, r2, r3⟩, st⟩ := X.virtualBack hx hown (mvT hZ w1) (mvT hZ w2) nf (mvT hZ w3) (mvT hZ w4) hy (backOf (W := W) M hZ w6 w5 hf hl) q1 q3 hg hsize (Steps.refl _) hlen hstack hW hdg (fun _ _ => ⟨has, eT, hc, hs⟩)
  dsimp only [Pt.U, Pt.locs, Pt.cells, Pt.slots] at X' r1 r2 r3 st hQ
  subst r1 r2 r3
  exact ⟨v, T', L, X', hQ, fun _ k => st.trans k⟩
theorem pureV (X : Stand p l e R s m args below meth c T locs cells slots) (hx : p.tables.exec = Jvm.exec) (hZ : Z.Warmed39 s.vm) {own C' : String} {index : Nat} {y z : MethodName} {bytes : ByteArray} {maxL : Nat} {ret : Option FieldType} {fr lo : Nat} {as : Array Value} {b : Addr} {w : Option Value}
    (hown : s.vm.findClass own = some m.cls) (w1 : (Cond.methodLink own index y).before a0 Z = true) (w2 : (Cond.declares y).before a0 Z = true) (w3 : (Cond.selects C' y z).before a0 Z = true) (w4 : (Cond.instanceMethod z).before a0 Z = true) (w5 : (Cond.initialized z.cls).before a0 Z = true) (w6 : (Cond.code z bytes maxL ret).before a0 Z = true)
    (nf : NotFace s y) (E : Exa Z h b C') (hy : y.cls ≠ "java/lang/invoke/MethodHandle" ∧ y.cls ≠ "java/lang/invoke/VarHandle") (M : Cmet l Z z bytes maxL ret [] ({ frames := fr, cells := 0, slots := 0, locals := lo } : Room) as h (fun v h' L => v = w ∧ h' = h ∧ L = [])) (eT : T.heap = h) {W : Nat} (hf : fr + 1 ≤ R.frames) (hl : W + (maxL + 11) + lo ≤ R.locals) (hc : cells ≤ R.cells) (hs : slots ≤ R.slots)
    (hg : g.method = m) (hsize : g.locals.size = c.maxLocals) {argsL rest : List Value} (has : (Value.ref b :: argsL).toArray = as) (hlen : ∀ sig, parseMethodDescriptor y.desc = some sig → argsL.length = sig.parameters.length)
    (hstack : g.stack = argsL.reverse ++ .ref b :: rest) (hW : 2 * g.monitorRoom + (rest.map fun v => v.category).sum ≤ W) (hdg : decode c.code g.pc = .ok (.invokevirtual index, 3)) :
    ∃ (T' : State), Stand p l e R s m args below meth c T' locs cells slots ∧ T'.heap = h ∧
      ∀ target, Steps p.tables e below (T'.setTop { g with pc := g.pc + 3, stack := w.toList ++ rest }) target → Steps p.tables e below (T.setTop g) target := by
  obtain ⟨v, T', L, X', ⟨rfl, q, rfl⟩, st⟩ := callV X hx hZ hown w1 w2 w3 w4 w5 w6 nf E hy M eT (W := W) hf hl hc hs hg hsize has hlen hstack hW hdg
  rw [List.append_nil] at X'
  exact ⟨T', X', q, st⟩
/-- a constructor by its contract -/
theorem callNew (X : Stand p l e R s m args below meth c T locs cells slots) (hx : p.tables.exec = Jvm.exec) (hZ : Z.Warmed39 s.vm) {own : String} {index : Nat} {y : MethodName} {bytes : ByteArray} {maxL : Nat} {rm : Room} {as : Array Value} {b : Addr}
    (hown : s.vm.findClass own = some m.cls) (hy1 : y.name = "<init>") (w1 : (Cond.methodLink own index y).before a0 Z = true) (w2 : (Cond.instanceMethod y).before a0 Z = true) (w3 : (Cond.initialized y.cls).before a0 Z = true) (w4 : (Cond.code y bytes maxL none).before a0 Z = true)
    (hy : y.cls ≠ "java/lang/invoke/MethodHandle" ∧ y.cls ≠ "java/lang/invoke/VarHandle") (M : Cmet l Z y bytes maxL none [] rm as h Q) (eT : T.heap = h) {W : Nat} (hf : rm.frames + 1 ≤ R.frames) (hl : W + (maxL + 11) + rm.locals ≤ R.locals) (hc : cells + rm.cells ≤ R.cells) (hs : slots + rm.slots ≤ R.slots)
    (hg : g.method = m) (hsize : g.locals.size = c.maxLocals) {argsL rest : List Value} (has : (Value.ref b :: argsL).toArray = as) (hlen : ∀ sig, parseMethodDescriptor y.desc = some sig → argsL.length = sig.parameters.length)
    (hstack : g.stack = argsL.reverse ++ .ref b :: rest) (hW : 2 * g.monitorRoom + (rest.map fun v => v.category).sum ≤ W) (hdg : decode c.code g.pc = .ok (.invokespecial index, 3)) :
    ∃ (v : Option Value) (T' : State) (L : List Loc), Stand p l e R s m args below meth c T' (locs ++ L) (cells + rm.cells) (slots + rm.slots) ∧ Q v T'.heap L ∧
      ∀ target, Steps p.tables e below (T'.setTop { g with pc := g.pc + 3, stack := v.toList ++ rest }) target → Steps p.tables e below (T.setTop g) target := by
  obtain ⟨v, vm1, ⟨T', L', c', n'⟩, -, X', ⟨L, hQ, r1, r2, r3⟩, st⟩ := X.specialBack hx hy1 hown (mvT hZ w1) (mvT hZ w2) (mvT hZ w4) hy (backOf (W := W) M hZ w4 w3 hf hl) hg hsize (Steps.refl _) hlen hstack hW hdg (fun _ _ => ⟨has, eT, hc, hs⟩)
  dsimp only [Pt.U, Pt.locs, Pt.cells, Pt.slots] at X' r1 r2 r3 st hQ
  subst r1 r2 r3
  exact ⟨v, T', L, X', hQ, fun _ k => st.trans k⟩
theorem nb0 : nar .boolean (0 : Int32) = 0 := by decide
theorem nb1 : nar .boolean (1 : Int32) = 1 := by decide
end Own
theorem d1_0 : decode prog_32_method_4_code 0 = .ok (.iload_n 0, 1) := by decide +kernel
theorem d1_1 : decode prog_32_method_4_code 1 = .ok (.iconst 3, 1) := by decide +kernel
theorem d1_2 : decode prog_32_method_4_code 2 = .ok (.irem, 1) := by decide +kernel
theorem d1_3 : decode prog_32_method_4_code 3 = .ok (.ifCond .ne 7, 3) := by decide +kernel
theorem d1_6 : decode prog_32_method_4_code 6 = .ok (.iconst 1, 1) := by decide +kernel
theorem d1_7 : decode prog_32_method_4_code 7 = .ok (.goto 4, 3) := by decide +kernel
theorem d1_10 : decode prog_32_method_4_code 10 = .ok (.iconst 0, 1) := by decide +kernel
theorem d1_11 : decode prog_32_method_4_code 11 = .ok (.ireturn, 1) := by decide +kernel
theorem pn_0 : plainName "com/example/framewire/framewire/bench/JcpStream" = true := by first | (simp [plainName, overriddenIn]; done) | decide +kernel
theorem ef1 (m : MethodId) (x0 : Int32) : entryFrame m #[(.int x0)] 1 = mkF m 0 #[.val (.int x0)] [] := by first | (simp [entryFrame, mkF, argsToLocals, Value.category]; done) | rfl
def f1 (p0 : Int32) : Int32 := (if (p0 % (3 : Int32)) = (0 : Int32) then (1 : Int32) else (0 : Int32))
set_option maxRecDepth 65536 in
set_option maxHeartbeats 40000000 in
theorem rm1 (l : Launch) (Z : State) (a0 : Array Value) (hw : ∀ d ∈ tables_1, d.before a0 Z = true) (ws : List Jvm.Cond) (p0 : Int32) (h0 : Heap) :
    Cmet l Z (⟨"com/example/framewire/framewire/bench/JcpStream", "isRequest", "(I)Z"⟩ : MethodName) prog_32_method_4_code 1 (some .boolean) ws ({ frames := 0, cells := 0, slots := 0, locals := 0 } : Room) #[(.int p0)] h0 (fun v h' L => v = some (.int (f1 p0)) ∧ h' = h0 ∧ L = []) := by
  refine MetFree.of_bodySF (plainFor_of_name pn_0) hisR ?_
  intro p e s m args below meth c s₁ Bd hml0 hP hK
  obtain ⟨rfl, hZ, hh⟩ := hP
  have hx := Bd.exec
  have hlk : meth.locks = false := BodyLoose.notSynchronized Bd
  have hby := Bd.bytes
  have hml : c.maxLocals = 1 := hml0
  have hown : s.vm.findClass "com/example/framewire/framewire/bench/JcpStream" = some m.cls := findClass_of_methodNamed Bd.named
  have hnm := (name_of_methodNamed Bd.named Bd.method).1
  have X0 : Stand p l e ({ frames := 0, cells := 0, slots := 0, locals := 0 } : Room) s m #[(.int p0)] below meth c s₁ [] 0 0 := Stand.of_body Bd
  have e0 : s₁.heap = h0 := by rw [← hh, Bd.state]; rfl
  have hv0 : f1 p0 = f1 p0 := rfl
  show Fini p e below s (fun v h' L => v = some (.int (f1 p0)) ∧ h' = h0 ∧ L = []) _ _ s₁ (entryFrame m #[(.int p0)] 1)
  refine Fini.cast (ef1 m p0) ?_
  show Fini p e below s _ _ _ s₁ (mkF m 0 #[.val (.int p0)] [])
  refine Fini.st (fun _ k => XS.iloadN X0.here hx rfl (hb hby d1_0) rfl k) ?_
  show Fini p e below s _ _ _ s₁ (mkF m 1 #[.val (.int p0)] [(.int p0)])
  refine Fini.st (fun _ k => XS.iconst X0.here hx rfl (hb hby d1_1) k) ?_
  show Fini p e below s _ _ _ s₁ (mkF m 2 #[.val (.int p0)] [(.int (3 : Int32)), (.int p0)])
  refine Fini.st (fun _ k => iremM X0 hx rfl (hb hby d1_2) rfl (by decide) k) ?_
  show Fini p e below s _ _ _ s₁ (mkF m 3 #[.val (.int p0)] [(.int (p0 % (3 : Int32)))])
  by_cases c1 : (p0 % (3 : Int32)) = (0 : Int32)
  · have hv2 := hv0.trans (if_pos c1)
    refine Fini.st (fun _ k => XS.ifNo X0.here hx rfl (hb hby d1_3) rfl (XT.i0_ne_f c1) k) ?_
    show Fini p e below s _ _ _ s₁ (mkF m 6 #[.val (.int p0)] [])
    refine Fini.st (fun _ k => XS.iconst X0.here hx rfl (hb hby d1_6) k) ?_
    show Fini p e below s _ _ _ s₁ (mkF m 7 #[.val (.int p0)] [(.int (1 : Int32))])
    refine Fini.st (fun _ k => XS.goto X0.here hx rfl (pc0 := 7) (pc' := 11) rfl (hb hby d1_7) (by decide) (by decide) k) ?_
    show Fini p e below s _ _ _ s₁ (mkF m 11 #[.val (.int p0)] [(.int (1 : Int32))])
    exact Fini.retN X0 hx hlk (t := .boolean) Bd.returns (by simp) (hb hby d1_11) nb1 (by decide) (by decide) ⟨congrArg (fun z => some (Value.int z)) hv2.symm, e0, rfl⟩
  · have hv3 := hv0.trans (if_neg c1)
    refine Fini.st (fun _ k => XS.ifYes X0.here hx rfl (pc0 := 3) (pc' := 10) rfl (hb hby d1_3) rfl (XT.i0_ne_t c1) (by decide) (by decide) k) ?_
    show Fini p e below s _ _ _ s₁ (mkF m 10 #[.val (.int p0)] [])
    refine Fini.st (fun _ k => XS.iconst X0.here hx rfl (hb hby d1_10) k) ?_
    show Fini p e below s _ _ _ s₁ (mkF m 11 #[.val (.int p0)] [(.int (0 : Int32))])
    exact Fini.retN X0 hx hlk (t := .boolean) Bd.returns (by simp) (hb hby d1_11) nb0 (by decide) (by decide) ⟨congrArg (fun z => some (Value.int z)) hv3.symm, e0, rfl⟩
theorem pd_0 : parseMethodDescriptor "(I)Z" = some ⟨[.int], some .boolean⟩ := by decide +kernel
theorem pn_1 : plainName "com/example/framewire/framewire/bench/JcpStreamIsRequestPinLaw" = true := by first | (simp [plainName, overriddenIn]; done) | decide +kernel
theorem ef0 (m : MethodId) (x0 : Int32) : entryFrame m #[(.int x0)] maxLocals = mkF m 0 #[.val (.int x0), .unset, .unset, .unset] [] := by first | (simp [entryFrame, mkF, argsToLocals, Value.category, maxLocals]; done) | rfl
def f0_69 (p0 : Int32) (z69_l3 : Int32) (z14_s0 : Int32) : Int32 := (if z69_l3 = (1 : Int32) then (if (f1 (0 : Int32)) = (0 : Int32) then (0 : Int32) else (1 : Int32)) else (0 : Int32))
def f0_56 (p0 : Int32) (z56_l3 : Int32) (z14_s0 : Int32) : Int32 := (if (f1 ((p0 &&& (1073741823 : Int32)) + (2 : Int32))) = (0 : Int32) then (f0_69 p0 z56_l3 z14_s0) else (f0_69 p0 (z56_l3 + (1 : Int32)) z14_s0))
def f0_43 (p0 : Int32) (z43_l3 : Int32) (z14_s0 : Int32) : Int32 := (if (f1 ((p0 &&& (1073741823 : Int32)) + (1 : Int32))) = (0 : Int32) then (f0_56 p0 z43_l3 z14_s0) else (f0_56 p0 (z43_l3 + (1 : Int32)) z14_s0))
def f0_14 (p0 : Int32) (z14_s0 : Int32) : Int32 := (if (f1 p0) = z14_s0 then (if (f1 (p0 &&& (1073741823 : Int32))) = (0 : Int32) then (f0_43 p0 (0 : Int32) z14_s0) else (f0_43 p0 (1 : Int32) z14_s0)) else (0 : Int32))
def f0 (p0 : Int32) : Int32 := (if ((p0 / (3 : Int32)) * (3 : Int32)) = p0 then (f0_14 p0 (1 : Int32)) else (f0_14 p0 (0 : Int32)))
set_option maxRecDepth 65536 in
set_option maxHeartbeats 40000000 in
theorem rm0 (l : Launch) (Z : State) (a0 : Array Value) (hw : ∀ d ∈ tables_1, d.before a0 Z = true) (ws : List Jvm.Cond) (p0 : Int32) (h0 : Heap) :
    Cmet l Z x code maxLocals ret ws room_1 #[(.int p0)] h0 (fun v h' L => v = some (.int (f0 p0)) ∧ h' = h0 ∧ L = []) := by
  refine MetFree.of_bodySF (plainFor_of_name pn_1) hisR ?_
  intro p e s m args below meth c s₁ Bd hml0 hP hK
  obtain ⟨rfl, hZ, hh⟩ := hP
  have hx := Bd.exec
  have hlk : meth.locks = false := BodyLoose.notSynchronized Bd
  have hby := Bd.bytes
  have hml : c.maxLocals = 4 := hml0
  have hown : s.vm.findClass "com/example/framewire/framewire/bench/JcpStreamIsRequestPinLaw" = some m.cls := findClass_of_methodNamed Bd.named
  have hnm := (name_of_methodNamed Bd.named Bd.method).1
  have X0 : Stand p l e room_1 s m #[(.int p0)] below meth c s₁ [] 0 0 := Stand.of_body Bd
  have e0 : s₁.heap = h0 := by rw [← hh, Bd.state]; rfl
  have hv0 : f0 p0 = f0 p0 := rfl
  have B69 : ∀ (T_69 : State) (X_69 : Stand p l e room_1 s m #[(.int p0)] below meth c T_69 [] 0 0) (e_69 : T_69.heap = h0) (z69_l3 : Int32) (z14_s0 : Int32), f0 p0 = f0_69 p0 z69_l3 z14_s0 → Fini p e below s (fun v h' L => v = some (.int (f0 p0)) ∧ h' = h0 ∧ L = []) (Room.cells room_1) (Room.slots room_1) T_69 (mkF m 69 #[.val (.int p0), .val (.int z14_s0), .val (.int (p0 &&& (1073741823 : Int32))), .val (.int z69_l3)] []) := by
    intro T_69 X_69 e_69 z69_l3 z14_s0 hv_69
    refine Fini.st (fun _ k => XS.iloadN X_69.here hx rfl (hb hby at_69) rfl k) ?_
    show Fini p e below s _ _ _ T_69 (mkF m 70 #[.val (.int p0), .val (.int z14_s0), .val (.int (p0 &&& (1073741823 : Int32))), .val (.int z69_l3)] [(.int z69_l3)])
    refine Fini.st (fun _ k => XS.iconst X_69.here hx rfl (hb hby at_70) k) ?_
    show Fini p e below s _ _ _ T_69 (mkF m 71 #[.val (.int p0), .val (.int z14_s0), .val (.int (p0 &&& (1073741823 : Int32))), .val (.int z69_l3)] [(.int (1 : Int32)), (.int z69_l3)])
    by_cases c20 : z69_l3 = (1 : Int32)
    · have hv21 := hv_69.trans (if_pos c20)
      refine Fini.st (fun _ k => XS.icmpNo X_69.here hx rfl (hb hby at_71) rfl (XT.ii_ne_f c20) k) ?_
      show Fini p e below s _ _ _ T_69 (mkF m 74 #[.val (.int p0), .val (.int z14_s0), .val (.int (p0 &&& (1073741823 : Int32))), .val (.int z69_l3)] [])
      refine Fini.st (fun _ k => XS.iconst X_69.here hx rfl (hb hby at_74) k) ?_
      show Fini p e below s _ _ _ T_69 (mkF m 75 #[.val (.int p0), .val (.int z14_s0), .val (.int (p0 &&& (1073741823 : Int32))), .val (.int z69_l3)] [(.int (0 : Int32))])
      obtain ⟨T22, X22, e22, st22⟩ := pureS X_69 hx hZ hown (hw _ (List.mem_of_getElem? (i := 0) rfl)) (hw _ (List.mem_of_getElem? (i := 1) rfl)) (hw _ (List.mem_of_getElem? (i := 2) rfl)) (hw _ (List.mem_of_getElem? (i := 3) rfl)) (by decide) (rm1 l Z a0 hw [] (0 : Int32) h0) e_69 (W := 0) (by decide) (by decide) (by decide) (by decide) (g := (mkF m 75 #[.val (.int p0), .val (.int z14_s0), .val (.int (p0 &&& (1073741823 : Int32))), .val (.int z69_l3)] [(.int (0 : Int32))])) rfl (by rw [hml]; rfl) (argsL := [(.int (0 : Int32))]) (rest := []) rfl (lenOf pd_0 rfl) rfl (by show 2 * 0 + _ ≤ _; exact Nat.le_of_eq rfl) (hb hby at_75)
      refine Fini.st st22 ?_
      show Fini p e below s _ _ _ T22 (mkF m 78 #[.val (.int p0), .val (.int z14_s0), .val (.int (p0 &&& (1073741823 : Int32))), .val (.int z69_l3)] [(.int (f1 (0 : Int32)))])
      by_cases c23 : (f1 (0 : Int32)) = (0 : Int32)
      · have hv24 := hv21.trans (if_pos c23)
        refine Fini.st (fun _ k => XS.ifYes X22.here hx rfl (pc0 := 78) (pc' := 85) rfl (hb hby at_78) rfl (XT.i0_eq_t c23) (by decide) (by decide) k) ?_
        show Fini p e below s _ _ _ T22 (mkF m 85 #[.val (.int p0), .val (.int z14_s0), .val (.int (p0 &&& (1073741823 : Int32))), .val (.int z69_l3)] [])
        refine Fini.st (fun _ k => XS.iconst X22.here hx rfl (hb hby at_85) k) ?_
        show Fini p e below s _ _ _ T22 (mkF m 86 #[.val (.int p0), .val (.int z14_s0), .val (.int (p0 &&& (1073741823 : Int32))), .val (.int z69_l3)] [(.int (0 : Int32))])
        exact Fini.retN X22 hx hlk (t := .boolean) Bd.returns (by simp) (hb hby at_86) nb0 (by decide) (by decide) ⟨congrArg (fun z => some (Value.int z)) hv24.symm, e22, rfl⟩
      · have hv25 := hv21.trans (if_neg c23)
        refine Fini.st (fun _ k => XS.ifNo X22.here hx rfl (hb hby at_78) rfl (XT.i0_eq_f c23) k) ?_
        show Fini p e below s _ _ _ T22 (mkF m 81 #[.val (.int p0), .val (.int z14_s0), .val (.int (p0 &&& (1073741823 : Int32))), .val (.int z69_l3)] [])
        refine Fini.st (fun _ k => XS.iconst X22.here hx rfl (hb hby at_81) k) ?_
        show Fini p e below s _ _ _ T22 (mkF m 82 #[.val (.int p0), .val (.int z14_s0), .val (.int (p0 &&& (1073741823 : Int32))), .val (.int z69_l3)] [(.int (1 : Int32))])
        refine Fini.st (fun _ k => XS.goto X22.here hx rfl (pc0 := 82) (pc' := 86) rfl (hb hby at_82) (by decide) (by decide) k) ?_
        show Fini p e below s _ _ _ T22 (mkF m 86 #[.val (.int p0), .val (.int z14_s0), .val (.int (p0 &&& (1073741823 : Int32))), .val (.int z69_l3)] [(.int (1 : Int32))])
        exact Fini.retN X22 hx hlk (t := .boolean) Bd.returns (by simp) (hb hby at_86) nb1 (by decide) (by decide) ⟨congrArg (fun z => some (Value.int z)) hv25.symm, e22, rfl⟩
    · have hv26 := hv_69.trans (if_neg c20)
      refine Fini.st (fun _ k => XS.icmpYes X_69.here hx rfl (pc0 := 71) (pc' := 85) rfl (hb hby at_71) rfl (XT.ii_ne_t c20) (by decide) (by decide) k) ?_
      show Fini p e below s _ _ _ T_69 (mkF m 85 #[.val (.int p0), .val (.int z14_s0), .val (.int (p0 &&& (1073741823 : Int32))), .val (.int z69_l3)] [])
      refine Fini.st (fun _ k => XS.iconst X_69.here hx rfl (hb hby at_85) k) ?_
      show Fini p e below s _ _ _ T_69 (mkF m 86 #[.val (.int p0), .val (.int z14_s0), .val (.int (p0 &&& (1073741823 : Int32))), .val (.int z69_l3)] [(.int (0 : Int32))])
      exact Fini.retN X_69 hx hlk (t := .boolean) Bd.returns (by simp) (hb hby at_86) nb0 (by decide) (by decide) ⟨congrArg (fun z => some (Value.int z)) hv26.symm, e_69, rfl⟩
  have B56 : ∀ (T_56 : State) (X_56 : Stand p l e room_1 s m #[(.int p0)] below meth c T_56 [] 0 0) (e_56 : T_56.heap = h0) (z56_l3 : Int32) (z14_s0 : Int32), f0 p0 = f0_56 p0 z56_l3 z14_s0 → Fini p e below s (fun v h' L => v = some (.int (f0 p0)) ∧ h' = h0 ∧ L = []) (Room.cells room_1) (Room.slots room_1) T_56 (mkF m 56 #[.val (.int p0), .val (.int z14_s0), .val (.int (p0 &&& (1073741823 : Int32))), .val (.int z56_l3)] []) := by
    intro T_56 X_56 e_56 z56_l3 z14_s0 hv_56
    refine Fini.st (fun _ k => XS.iloadN X_56.here hx rfl (hb hby at_56) rfl k) ?_
    show Fini p e below s _ _ _ T_56 (mkF m 57 #[.val (.int p0), .val (.int z14_s0), .val (.int (p0 &&& (1073741823 : Int32))), .val (.int z56_l3)] [(.int (p0 &&& (1073741823 : Int32)))])
    refine Fini.st (fun _ k => XS.iconst X_56.here hx rfl (hb hby at_57) k) ?_
    show Fini p e below s _ _ _ T_56 (mkF m 58 #[.val (.int p0), .val (.int z14_s0), .val (.int (p0 &&& (1073741823 : Int32))), .val (.int z56_l3)] [(.int (2 : Int32)), (.int (p0 &&& (1073741823 : Int32)))])
    refine Fini.st (fun _ k => XS.iadd X_56.here hx rfl (hb hby at_58) rfl k) ?_
    show Fini p e below s _ _ _ T_56 (mkF m 59 #[.val (.int p0), .val (.int z14_s0), .val (.int (p0 &&& (1073741823 : Int32))), .val (.int z56_l3)] [(.int ((p0 &&& (1073741823 : Int32)) + (2 : Int32)))])
    obtain ⟨T16, X16, e16, st16⟩ := pureS X_56 hx hZ hown (hw _ (List.mem_of_getElem? (i := 0) rfl)) (hw _ (List.mem_of_getElem? (i := 1) rfl)) (hw _ (List.mem_of_getElem? (i := 2) rfl)) (hw _ (List.mem_of_getElem? (i := 3) rfl)) (by decide) (rm1 l Z a0 hw [] ((p0 &&& (1073741823 : Int32)) + (2 : Int32)) h0) e_56 (W := 0) (by decide) (by decide) (by decide) (by decide) (g := (mkF m 59 #[.val (.int p0), .val (.int z14_s0), .val (.int (p0 &&& (1073741823 : Int32))), .val (.int z56_l3)] [(.int ((p0 &&& (1073741823 : Int32)) + (2 : Int32)))])) rfl (by rw [hml]; rfl) (argsL := [(.int ((p0 &&& (1073741823 : Int32)) + (2 : Int32)))]) (rest := []) rfl (lenOf pd_0 rfl) rfl (by show 2 * 0 + _ ≤ _; exact Nat.le_of_eq rfl) (hb hby at_59)
    refine Fini.st st16 ?_
    show Fini p e below s _ _ _ T16 (mkF m 62 #[.val (.int p0), .val (.int z14_s0), .val (.int (p0 &&& (1073741823 : Int32))), .val (.int z56_l3)] [(.int (f1 ((p0 &&& (1073741823 : Int32)) + (2 : Int32))))])
    by_cases c17 : (f1 ((p0 &&& (1073741823 : Int32)) + (2 : Int32))) = (0 : Int32)
    · have hv18 := hv_56.trans (if_pos c17)
      refine Fini.st (fun _ k => XS.ifYes X16.here hx rfl (pc0 := 62) (pc' := 69) rfl (hb hby at_62) rfl (XT.i0_eq_t c17) (by decide) (by decide) k) ?_
      show Fini p e below s _ _ _ T16 (mkF m 69 #[.val (.int p0), .val (.int z14_s0), .val (.int (p0 &&& (1073741823 : Int32))), .val (.int z56_l3)] [])
      exact B69 T16 X16 e16 z56_l3 z14_s0 hv18
    · have hv19 := hv_56.trans (if_neg c17)
      refine Fini.st (fun _ k => XS.ifNo X16.here hx rfl (hb hby at_62) rfl (XT.i0_eq_f c17) k) ?_
      show Fini p e below s _ _ _ T16 (mkF m 65 #[.val (.int p0), .val (.int z14_s0), .val (.int (p0 &&& (1073741823 : Int32))), .val (.int z56_l3)] [])
      refine Fini.st (fun _ k => XS.iloadN X16.here hx rfl (hb hby at_65) rfl k) ?_
      show Fini p e below s _ _ _ T16 (mkF m 66 #[.val (.int p0), .val (.int z14_s0), .val (.int (p0 &&& (1073741823 : Int32))), .val (.int z56_l3)] [(.int z56_l3)])
      refine Fini.st (fun _ k => XS.iconst X16.here hx rfl (hb hby at_66) k) ?_
      show Fini p e below s _ _ _ T16 (mkF m 67 #[.val (.int p0), .val (.int z14_s0), .val (.int (p0 &&& (1073741823 : Int32))), .val (.int z56_l3)] [(.int (1 : Int32)), (.int z56_l3)])
      refine Fini.st (fun _ k => XS.iadd X16.here hx rfl (hb hby at_67) rfl k) ?_
      show Fini p e below s _ _ _ T16 (mkF m 68 #[.val (.int p0), .val (.int z14_s0), .val (.int (p0 &&& (1073741823 : Int32))), .val (.int z56_l3)] [(.int (z56_l3 + (1 : Int32)))])
      refine Fini.st (fun _ k => XS.istoreN X16.here hx rfl (hb hby at_68) rfl (l' := #[.val (.int p0), .val (.int z14_s0), .val (.int (p0 &&& (1073741823 : Int32))), .val (.int (z56_l3 + (1 : Int32)))]) rfl k) ?_
      show Fini p e below s _ _ _ T16 (mkF m 69 #[.val (.int p0), .val (.int z14_s0), .val (.int (p0 &&& (1073741823 : Int32))), .val (.int (z56_l3 + (1 : Int32)))] [])
      exact B69 T16 X16 e16 (z56_l3 + (1 : Int32)) z14_s0 hv19
  have B43 : ∀ (T_43 : State) (X_43 : Stand p l e room_1 s m #[(.int p0)] below meth c T_43 [] 0 0) (e_43 : T_43.heap = h0) (z43_l3 : Int32) (z14_s0 : Int32), f0 p0 = f0_43 p0 z43_l3 z14_s0 → Fini p e below s (fun v h' L => v = some (.int (f0 p0)) ∧ h' = h0 ∧ L = []) (Room.cells room_1) (Room.slots room_1) T_43 (mkF m 43 #[.val (.int p0), .val (.int z14_s0), .val (.int (p0 &&& (1073741823 : Int32))), .val (.int z43_l3)] []) := by
    intro T_43 X_43 e_43 z43_l3 z14_s0 hv_43
    refine Fini.st (fun _ k => XS.iloadN X_43.here hx rfl (hb hby at_43) rfl k) ?_
    show Fini p e below s _ _ _ T_43 (mkF m 44 #[.val (.int p0), .val (.int z14_s0), .val (.int (p0 &&& (1073741823 : Int32))), .val (.int z43_l3)] [(.int (p0 &&& (1073741823 : Int32)))])
    refine Fini.st (fun _ k => XS.iconst X_43.here hx rfl (hb hby at_44) k) ?_
    show Fini p e below s _ _ _ T_43 (mkF m 45 #[.val (.int p0), .val (.int z14_s0), .val (.int (p0 &&& (1073741823 : Int32))), .val (.int z43_l3)] [(.int (1 : Int32)), (.int (p0 &&& (1073741823 : Int32)))])
    refine Fini.st (fun _ k => XS.iadd X_43.here hx rfl (hb hby at_45) rfl k) ?_
    show Fini p e below s _ _ _ T_43 (mkF m 46 #[.val (.int p0), .val (.int z14_s0), .val (.int (p0 &&& (1073741823 : Int32))), .val (.int z43_l3)] [(.int ((p0 &&& (1073741823 : Int32)) + (1 : Int32)))])
    obtain ⟨T12, X12, e12, st12⟩ := pureS X_43 hx hZ hown (hw _ (List.mem_of_getElem? (i := 0) rfl)) (hw _ (List.mem_of_getElem? (i := 1) rfl)) (hw _ (List.mem_of_getElem? (i := 2) rfl)) (hw _ (List.mem_of_getElem? (i := 3) rfl)) (by decide) (rm1 l Z a0 hw [] ((p0 &&& (1073741823 : Int32)) + (1 : Int32)) h0) e_43 (W := 0) (by decide) (by decide) (by decide) (by decide) (g := (mkF m 46 #[.val (.int p0), .val (.int z14_s0), .val (.int (p0 &&& (1073741823 : Int32))), .val (.int z43_l3)] [(.int ((p0 &&& (1073741823 : Int32)) + (1 : Int32)))])) rfl (by rw [hml]; rfl) (argsL := [(.int ((p0 &&& (1073741823 : Int32)) + (1 : Int32)))]) (rest := []) rfl (lenOf pd_0 rfl) rfl (by show 2 * 0 + _ ≤ _; exact Nat.le_of_eq rfl) (hb hby at_46)
    refine Fini.st st12 ?_
    show Fini p e below s _ _ _ T12 (mkF m 49 #[.val (.int p0), .val (.int z14_s0), .val (.int (p0 &&& (1073741823 : Int32))), .val (.int z43_l3)] [(.int (f1 ((p0 &&& (1073741823 : Int32)) + (1 : Int32))))])
    by_cases c13 : (f1 ((p0 &&& (1073741823 : Int32)) + (1 : Int32))) = (0 : Int32)
    · have hv14 := hv_43.trans (if_pos c13)
      refine Fini.st (fun _ k => XS.ifYes X12.here hx rfl (pc0 := 49) (pc' := 56) rfl (hb hby at_49) rfl (XT.i0_eq_t c13) (by decide) (by decide) k) ?_
      show Fini p e below s _ _ _ T12 (mkF m 56 #[.val (.int p0), .val (.int z14_s0), .val (.int (p0 &&& (1073741823 : Int32))), .val (.int z43_l3)] [])
      exact B56 T12 X12 e12 z43_l3 z14_s0 hv14
    · have hv15 := hv_43.trans (if_neg c13)
      refine Fini.st (fun _ k => XS.ifNo X12.here hx rfl (hb hby at_49) rfl (XT.i0_eq_f c13) k) ?_
      show Fini p e below s _ _ _ T12 (mkF m 52 #[.val (.int p0), .val (.int z14_s0), .val (.int (p0 &&& (1073741823 : Int32))), .val (.int z43_l3)] [])
      refine Fini.st (fun _ k => XS.iloadN X12.here hx rfl (hb hby at_52) rfl k) ?_
      show Fini p e below s _ _ _ T12 (mkF m 53 #[.val (.int p0), .val (.int z14_s0), .val (.int (p0 &&& (1073741823 : Int32))), .val (.int z43_l3)] [(.int z43_l3)])
      refine Fini.st (fun _ k => XS.iconst X12.here hx rfl (hb hby at_53) k) ?_
      show Fini p e below s _ _ _ T12 (mkF m 54 #[.val (.int p0), .val (.int z14_s0), .val (.int (p0 &&& (1073741823 : Int32))), .val (.int z43_l3)] [(.int (1 : Int32)), (.int z43_l3)])
      refine Fini.st (fun _ k => XS.iadd X12.here hx rfl (hb hby at_54) rfl k) ?_
      show Fini p e below s _ _ _ T12 (mkF m 55 #[.val (.int p0), .val (.int z14_s0), .val (.int (p0 &&& (1073741823 : Int32))), .val (.int z43_l3)] [(.int (z43_l3 + (1 : Int32)))])
      refine Fini.st (fun _ k => XS.istoreN X12.here hx rfl (hb hby at_55) rfl (l' := #[.val (.int p0), .val (.int z14_s0), .val (.int (p0 &&& (1073741823 : Int32))), .val (.int (z43_l3 + (1 : Int32)))]) rfl k) ?_
      show Fini p e below s _ _ _ T12 (mkF m 56 #[.val (.int p0), .val (.int z14_s0), .val (.int (p0 &&& (1073741823 : Int32))), .val (.int (z43_l3 + (1 : Int32)))] [])
      exact B56 T12 X12 e12 (z43_l3 + (1 : Int32)) z14_s0 hv15
  have B14 : ∀ (T_14 : State) (X_14 : Stand p l e room_1 s m #[(.int p0)] below meth c T_14 [] 0 0) (e_14 : T_14.heap = h0) (z14_s0 : Int32), f0 p0 = f0_14 p0 z14_s0 → Fini p e below s (fun v h' L => v = some (.int (f0 p0)) ∧ h' = h0 ∧ L = []) (Room.cells room_1) (Room.slots room_1) T_14 (mkF m 14 #[.val (.int p0), .unset, .unset, .unset] [(.int z14_s0)]) := by
    intro T_14 X_14 e_14 z14_s0 hv_14
    refine Fini.st (fun _ k => XS.istoreN X_14.here hx rfl (hb hby at_14) rfl (l' := #[.val (.int p0), .val (.int z14_s0), .unset, .unset]) rfl k) ?_
    show Fini p e below s _ _ _ T_14 (mkF m 15 #[.val (.int p0), .val (.int z14_s0), .unset, .unset] [])
    refine Fini.st (fun _ k => XS.iloadN X_14.here hx rfl (hb hby at_15) rfl k) ?_
    show Fini p e below s _ _ _ T_14 (mkF m 16 #[.val (.int p0), .val (.int z14_s0), .unset, .unset] [(.int p0)])
    obtain ⟨T4, X4, e4, st4⟩ := pureS X_14 hx hZ hown (hw _ (List.mem_of_getElem? (i := 0) rfl)) (hw _ (List.mem_of_getElem? (i := 1) rfl)) (hw _ (List.mem_of_getElem? (i := 2) rfl)) (hw _ (List.mem_of_getElem? (i := 3) rfl)) (by decide) (rm1 l Z a0 hw [] p0 h0) e_14 (W := 0) (by decide) (by decide) (by decide) (by decide) (g := (mkF m 16 #[.val (.int p0), .val (.int z14_s0), .unset, .unset] [(.int p0)])) rfl (by rw [hml]; rfl) (argsL := [(.int p0)]) (rest := []) rfl (lenOf pd_0 rfl) rfl (by show 2 * 0 + _ ≤ _; exact Nat.le_of_eq rfl) (hb hby at_16)
    refine Fini.st st4 ?_
    show Fini p e below s _ _ _ T4 (mkF m 19 #[.val (.int p0), .val (.int z14_s0), .unset, .unset] [(.int (f1 p0))])
    refine Fini.st (fun _ k => XS.iloadN X4.here hx rfl (hb hby at_19) rfl k) ?_
    show Fini p e below s _ _ _ T4 (mkF m 20 #[.val (.int p0), .val (.int z14_s0), .unset, .unset] [(.int z14_s0), (.int (f1 p0))])
    by_cases c5 : (f1 p0) = z14_s0
    · have hv6 := hv_14.trans (if_pos c5)
      refine Fini.st (fun _ k => XS.icmpYes X4.here hx rfl (pc0 := 20) (pc' := 25) rfl (hb hby at_20) rfl (XT.ii_eq_t c5) (by decide) (by decide) k) ?_
      show Fini p e below s _ _ _ T4 (mkF m 25 #[.val (.int p0), .val (.int z14_s0), .unset, .unset] [])
      refine Fini.st (fun _ k => XS.iloadN X4.here hx rfl (hb hby at_25) rfl k) ?_
      show Fini p e below s _ _ _ T4 (mkF m 26 #[.val (.int p0), .val (.int z14_s0), .unset, .unset] [(.int p0)])
      refine Fini.st (fun _ k => X4.ldcI hx hown (mvT hZ (hw _ (List.mem_of_getElem? (i := 4) rfl))) rfl (hb hby at_26) k) ?_
      show Fini p e below s _ _ _ T4 (mkF m 28 #[.val (.int p0), .val (.int z14_s0), .unset, .unset] [(.int (1073741823 : Int32)), (.int p0)])
      refine Fini.st (fun _ k => XS.iand X4.here hx rfl (hb hby at_28) rfl k) ?_
      show Fini p e below s _ _ _ T4 (mkF m 29 #[.val (.int p0), .val (.int z14_s0), .unset, .unset] [(.int (p0 &&& (1073741823 : Int32)))])
      refine Fini.st (fun _ k => XS.istoreN X4.here hx rfl (hb hby at_29) rfl (l' := #[.val (.int p0), .val (.int z14_s0), .val (.int (p0 &&& (1073741823 : Int32))), .unset]) rfl k) ?_
      show Fini p e below s _ _ _ T4 (mkF m 30 #[.val (.int p0), .val (.int z14_s0), .val (.int (p0 &&& (1073741823 : Int32))), .unset] [])
      refine Fini.st (fun _ k => XS.iconst X4.here hx rfl (hb hby at_30) k) ?_
      show Fini p e below s _ _ _ T4 (mkF m 31 #[.val (.int p0), .val (.int z14_s0), .val (.int (p0 &&& (1073741823 : Int32))), .unset] [(.int (0 : Int32))])
      refine Fini.st (fun _ k => XS.istoreN X4.here hx rfl (hb hby at_31) rfl (l' := #[.val (.int p0), .val (.int z14_s0), .val (.int (p0 &&& (1073741823 : Int32))), .val (.int (0 : Int32))]) rfl k) ?_
      show Fini p e below s _ _ _ T4 (mkF m 32 #[.val (.int p0), .val (.int z14_s0), .val (.int (p0 &&& (1073741823 : Int32))), .val (.int (0 : Int32))] [])
      refine Fini.st (fun _ k => XS.iloadN X4.here hx rfl (hb hby at_32) rfl k) ?_
      show Fini p e below s _ _ _ T4 (mkF m 33 #[.val (.int p0), .val (.int z14_s0), .val (.int (p0 &&& (1073741823 : Int32))), .val (.int (0 : Int32))] [(.int (p0 &&& (1073741823 : Int32)))])
      obtain ⟨T7, X7, e7, st7⟩ := pureS X4 hx hZ hown (hw _ (List.mem_of_getElem? (i := 0) rfl)) (hw _ (List.mem_of_getElem? (i := 1) rfl)) (hw _ (List.mem_of_getElem? (i := 2) rfl)) (hw _ (List.mem_of_getElem? (i := 3) rfl)) (by decide) (rm1 l Z a0 hw [] (p0 &&& (1073741823 : Int32)) h0) e4 (W := 0) (by decide) (by decide) (by decide) (by decide) (g := (mkF m 33 #[.val (.int p0), .val (.int z14_s0), .val (.int (p0 &&& (1073741823 : Int32))), .val (.int (0 : Int32))] [(.int (p0 &&& (1073741823 : Int32)))])) rfl (by rw [hml]; rfl) (argsL := [(.int (p0 &&& (1073741823 : Int32)))]) (rest := []) rfl (lenOf pd_0 rfl) rfl (by show 2 * 0 + _ ≤ _; exact Nat.le_of_eq rfl) (hb hby at_33)
      refine Fini.st st7 ?_
      show Fini p e below s _ _ _ T7 (mkF m 36 #[.val (.int p0), .val (.int z14_s0), .val (.int (p0 &&& (1073741823 : Int32))), .val (.int (0 : Int32))] [(.int (f1 (p0 &&& (1073741823 : Int32))))])
      by_cases c8 : (f1 (p0 &&& (1073741823 : Int32))) = (0 : Int32)
      · have hv9 := hv6.trans (if_pos c8)
        refine Fini.st (fun _ k => XS.ifYes X7.here hx rfl (pc0 := 36) (pc' := 43) rfl (hb hby at_36) rfl (XT.i0_eq_t c8) (by decide) (by decide) k) ?_
        show Fini p e below s _ _ _ T7 (mkF m 43 #[.val (.int p0), .val (.int z14_s0), .val (.int (p0 &&& (1073741823 : Int32))), .val (.int (0 : Int32))] [])
        exact B43 T7 X7 e7 (0 : Int32) z14_s0 hv9
      · have hv10 := hv6.trans (if_neg c8)
        refine Fini.st (fun _ k => XS.ifNo X7.here hx rfl (hb hby at_36) rfl (XT.i0_eq_f c8) k) ?_
        show Fini p e below s _ _ _ T7 (mkF m 39 #[.val (.int p0), .val (.int z14_s0), .val (.int (p0 &&& (1073741823 : Int32))), .val (.int (0 : Int32))] [])
        refine Fini.st (fun _ k => XS.iloadN X7.here hx rfl (hb hby at_39) rfl k) ?_
        show Fini p e below s _ _ _ T7 (mkF m 40 #[.val (.int p0), .val (.int z14_s0), .val (.int (p0 &&& (1073741823 : Int32))), .val (.int (0 : Int32))] [(.int (0 : Int32))])
        refine Fini.st (fun _ k => XS.iconst X7.here hx rfl (hb hby at_40) k) ?_
        show Fini p e below s _ _ _ T7 (mkF m 41 #[.val (.int p0), .val (.int z14_s0), .val (.int (p0 &&& (1073741823 : Int32))), .val (.int (0 : Int32))] [(.int (1 : Int32)), (.int (0 : Int32))])
        refine Fini.st (fun _ k => XS.iadd X7.here hx rfl (hb hby at_41) rfl k) ?_
        show Fini p e below s _ _ _ T7 (mkF m 42 #[.val (.int p0), .val (.int z14_s0), .val (.int (p0 &&& (1073741823 : Int32))), .val (.int (0 : Int32))] [(.int (1 : Int32))])
        refine Fini.st (fun _ k => XS.istoreN X7.here hx rfl (hb hby at_42) rfl (l' := #[.val (.int p0), .val (.int z14_s0), .val (.int (p0 &&& (1073741823 : Int32))), .val (.int (1 : Int32))]) rfl k) ?_
        show Fini p e below s _ _ _ T7 (mkF m 43 #[.val (.int p0), .val (.int z14_s0), .val (.int (p0 &&& (1073741823 : Int32))), .val (.int (1 : Int32))] [])
        exact B43 T7 X7 e7 (1 : Int32) z14_s0 hv10
    · have hv11 := hv_14.trans (if_neg c5)
      refine Fini.st (fun _ k => XS.icmpNo X4.here hx rfl (hb hby at_20) rfl (XT.ii_eq_f c5) k) ?_
      show Fini p e below s _ _ _ T4 (mkF m 23 #[.val (.int p0), .val (.int z14_s0), .unset, .unset] [])
      refine Fini.st (fun _ k => XS.iconst X4.here hx rfl (hb hby at_23) k) ?_
      show Fini p e below s _ _ _ T4 (mkF m 24 #[.val (.int p0), .val (.int z14_s0), .unset, .unset] [(.int (0 : Int32))])
      exact Fini.retN X4 hx hlk (t := .boolean) Bd.returns (by simp) (hb hby at_24) nb0 (by decide) (by decide) ⟨congrArg (fun z => some (Value.int z)) hv11.symm, e4, rfl⟩
  show Fini p e below s (fun v h' L => v = some (.int (f0 p0)) ∧ h' = h0 ∧ L = []) _ _ s₁ (entryFrame m #[(.int p0)] maxLocals)
  refine Fini.cast (ef0 m p0) ?_
  show Fini p e below s _ _ _ s₁ (mkF m 0 #[.val (.int p0), .unset, .unset, .unset] [])
  refine Fini.st (fun _ k => XS.iloadN X0.here hx rfl (hb hby at_0) rfl k) ?_
  show Fini p e below s _ _ _ s₁ (mkF m 1 #[.val (.int p0), .unset, .unset, .unset] [(.int p0)])
  refine Fini.st (fun _ k => XS.iconst X0.here hx rfl (hb hby at_1) k) ?_
  show Fini p e below s _ _ _ s₁ (mkF m 2 #[.val (.int p0), .unset, .unset, .unset] [(.int (3 : Int32)), (.int p0)])
  refine Fini.st (fun _ k => XS.idiv X0.here hx rfl (hb hby at_2) rfl (by decide) k) ?_
  show Fini p e below s _ _ _ s₁ (mkF m 3 #[.val (.int p0), .unset, .unset, .unset] [(.int (p0 / (3 : Int32)))])
  refine Fini.st (fun _ k => XS.iconst X0.here hx rfl (hb hby at_3) k) ?_
  show Fini p e below s _ _ _ s₁ (mkF m 4 #[.val (.int p0), .unset, .unset, .unset] [(.int (3 : Int32)), (.int (p0 / (3 : Int32)))])
  refine Fini.st (fun _ k => XS.imul X0.here hx rfl (hb hby at_4) rfl k) ?_
  show Fini p e below s _ _ _ s₁ (mkF m 5 #[.val (.int p0), .unset, .unset, .unset] [(.int ((p0 / (3 : Int32)) * (3 : Int32)))])
  refine Fini.st (fun _ k => XS.iloadN X0.here hx rfl (hb hby at_5) rfl k) ?_
  show Fini p e below s _ _ _ s₁ (mkF m 6 #[.val (.int p0), .unset, .unset, .unset] [(.int p0), (.int ((p0 / (3 : Int32)) * (3 : Int32)))])
  by_cases c1 : ((p0 / (3 : Int32)) * (3 : Int32)) = p0
  · have hv2 := hv0.trans (if_pos c1)
    refine Fini.st (fun _ k => XS.icmpNo X0.here hx rfl (hb hby at_6) rfl (XT.ii_ne_f c1) k) ?_
    show Fini p e below s _ _ _ s₁ (mkF m 9 #[.val (.int p0), .unset, .unset, .unset] [])
    refine Fini.st (fun _ k => XS.iconst X0.here hx rfl (hb hby at_9) k) ?_
    show Fini p e below s _ _ _ s₁ (mkF m 10 #[.val (.int p0), .unset, .unset, .unset] [(.int (1 : Int32))])
    refine Fini.st (fun _ k => XS.goto X0.here hx rfl (pc0 := 10) (pc' := 14) rfl (hb hby at_10) (by decide) (by decide) k) ?_
    show Fini p e below s _ _ _ s₁ (mkF m 14 #[.val (.int p0), .unset, .unset, .unset] [(.int (1 : Int32))])
    exact B14 s₁ X0 e0 (1 : Int32) hv2
  · have hv3 := hv0.trans (if_neg c1)
    refine Fini.st (fun _ k => XS.icmpYes X0.here hx rfl (pc0 := 6) (pc' := 13) rfl (hb hby at_6) rfl (XT.ii_ne_t c1) (by decide) (by decide) k) ?_
    show Fini p e below s _ _ _ s₁ (mkF m 13 #[.val (.int p0), .unset, .unset, .unset] [])
    refine Fini.st (fun _ k => XS.iconst X0.here hx rfl (hb hby at_13) k) ?_
    show Fini p e below s _ _ _ s₁ (mkF m 14 #[.val (.int p0), .unset, .unset, .unset] [(.int (0 : Int32))])
    exact B14 s₁ X0 e0 (0 : Int32) hv3
theorem own_rem (y : Int32) : (y % 3).toInt = 0 ↔ y.toInt % 3 = 0 := by
  have r := c_irem y 3 3 rfl
  constructor <;> intro q <;> omega
theorem own_one (y : Int32) (h : y.toInt % 3 = 0) : f1 y = 1 := if_pos (Int32.toInt_inj.mp ((own_rem y).mpr h))
theorem own_zero (y : Int32) (h : ¬ y.toInt % 3 = 0) : f1 y = 0 := if_neg fun q => h ((own_rem y).mp (Int32.toInt_inj.mpr q))
theorem own_ref (x : Int32) : x / 3 * 3 = x ↔ x.toInt % 3 = 0 := by
  have d := c_idiv x 3 3 rfl (by decide)
  have m := c_imul (x / 3) 3
  have r1 := rng32 x
  have r2 := rng32 (x / 3 * 3)
  have t3 : (3 : Int32).toInt = 3 := rfl
  rw [t3] at m
  rw [← Int32.toInt_inj]
  constructor <;> intro q <;> omega
theorem own_69 (x y : Int32) : f0_69 x 1 y = 1 := by
  have e := own_one 0 (by decide)
  exact (if_pos rfl).trans (if_neg (by rw [e]; decide))
theorem own_c100 (x y n n1 n2 : Int32) (h0 : f1 n = 1) (h1 : f1 n1 = 0) (h2 : f1 n2 = 0) :
    (if f1 n = (0 : Int32) then (if f1 n1 = (0 : Int32) then (if f1 n2 = (0 : Int32) then f0_69 x 0 y else f0_69 x (0 + 1) y) else (if f1 n2 = (0 : Int32) then f0_69 x (0 + 1) y else f0_69 x (0 + 1 + 1) y))
     else (if f1 n1 = (0 : Int32) then (if f1 n2 = (0 : Int32) then f0_69 x 1 y else f0_69 x (1 + 1) y) else (if f1 n2 = (0 : Int32) then f0_69 x (1 + 1) y else f0_69 x (1 + 1 + 1) y))) = 1 := by
  exact (if_neg (by rw [h0]; decide)).trans ((if_pos h1).trans ((if_pos h2).trans (own_69 x y)))
theorem own_c010 (x y n n1 n2 : Int32) (h0 : f1 n = 0) (h1 : f1 n1 = 1) (h2 : f1 n2 = 0) :
    (if f1 n = (0 : Int32) then (if f1 n1 = (0 : Int32) then (if f1 n2 = (0 : Int32) then f0_69 x 0 y else f0_69 x (0 + 1) y) else (if f1 n2 = (0 : Int32) then f0_69 x (0 + 1) y else f0_69 x (0 + 1 + 1) y))
     else (if f1 n1 = (0 : Int32) then (if f1 n2 = (0 : Int32) then f0_69 x 1 y else f0_69 x (1 + 1) y) else (if f1 n2 = (0 : Int32) then f0_69 x (1 + 1) y else f0_69 x (1 + 1 + 1) y))) = 1 := by
  exact (if_pos h0).trans ((if_neg (by rw [h1]; decide)).trans ((if_pos h2).trans (own_69 x y)))
theorem own_c001 (x y n n1 n2 : Int32) (h0 : f1 n = 0) (h1 : f1 n1 = 0) (h2 : f1 n2 = 1) :
    (if f1 n = (0 : Int32) then (if f1 n1 = (0 : Int32) then (if f1 n2 = (0 : Int32) then f0_69 x 0 y else f0_69 x (0 + 1) y) else (if f1 n2 = (0 : Int32) then f0_69 x (0 + 1) y else f0_69 x (0 + 1 + 1) y))
     else (if f1 n1 = (0 : Int32) then (if f1 n2 = (0 : Int32) then f0_69 x 1 y else f0_69 x (1 + 1) y) else (if f1 n2 = (0 : Int32) then f0_69 x (1 + 1) y else f0_69 x (1 + 1 + 1) y))) = 1 := by
  exact (if_pos h0).trans ((if_pos h1).trans ((if_neg (by rw [h2]; decide)).trans (own_69 x y)))
theorem own_sum (x y n n1 n2 : Int32) (h1 : n1.toInt = n.toInt + 1) (h2 : n2.toInt = n.toInt + 2) :
    (if f1 n = (0 : Int32) then (if f1 n1 = (0 : Int32) then (if f1 n2 = (0 : Int32) then f0_69 x 0 y else f0_69 x (0 + 1) y) else (if f1 n2 = (0 : Int32) then f0_69 x (0 + 1) y else f0_69 x (0 + 1 + 1) y))
     else (if f1 n1 = (0 : Int32) then (if f1 n2 = (0 : Int32) then f0_69 x 1 y else f0_69 x (1 + 1) y) else (if f1 n2 = (0 : Int32) then f0_69 x (1 + 1) y else f0_69 x (1 + 1 + 1) y))) = 1 := by
  by_cases h : n.toInt % 3 = 0
  · exact own_c100 x y n n1 n2 (own_one n h) (own_zero n1 (by omega)) (own_zero n2 (by omega))
  · by_cases h' : n.toInt % 3 = 1
    · exact own_c001 x y n n1 n2 (own_zero n h) (own_zero n1 (by omega)) (own_one n2 (by omega))
    · exact own_c010 x y n n1 n2 (own_zero n h) (own_one n1 (by omega)) (own_zero n2 (by omega))
theorem own_plus (x : Int32) : ((x &&& 1073741823) + 1).toInt = (x &&& 1073741823).toInt + 1 ∧ ((x &&& 1073741823) + 2).toInt = (x &&& 1073741823).toInt + 2 := by
  have m := c_mask x 1073741823 30 (by decide) (by decide)
  have t1 : (1 : Int32).toInt = 1 := rfl
  have t2 : (2 : Int32).toInt = 2 := rfl
  have a1 := c_iadd (x &&& 1073741823) 1
  have a2 := c_iadd (x &&& 1073741823) 2
  have g1 := rng32 ((x &&& 1073741823) + 1)
  have g2 := rng32 ((x &&& 1073741823) + 2)
  rw [t1] at a1
  rw [t2] at a2
  generalize ((x &&& 1073741823) + 1).toInt = u at *
  generalize ((x &&& 1073741823) + 2).toInt = v at *
  omega
theorem own_key (i0 : Int32) : f0_14 i0 (f1 i0) = 1 := by
  have s := own_sum i0 (f1 i0) (i0 &&& (1073741823 : Int32)) ((i0 &&& (1073741823 : Int32)) + (1 : Int32)) ((i0 &&& (1073741823 : Int32)) + (2 : Int32)) (own_plus i0).1 (own_plus i0).2
  refine (if_pos rfl : f0_14 i0 (f1 i0) = _).trans ?_
  unfold f0_43 f0_56
  exact s
theorem own_law (i0 : Int32) : f0 i0 = 1 := by
  have key := own_key i0
  unfold f0
  by_cases q : i0.toInt % 3 = 0
  · rw [own_one i0 q] at key; rw [if_pos ((own_ref i0).mpr q)]; exact key
  · rw [own_zero i0 q] at key; rw [if_neg fun r => q ((own_ref i0).mp r)]; exact key

set_option maxRecDepth 65536 in
set_option maxHeartbeats 40000000 in
theorem comes_1 {Post : Tables → Env → Array Value → State → Outcome → State → Prop} (hpost : ∀ tb e args s v u, (limb_1_1.after args s (.returned v) u = true ∧ limb_1_2.after args s (.returned v) u = true ∧ True) → FrameEnd s (.returned v) u (Jvm.fieldLocs frame_1_writes args s ++ Jvm.arrayLocs frame_1_arrays args s ++ Jvm.staticLocs frame_1_statics s) 0 0 → Post tb e args s (.returned v) u) :
    ArmFor flags0 classFile x code maxLocals ret World_1 tables_1 room_1 Calls_1 rest_1 Pre_1 Post := by
  intro l hfl _ _ p e ha hc hk s m args below hf hA hF happ hP
  obtain ⟨hcalls, hrest, hpre⟩ := hP
  obtain ⟨-, -, -, hnamed, -, -, -, hat⟩ := (Spec.applies_iff hf).mp happ
  obtain ⟨hg, hn⟩ := and_e (Cond.before_iff.mp (show (Jvm.Cond.and given_1 narrow_1).before args s = true from hpre))
  obtain ⟨g1, g2⟩ := and_e hg
  obtain ⟨w0, rfl⟩ : ∃ w0 : Value, args = #[w0] := by
    have hs : args.size = 1 := by simpa [Cond.value, given_1] using g1
    obtain ⟨L⟩ := args
    match L, hs with
    | [w0], _ => exact ⟨w0, rfl⟩
  have hw := fun d (hd : d ∈ tables_1) => atoms_spec (ws := Jvm.Cond.code x code maxLocals ret :: tables_1) hat d (List.mem_cons_of_mem _ hd)
  have hfit : Fit s := fun {y c} hc i hi => by
    obtain ⟨ha, rfl⟩ := Array.getElem?_eq_some_iff.mp hc
    have q := List.all_eq_true.mp ((Array.all_eq_true_iff_forall_mem.mp hF) _ (Array.getElem_mem ha)) i (List.mem_range.mpr hi)
    simpa [Array.getElem?_eq_getElem hi] using q
  obtain ⟨i0, ei0⟩ := is_v g2
  obtain rfl : w0 = (.int i0) := Option.some.inj ei0
  obtain ⟨n, o, h1, h2, h3, v, L, rfl, ⟨rfl, hheap, rfl⟩, hq⟩ := rm0 l s _ hw tables_1 i0 s.heap p e ha hc hk s m _ below hf ((Spec.applies_iff_loose hf).mp happ).1 ⟨rfl, State.Warmed39.refl s, rfl⟩ trivial
  refine ⟨n, _, h1, h2, h3, hpost _ _ _ _ _ _ ⟨Cond.after_iff.mpr rfl, Cond.after_iff.mpr (eq_i res_at (Term.int_eval (1)) (congrArg Value.int (own_law i0))), trivial⟩ ⟨hq.1, hq.2.1, (hq.2.2.sift fun y hy => nomatch hy).mono (by decide) (by decide)⟩⟩
theorem main_1_1 : Claimed_1_1 := comes_1 fun _ _ _ _ _ _ h hF => ⟨h.1, hF⟩
theorem main_1_2 : Claimed_1_2 := comes_1 fun _ _ _ _ _ _ h hF => ⟨h.2.1, hF⟩
end Jvm.Pilot.@@N@@
namespace Jvm.Pilot.@@N@@
open Jvm Jvm.ClassFile Sem Op Lib Jvm.Free Jvm.Stand Jvm.Pilot.@@N@@.Jvm.D
/-! MADE BY PROGRAM (witnessworld.py) out of the Statement's table words and the real class files: 9 classes; the members and pool entries that the words name. The judged class is class 1, her method 1. -/
namespace start1
open Jvm.ClassFile
def u (s : String) : CpInfo := .utf8 (stringToUtf16 s)
/-- a pool by its gaps: so many unusable entries, then the entry; so many at the end -/
def gap : Nat → List CpInfo → List CpInfo
  | 0, r => r
  | n + 1, r => .unusable :: gap n r
def poolList (es : List (Nat × CpInfo)) (last : Nat) : List CpInfo := es.foldr (fun e r => gap e.1 (e.2 :: r)) (gap last [])
def pool (es : List (Nat × CpInfo)) (last : Nat) : Array CpInfo := ⟨poolList es last⟩
def fileOf (pool : Array CpInfo) (this : Nat) (attrs : Array Attribute := #[]) (ms : Array MethodInfo := #[]) (fl : Nat := 33) (sup : Nat := 0) (ifs : Array Nat := #[]) (fds : Array FieldInfo := #[]) : ClassFile where
  minorVersion := 0
  majorVersion := 65
  constantPool := pool
  accessFlags := fl
  thisClass := this
  superClass := sup
  interfaces := ifs
  fields := fds
  methods := ms
  attributes := attrs
def plain (name : String) (sup : Option ClassId) : Class where
  name := name
  kind := .ordinary
  loader := none
  accessFlags := 33
  super := sup
  interfaces := #[]
  cf := none
  fields := #[]
  methods := #[]
  instanceTypes := #[]
  staticTypes := #[]
  resolved := #[]
  callSites := []
  init := .initialized
  statics := none
  mirror := none

def pool0 : Array CpInfo := pool [(5, u "<init>"), (0, u "()V"), (1, .class_ 10), (1, u "java/lang/Object")] 113

def k0m0 : Method := { name := "<init>", desc := "()V", sig := { parameters := [], returnType := none }, accessFlags := 1, code := none }
/-- java/lang/Object -/
def k0 : Class := { plain "java/lang/Object" none with
  accessFlags := 33
  interfaces := #[]
  cf := some (fileOf pool0 8 #[] #[{ accessFlags := 1, nameIndex := 5, descriptorIndex := 6, attributes := #[] }] 33 0 #[] #[])
  fields := #[]
  methods := #[k0m0]
  instanceTypes := #[]
  staticTypes := #[]
  resolved := Array.replicate 124 none
  statics := none }

def pool1 : Array CpInfo := pool [(2, .class_ 4), (1, u "java/lang/Object"), (0, u "<init>"), (0, u "()V"), (0, .methodref 8 9), (0, .class_ 10), (0, .nameAndType 11 12), (0, u "com/example/framewire/framewire/bench/JcpStream"), (0, u "isRequest"), (0, u "(I)Z"), (0, .integer 1073741823), (0, .class_ 15), (0, u "com/example/framewire/framewire/bench/JcpStreamIsRequestPinLaw"), (2, u "law")] 3

def k1m0 : Method := { name := "<init>", desc := "()V", sig := { parameters := [], returnType := none }, accessFlags := 2, code := none }
def k1c1 : Code := { maxStack := 2, maxLocals := 4, code := code, exceptionTable := #[], attributes := #[] }
def k1m1 : Method := { name := "law", desc := "(I)Z", sig := { parameters := [.int], returnType := some .boolean }, accessFlags := 9, code := some k1c1 }
/-- com/example/framewire/framewire/bench/JcpStreamIsRequestPinLaw -/
def k1 : Class := { plain "com/example/framewire/framewire/bench/JcpStreamIsRequestPinLaw" (some 0) with
  accessFlags := 49
  interfaces := #[]
  cf := some (fileOf pool1 14 #[] #[{ accessFlags := 2, nameIndex := 5, descriptorIndex := 6, attributes := #[] }, { accessFlags := 9, nameIndex := 18, descriptorIndex := 12, attributes := #[] }] 49 2 #[] #[])
  fields := #[]
  methods := #[k1m0, k1m1]
  instanceTypes := #[]
  staticTypes := #[]
  resolved := Array.replicate 22 none
  statics := none }

def pool2 : Array CpInfo := pool [(2, .class_ 4), (1, u "java/lang/Object"), (0, u "<init>"), (0, u "()V"), (4, .class_ 13), (1, u "com/example/framewire/framewire/bench/JcpStream"), (17, u "isRequest"), (0, u "(I)Z"), (23, u "FRAMES"), (0, u "I"), (2, u "LENGTH"), (0, u "J"), (2, u "NOTICE"), (1, u "REQUEST"), (1, u "NOTICE_NAME"), (0, u "Ljava/lang/String;"), (0, u "REQUEST_NAME")] 29

def k2m0 : Method := { name := "<init>", desc := "()V", sig := { parameters := [], returnType := none }, accessFlags := 2, code := none }
def k2c1 : Code := { maxStack := 2, maxLocals := 1, code := prog_32_method_4_code, exceptionTable := #[], attributes := #[] }
def k2m1 : Method := { name := "isRequest", desc := "(I)Z", sig := { parameters := [.int], returnType := some .boolean }, accessFlags := 8, code := some k2c1 }
/-- com/example/framewire/framewire/bench/JcpStream -/
def k2 : Class := { plain "com/example/framewire/framewire/bench/JcpStream" (some 0) with
  accessFlags := 48
  interfaces := #[]
  cf := some (fileOf pool2 11 #[] #[{ accessFlags := 2, nameIndex := 5, descriptorIndex := 6, attributes := #[] }, { accessFlags := 8, nameIndex := 31, descriptorIndex := 32, attributes := #[] }] 48 2 #[] #[{ accessFlags := 24, nameIndex := 56, descriptorIndex := 57, attributes := #[] }, { accessFlags := 24, nameIndex := 60, descriptorIndex := 61, attributes := #[] }, { accessFlags := 24, nameIndex := 64, descriptorIndex := 57, attributes := #[] }, { accessFlags := 24, nameIndex := 66, descriptorIndex := 57, attributes := #[] }, { accessFlags := 24, nameIndex := 68, descriptorIndex := 69, attributes := #[] }, { accessFlags := 24, nameIndex := 70, descriptorIndex := 69, attributes := #[] }])
  fields := #[{ name := "FRAMES", type := .int, accessFlags := 24, slot := 0, constantValue := 0 }, { name := "LENGTH", type := .long, accessFlags := 24, slot := 1, constantValue := 0 }, { name := "NOTICE", type := .int, accessFlags := 24, slot := 2, constantValue := 0 }, { name := "REQUEST", type := .int, accessFlags := 24, slot := 3, constantValue := 0 }, { name := "NOTICE_NAME", type := (.object "java/lang/String"), accessFlags := 24, slot := 4, constantValue := 0 }, { name := "REQUEST_NAME", type := (.object "java/lang/String"), accessFlags := 24, slot := 5, constantValue := 0 }]
  methods := #[k2m0, k2m1]
  instanceTypes := #[]
  staticTypes := #[.int, .long, .int, .int, (.object "java/lang/String"), (.object "java/lang/String")]
  resolved := Array.replicate 100 none
  statics := none }

def pool3 : Array CpInfo := pool [(1, u "java/lang/Cloneable"), (0, .class_ 1), (0, u "java/lang/Object"), (0, .class_ 3)] 3

/-- java/lang/Cloneable -/
def k3 : Class := { plain "java/lang/Cloneable" (some 0) with
  accessFlags := 1537
  interfaces := #[]
  cf := some (fileOf pool3 2 #[] #[] 1537 4 #[] #[])
  fields := #[]
  methods := #[]
  instanceTypes := #[]
  staticTypes := #[]
  resolved := Array.replicate 8 none
  statics := none }

def pool4 : Array CpInfo := pool [(1, u "java/io/Serializable"), (0, .class_ 1), (0, u "java/lang/Object"), (0, .class_ 3)] 3

/-- java/io/Serializable -/
def k4 : Class := { plain "java/io/Serializable" (some 0) with
  accessFlags := 1537
  interfaces := #[]
  cf := some (fileOf pool4 2 #[] #[] 1537 4 #[] #[])
  fields := #[]
  methods := #[]
  instanceTypes := #[]
  staticTypes := #[]
  resolved := Array.replicate 8 none
  statics := none }

/-- the primitive byte -/
def k5 : Class := { plain "byte" none with kind := .primitive 'B', accessFlags := 0x411 }
/-- [B -/
def k6 : Class := { plain "[B" (some 0) with kind := .array 5 .byte, interfaces := #[3, 4], accessFlags := 1041 }

/-- the primitive int -/
def k7 : Class := { plain "int" none with kind := .primitive 'I', accessFlags := 0x411 }
/-- [I -/
def k8 : Class := { plain "[I" (some 0) with kind := .array 7 .int, interfaces := #[3, 4], accessFlags := 1041 }

def heap : Heap := #[]
def classes : Array Class := #[k0, k1, k2, k3, k4, k5, k6, k7, k8]
def interned : List (Array UInt16 × Addr) := []
def slotsUsed : Nat := 0
def theMethod : MethodId := ⟨1, 1⟩
def args0 : Array Value := #[.int 5]
def aboutOver (below : List Frame) : State where
  vm := { classes := classes, interned := interned.toArray }
  heap := heap
  slotsUsed := slotsUsed
  threads := #[{ frames := .invoking theMethod args0 :: below }]
def below0 : List Frame := [.native { method := ⟨0, 0⟩, args := #[] }]
def about1 : State := aboutOver below0
def p0 : Program := .bare "" "" ""
def e0 : Env := launch0.env 0 0 0
theorem w_frames : about1.frames = Frame.invoking theMethod args0 :: below0 := rfl
set_option maxRecDepth 65536 in
theorem w_args : argsFit about1.vm theMethod args0 = true := by decide +kernel
set_option maxRecDepth 65536 in
theorem w_heap : heapFits about1 = true := by decide +kernel
set_option maxRecDepth 65536 in
theorem w_runnable : about1.curStatus? = some .runnable := by decide +kernel
set_option maxRecDepth 65536 in
theorem w_alone : about1.alone = true := by decide +kernel
set_option maxRecDepth 65536 in
theorem w_named : about1.methodNamed? x = some theMethod := by decide +kernel
set_option maxRecDepth 65536 in
theorem w_hears : about1.hears theMethod below0 = true := by decide +kernel
set_option maxRecDepth 65536 in
theorem w_ripe : about1.ripe theMethod args0 below0 = true := by decide +kernel
theorem w_running : about1.status = .running := rfl
set_option maxRecDepth 65536 in
theorem w_room : about1.hasRoom e0.platform room_1 = true :=
  launch0.hasRoom_least _ room_1 (by decide +kernel) (by decide +kernel) (by decide +kernel) (by decide +kernel) (by decide +kernel) (by decide +kernel)
theorem allAtoms_all (ts : List Jvm.Cond) (a : Array Jvm.Value) (st : Jvm.State) : (allAtoms ts).before a st = ts.all (fun c => c.before a st) := by
  induction ts with
  | nil => rfl
  | cons c t ih =>
    show (Jvm.Cond.and c (allAtoms t)).before a st = _
    rw [Jvm.Cond.before_and, ih, List.all_cons]
def words1 : List Jvm.Cond := Jvm.Cond.code x code maxLocals ret :: tables_1
/-- a 'code' word, met by the world's own term for the bytes: nothing is compared byte by byte -/
theorem code_word {y : MethodName} {bytes : ByteArray} {mx : Nat} {rt : Option FieldType} {a : Array Value} {s : State} {m : MethodId} {meth : Method} {c : Code} (h1 : s.methodNamed? y = some m) (h2 : s.vm.method? m = some meth) (h3 : meth.code = some c) (h4 : c.code = bytes)
    (h5 : (c.maxLocals == mx && c.exceptionTable.isEmpty && decide (c.maxStack ≤ mostOperands) && decide (meth.sig.returnType = rt) && !meth.locks && decide (parseMethodDescriptor y.desc = some meth.sig)) = true) : (Jvm.Cond.code y bytes mx rt).before a s = true := by
  simp only [Bool.and_eq_true, beq_iff_eq, Bool.not_eq_true', decide_eq_true_eq] at h5
  obtain ⟨⟨⟨⟨⟨g1, g2⟩, g3⟩, g4⟩, g5⟩, g6⟩ := h5
  simp [Cond.before, Cond.holds, Cond.value, h1, h2, h3, h4, g1, g2, g3, g4, g5, g6]
def isCode : Jvm.Cond → Bool
  | .code _ _ _ _ => true
  | _ => false
theorem all_split {L : List Jvm.Cond} {P : Jvm.Cond → Bool} (h1 : L.all (fun c => isCode c || P c) = true) (h2 : ∀ c ∈ L.filter isCode, P c = true) : L.all P = true := by
  refine List.all_eq_true.mpr fun c hc => ?_
  have h := List.all_eq_true.mp h1 c hc
  rcases Bool.eq_false_or_eq_true (isCode c) with hi | hi
  · exact h2 c (List.mem_filter.mpr ⟨hc, hi⟩)
  · simpa [hi] using h
set_option maxRecDepth 65536 in
theorem w_c0 : (Jvm.Cond.code x code maxLocals ret).before args0 about1 = true := code_word (m := ⟨1, 1⟩) (meth := k1m1) (c := k1c1) (by decide +kernel) rfl rfl rfl (by decide +kernel)
set_option maxRecDepth 65536 in
theorem w_c1 : (Jvm.Cond.code ({ cls := "com/example/framewire/framewire/bench/JcpStream", name := "isRequest", desc := "(I)Z" } : Jvm.MethodName) prog_32_method_4_code (1 : Nat) (Option.some Jvm.ClassFile.FieldType.boolean)).before args0 about1 = true := code_word (m := ⟨2, 1⟩) (meth := k2m1) (c := k2c1) (by decide +kernel) rfl rfl rfl (by decide +kernel)
def codes1 : List Jvm.Cond := [Jvm.Cond.code x code maxLocals ret, Jvm.Cond.code ({ cls := "com/example/framewire/framewire/bench/JcpStream", name := "isRequest", desc := "(I)Z" } : Jvm.MethodName) prog_32_method_4_code (1 : Nat) (Option.some Jvm.ClassFile.FieldType.boolean)]
set_option maxRecDepth 65536 in
theorem codes_eq : words1.filter isCode = codes1 := rfl
theorem w_codes : ∀ c ∈ words1.filter isCode, c.before args0 about1 = true := by
  rw [codes_eq]
  intro c hc
  simp only [codes1, List.mem_cons, List.not_mem_nil, or_false] at hc
  rcases hc with rfl | rfl
  · exact w_c0
  · exact w_c1
set_option maxRecDepth 65536 in
theorem w_t1 : words1.all (fun c => isCode c || c.before args0 about1) = true := by decide +kernel
theorem w_tables : (allAtoms (Jvm.Cond.code x code maxLocals ret :: tables_1)).before args0 about1 = true := by
  rw [allAtoms_all]
  show words1.all (fun c => c.before args0 about1) = true
  refine all_split ?_ w_codes
  rw [w_t1]
set_option maxRecDepth 65536 in
theorem w_case : (Jvm.Cond.and given_1 narrow_1).before args0 about1 = true := by decide +kernel
theorem w_applies : (headSpec (Jvm.Cond.code x code maxLocals ret :: tables_1) room_1).applies x e0.platform about1 = true :=
  (Spec.applies_iff w_frames).mpr ⟨w_running, w_runnable, w_alone, w_named, w_hears, w_ripe, w_room, w_tables⟩
theorem atStart : AtStart classFile x code maxLocals ret World_1 tables_1 room_1 Calls_1 rest_1 Pre_1 launch0 p0 e0 about1 theMethod args0 below0 :=
  ⟨lists_1, trivial, launch0.admits_env _ _ _, launch0.least_env, fairChoices_fair.cas, fairChoices_fair.clock, w_frames, w_args, w_heap, w_applies, trivial, trivial, w_case⟩
end start1
theorem witness_1 : WitnessClaimed_1 := ⟨start1.p0, start1.e0, start1.about1, start1.theMethod, start1.args0, start1.below0, start1.atStart⟩
end Jvm.Pilot.@@N@@
