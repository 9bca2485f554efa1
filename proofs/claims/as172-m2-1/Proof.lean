import JvmDerived
import JvmDerived.Pilot.@@N@@Statement
import JvmDerived.Pilot.@@N@@Code
set_option linter.unusedVariables false
set_option linter.unusedSimpArgs false
namespace Jvm.RoadKit
open Sem ClassFile Op Lib Jvm.Stand Jvm.Free Jvm.LawKit
section Own
variable {p : Program} {l : Launch} {e : Env} {R : Room} {s : State} {m : MethodId} {args : Array Value} {below : List Frame} {meth : Method} {c : Code} {T : State} {locs : List Loc} {cells slots : Nat} {Z : State} {a0 : Array Value} {h : Heap}
/-- from T with the frame g the run comes to its end, and the end is as K says -/
def own_End (p : Program) (e : Env) (below : List Frame) (s : State) (K : Option Value → Heap → List Loc → Prop) (kc ks : Nat) (T : State) (g : JFrame) : Prop :=
  ∃ s₂ o, Steps p.tables e below (T.setTop g) s₂ ∧ s₂.status = .running ∧ Ended s₂ below o ∧ ∃ v L, o = .returned v ∧ K v s₂.heap L ∧ FrameEnd s o s₂ L kc ks
/-- what a body returns that leaves the heap as it was -/
def own_pure (r : Value) (h0 : Heap) (n0 : Nat) (v : Option Value) (h : Heap) (L : List Loc) : Prop := v = some r ∧ Fr n0 L ∧ h = h0
theorem own_go {K : Option Value → Heap → List Loc → Prop} {kc ks : Nat} {T' : State} {g g' : JFrame} (st : ∀ t, Steps p.tables e below (T'.setTop g') t → Steps p.tables e below (T.setTop g) t) (k : own_End p e below s K kc ks T' g') : own_End p e below s K kc ks T g := by
  obtain ⟨s₂, o, h1, r⟩ := k
  exact ⟨s₂, o, st _ h1, r⟩
theorem own_retW (X : Stand p l e R s m args below meth c T locs cells slots) (hx : p.tables.exec = Jvm.exec) {pc : Nat} {Ls : Array Slot} {w : Value} {t : FieldType} {i : Instr} {rest : List Value} (hret : meth.sig.returnType = some t) (hlk : meth.locks = false) (hn : narrow t w = w)
    (hi : (i = .ireturn ∧ (t = .int ∨ t = .boolean ∨ t = .byte ∨ t = .char ∨ t = .short) ∧ ∃ z, w = .int z) ∨ (i = .lreturn ∧ t = .long ∧ ∃ z, w = .long z) ∨ (i = .dreturn ∧ t = .double ∧ ∃ z, w = .double z) ∨ (i = .freturn ∧ t = .float ∧ ∃ z, w = .float z) ∨ (i = .areturn ∧ t.isReference = true ∧ w.isRef = true))
    (hd : decode c.code pc = .ok (i, 1)) {K : Option Value → Heap → List Loc → Prop} {kc ks : Nat} (hK : K (some w) T.heap locs) (h1 : cells ≤ kc) (h2 : slots ≤ ks) : own_End p e below s K kc ks T (mkF m pc Ls (w :: rest)) := by
  obtain ⟨fs, hr, hrun, hended, hW, hsame⟩ := X.leave (v := some w) (fun q => by rw [hret] at q; cases q) hlk
  exact ⟨_, _, retOut X hx hret hn hi hd hr, hrun, hended, _, _, rfl, hK, ⟨_, rfl⟩, hW, hsame.mono h1 h2⟩
theorem own_retV (X : Stand p l e R s m args below meth c T locs cells slots) (hx : p.tables.exec = Jvm.exec) {pc : Nat} {Ls : Array Slot} (hret : meth.sig.returnType = none) (hlk : meth.locks = false)
    (hd : decode c.code pc = .ok (.return_, 1)) {K : Option Value → Heap → List Loc → Prop} {kc ks : Nat} (hK : K none T.heap locs) (h1 : cells ≤ kc) (h2 : slots ≤ ks) : own_End p e below s K kc ks T (mkF m pc Ls []) := by
  obtain ⟨fs, hr, hrun, hended, hW, hsame⟩ := X.leave (v := none) (fun _ => rfl) hlk
  exact ⟨_, _, X.returnOut hx hret hd hr, hrun, hended, _, _, rfl, hK, ⟨_, rfl⟩, hW, hsame.mono h1 h2⟩
theorem own_callS (X : Stand p l e R s m args below meth c T locs cells slots) (hx : p.tables.exec = Jvm.exec) (hZ : Z.Warmed39 s.vm) {own : String} {index : Nat} {y : MethodName} {bytes : ByteArray} {maxL : Nat} {ret : Option FieldType} {rm : Room} {W : Nat} {as' : Array Value} {Q : Option Value → Heap → List Loc → Prop}
    (hown : s.vm.findClass own = some m.cls) (w1 : (Cond.methodLink own index y).before a0 Z = true) (w2 : (Cond.static y).before a0 Z = true) (w4 : (Cond.code y bytes maxL ret).before a0 Z = true) (hy : y.cls ≠ "java/lang/invoke/MethodHandle" ∧ y.cls ≠ "java/lang/invoke/VarHandle") (w3 : (Cond.initialized y.cls).before a0 Z = true)
    (hM : MetFree l y (head1 [Cond.code y bytes maxL ret] rm) (fun a U => a = as' ∧ Z.Warmed39 U.vm ∧ U.heap = h) (fun _ _ _ _ _ => True) (fun _ U o U' => ∃ v L, o = .returned v ∧ Q v U'.heap L ∧ FrameEnd U o U' L rm.cells rm.slots))
    (eT : T.heap = h) (hf : rm.frames + 1 ≤ R.frames) (hl : W + (maxL + 11) + rm.locals ≤ R.locals) {g : JFrame} (hg : g.method = m) (hsize : g.locals.size = c.maxLocals) {argsL rest : List Value} (has : argsL.toArray = as')
    (hlen : ∀ sig, parseMethodDescriptor y.desc = some sig → argsL.length = sig.parameters.length) (hstack : g.stack = argsL.reverse ++ rest) (hW : 2 * g.monitorRoom + (rest.map fun v => v.category).sum ≤ W) (hdg : decode c.code g.pc = .ok (.invokestatic index, 3)) (hc : cells + rm.cells ≤ R.cells) (hs : slots + rm.slots ≤ R.slots) :
    ∃ v T' L', Stand p l e R s m args below meth c T' (locs ++ L') (cells + rm.cells) (slots + rm.slots) ∧ Q v T'.heap L' ∧ ∀ target, Steps p.tables e below (T'.setTop { g with pc := g.pc + 3, stack := v.toList ++ rest }) target → Steps p.tables e below (T.setTop g) target := by
  obtain ⟨v, _, ⟨T', L', k', n'⟩, -, X', ⟨Lc, hQ, q1, q2, q3⟩, st⟩ := Jvm.LawKit.callS X hx (y := y) hown (mvT hZ w1) (mvT hZ w2) (mvT hZ w3) (mvT hZ w4) hy (backOf (W := W) hM hZ w4 w3 hf hl) hg hsize hlen hstack hW hdg (fun _ _ => ⟨has, eT, hc, hs⟩)
  dsimp only [Pt.U, Pt.locs, Pt.cells, Pt.slots] at X' q1 q2 q3 st hQ
  subst q1 q2 q3
  exact ⟨v, T', Lc, X', hQ, st⟩
theorem own_callN (X : Stand p l e R s m args below meth c T locs cells slots) (hx : p.tables.exec = Jvm.exec) (hZ : Z.Warmed39 s.vm) {own : String} {index : Nat} {y : MethodName} {bytes : ByteArray} {maxL : Nat} {rm : Room} {W : Nat} {as' : Array Value} {Q : Option Value → Heap → List Loc → Prop}
    (hown : s.vm.findClass own = some m.cls) (w1 : (Cond.methodLink own index y).before a0 Z = true) (w2 : (Cond.instanceMethod y).before a0 Z = true) (w4 : (Cond.code y bytes maxL none).before a0 Z = true) (hy : y.cls ≠ "java/lang/invoke/MethodHandle" ∧ y.cls ≠ "java/lang/invoke/VarHandle") (w3 : (Cond.initialized y.cls).before a0 Z = true)
    (hM : MetFree l y (head1 [Cond.code y bytes maxL none] rm) (fun a U => a = as' ∧ Z.Warmed39 U.vm ∧ U.heap = h) (fun _ _ _ _ _ => True) (fun _ U o U' => ∃ v L, o = .returned v ∧ Q v U'.heap L ∧ FrameEnd U o U' L rm.cells rm.slots))
    (eT : T.heap = h) (hf : rm.frames + 1 ≤ R.frames) (hl : W + (maxL + 11) + rm.locals ≤ R.locals) {g : JFrame} (hg : g.method = m) (hsize : g.locals.size = c.maxLocals) {argsL rest : List Value} {a : Addr} (has : (.ref a :: argsL).toArray = as') (hy1 : y.name = "<init>")
    (hlen : ∀ sig, parseMethodDescriptor y.desc = some sig → argsL.length = sig.parameters.length) (hstack : g.stack = argsL.reverse ++ .ref a :: rest) (hW : 2 * g.monitorRoom + (rest.map fun v => v.category).sum ≤ W) (hdg : decode c.code g.pc = .ok (.invokespecial index, 3)) (hc : cells + rm.cells ≤ R.cells) (hs : slots + rm.slots ≤ R.slots) :
    ∃ v T' L', Stand p l e R s m args below meth c T' (locs ++ L') (cells + rm.cells) (slots + rm.slots) ∧ Q v T'.heap L' ∧ ∀ target, Steps p.tables e below (T'.setTop { g with pc := g.pc + 3, stack := v.toList ++ rest }) target → Steps p.tables e below (T.setTop g) target := by
  obtain ⟨v, _, ⟨T', L', k', n'⟩, -, X', ⟨Lc, hQ, q1, q2, q3⟩, st⟩ := X.specialBack hx (y := y) hy1 hown (mvT hZ w1) (mvT hZ w2) (mvT hZ w4) hy (backOf (W := W) hM hZ w4 w3 hf hl) hg hsize (Steps.refl _) hlen hstack hW hdg (fun _ _ => ⟨has, eT, hc, hs⟩)
  dsimp only [Pt.U, Pt.locs, Pt.cells, Pt.slots] at X' q1 q2 q3 st hQ
  subst q1 q2 q3
  exact ⟨v, T', Lc, X', hQ, fun target k => st.trans k⟩
theorem own_callV (X : Stand p l e R s m args below meth c T locs cells slots) (hx : p.tables.exec = Jvm.exec) (hZ : Z.Warmed39 s.vm) {own C : String} {index : Nat} {y z : MethodName} {bytes : ByteArray} {maxL : Nat} {ret : Option FieldType} {rm : Room} {W : Nat} {as' : Array Value} {Q : Option Value → Heap → List Loc → Prop}
    (hown : s.vm.findClass own = some m.cls) (w1 : (Cond.methodLink own index y).before a0 Z = true) (w2 : (Cond.declares y).before a0 Z = true) (w5 : (Cond.selects C y z).before a0 Z = true) (w6 : (Cond.instanceMethod z).before a0 Z = true) {b : Addr} (E : Exa Z h b C) (w4 : (Cond.code z bytes maxL ret).before a0 Z = true) (hy : y.cls ≠ "java/lang/invoke/MethodHandle" ∧ y.cls ≠ "java/lang/invoke/VarHandle") (w3 : (Cond.initialized z.cls).before a0 Z = true)
    (hM : MetFree l z (head1 [Cond.code z bytes maxL ret] rm) (fun a U => a = as' ∧ Z.Warmed39 U.vm ∧ U.heap = h) (fun _ _ _ _ _ => True) (fun _ U o U' => ∃ v L, o = .returned v ∧ Q v U'.heap L ∧ FrameEnd U o U' L rm.cells rm.slots))
    (eT : T.heap = h) (hf : rm.frames + 1 ≤ R.frames) (hl : W + (maxL + 11) + rm.locals ≤ R.locals) {g : JFrame} (hg : g.method = m) (hsize : g.locals.size = c.maxLocals) {argsL rest : List Value} (has : (.ref b :: argsL).toArray = as') (hnf : NotFace s y)
    (hlen : ∀ sig, parseMethodDescriptor y.desc = some sig → argsL.length = sig.parameters.length) (hstack : g.stack = argsL.reverse ++ .ref b :: rest) (hW : 2 * g.monitorRoom + (rest.map fun v => v.category).sum ≤ W) (hdg : decode c.code g.pc = .ok (.invokevirtual index, 3)) (hc : cells + rm.cells ≤ R.cells) (hs : slots + rm.slots ≤ R.slots) :
    ∃ v T' L', Stand p l e R s m args below meth c T' (locs ++ L') (cells + rm.cells) (slots + rm.slots) ∧ Q v T'.heap L' ∧ ∀ target, Steps p.tables e below (T'.setTop { g with pc := g.pc + 3, stack := v.toList ++ rest }) target → Steps p.tables e below (T.setTop g) target := by
  obtain ⟨cq, kq, qa, qb, qc⟩ := isOf hZ eT E
  obtain ⟨v, _, ⟨T', L', k', n'⟩, -, X', ⟨Lc, hQ, q1, q2, q3⟩, st⟩ := X.virtualBack hx (y := y) (z := z) hown (mvT hZ w1) (mvT hZ w2) hnf (mvT hZ w5) (mvT hZ w6) hy (backOf (W := W) hM hZ w4 w3 hf hl) qa qc hg hsize (Steps.refl _) hlen hstack hW hdg (fun _ _ => ⟨has, eT, hc, hs⟩)
  dsimp only [Pt.U, Pt.locs, Pt.cells, Pt.slots] at X' q1 q2 q3 st hQ
  subst q1 q2 q3
  exact ⟨v, T', Lc, X', hQ, fun target k => st.trans k⟩
end Own
end Jvm.RoadKit
namespace Jvm.RoadKit
open Sem ClassFile Op Lib Jvm.Stand Jvm.Free Jvm.LawKit
section OwnW
variable {p : Program} {l : Launch} {e : Env} {R : Room} {s : State} {m : MethodId} {args : Array Value} {below : List Frame} {meth : Method} {c : Code} {T : State} {locs : List Loc} {cells slots : Nat} {Z : State} {a0 : Array Value} {h : Heap}
def own_EndW (p : Program) (e : Env) (below : List Frame) (s : State) (K : Option Value → Heap → List Loc → Prop) (kc ks : Nat) (T : State) (g : JFrame) : Prop :=
  ∃ s₂ o, Steps p.tables e below (T.setTop g) s₂ ∧ s₂.status = .running ∧ Ended s₂ below o ∧ ∃ v L, o = .returned v ∧ K v s₂.heap L ∧ ReturnedEndW s o s₂ L kc ks
theorem own_goW {K : Option Value → Heap → List Loc → Prop} {kc ks : Nat} {T' : State} {g g' : JFrame} (st : ∀ t, Steps p.tables e below (T'.setTop g') t → Steps p.tables e below (T.setTop g) t) (k : own_EndW p e below s K kc ks T' g') : own_EndW p e below s K kc ks T g := by
  obtain ⟨s₂, o, h1, r⟩ := k
  exact ⟨s₂, o, st _ h1, r⟩
theorem own_retWW {vm0 : Vm} {k0 : Nat} (X : Stand p l e R (s.setVm vm0) m args below meth c T locs cells slots) (hS : s.Since vm0 k0) (hk : k0 ≤ T.heap.size) (hx : p.tables.exec = Jvm.exec) {pc : Nat} {Ls : Array Slot} {w : Value} {t : FieldType} {i : Instr} {rest : List Value} (hret : meth.sig.returnType = some t) (hlk : meth.locks = false) (hn : narrow t w = w)
    (hi : (i = .ireturn ∧ (t = .int ∨ t = .boolean ∨ t = .byte ∨ t = .char ∨ t = .short) ∧ ∃ z, w = .int z) ∨ (i = .lreturn ∧ t = .long ∧ ∃ z, w = .long z) ∨ (i = .dreturn ∧ t = .double ∧ ∃ z, w = .double z) ∨ (i = .freturn ∧ t = .float ∧ ∃ z, w = .float z) ∨ (i = .areturn ∧ t.isReference = true ∧ w.isRef = true))
    (hd : decode c.code pc = .ok (i, 1)) {K : Option Value → Heap → List Loc → Prop} {kc ks : Nat} (hK : K (some w) T.heap locs) (h1 : cells ≤ kc) (h2 : slots ≤ ks) : own_EndW p e below s K kc ks T (mkF m pc Ls (w :: rest)) := by
  obtain ⟨fs, hr, hrun, hended, q1, q2, q3, q4⟩ := X.leaveW hS hk (v := some w) (fun q => by rw [hret] at q; cases q) hlk
  exact ⟨_, _, retOut X hx hret hn hi hd hr, hrun, hended, _, _, rfl, hK, q1, q2, q3, q4.mono h1 h2⟩
theorem own_retVW {vm0 : Vm} {k0 : Nat} (X : Stand p l e R (s.setVm vm0) m args below meth c T locs cells slots) (hS : s.Since vm0 k0) (hk : k0 ≤ T.heap.size) (hx : p.tables.exec = Jvm.exec) {pc : Nat} {Ls : Array Slot} (hret : meth.sig.returnType = none) (hlk : meth.locks = false)
    (hd : decode c.code pc = .ok (.return_, 1)) {K : Option Value → Heap → List Loc → Prop} {kc ks : Nat} (hK : K none T.heap locs) (h1 : cells ≤ kc) (h2 : slots ≤ ks) : own_EndW p e below s K kc ks T (mkF m pc Ls []) := by
  obtain ⟨fs, hr, hrun, hended, q1, q2, q3, q4⟩ := X.leaveW hS hk (v := none) (fun _ => rfl) hlk
  exact ⟨_, _, X.returnOut hx hret hd hr, hrun, hended, _, _, rfl, hK, q1, q2, q3, q4.mono h1 h2⟩
theorem own_callNW (X : Stand p l e R s m args below meth c T locs cells slots) (hx : p.tables.exec = Jvm.exec) (hZ : Z.Warmed39 s.vm) {own : String} {index : Nat} {y : MethodName} {bytes : ByteArray} {maxL : Nat} {rm : Room} {W : Nat} {as' : Array Value} {Q : Option Value → Heap → List Loc → Prop}
    (hown : s.vm.findClass own = some m.cls) (w1 : (Cond.methodLink own index y).before a0 Z = true) (w2 : (Cond.instanceMethod y).before a0 Z = true) (w4 : (Cond.code y bytes maxL none).before a0 Z = true) (hy : y.cls ≠ "java/lang/invoke/MethodHandle" ∧ y.cls ≠ "java/lang/invoke/VarHandle") (w3 : (Cond.initialized y.cls).before a0 Z = true)
    (hM : MetFree l y (head1 [Cond.code y bytes maxL none] rm) (fun a U => a = as' ∧ Z.Warmed39 U.vm ∧ U.heap = h) (fun _ _ _ _ _ => True) (fun _ U o U' => ∃ v L, o = .returned v ∧ Q v U'.heap L ∧ ReturnedEndW U o U' L rm.cells rm.slots))
    (eT : T.heap = h) (hf : rm.frames + 1 ≤ R.frames) (hl : W + (maxL + 11) + rm.locals ≤ R.locals) {g : JFrame} (hg : g.method = m) (hsize : g.locals.size = c.maxLocals) {argsL rest : List Value} {a : Addr} (has : (.ref a :: argsL).toArray = as') (hy1 : y.name = "<init>")
    (hlen : ∀ sig, parseMethodDescriptor y.desc = some sig → argsL.length = sig.parameters.length) (hstack : g.stack = argsL.reverse ++ .ref a :: rest) (hW : 2 * g.monitorRoom + (rest.map fun v => v.category).sum ≤ W) (hdg : decode c.code g.pc = .ok (.invokespecial index, 3)) (hc : cells + rm.cells ≤ R.cells) (hs : slots + rm.slots ≤ R.slots) :
    ∃ v T' L', Stand p l e R (s.setVm T'.vm) m args below meth c T' (locs ++ L') (cells + rm.cells) (slots + rm.slots) ∧ Q v T'.heap L' ∧ s.Since T'.vm T'.heap.size ∧ Z.Warmed39 (s.setVm T'.vm).vm ∧ (s.setVm T'.vm).vm.findClass own = some m.cls ∧ ∀ target, Steps p.tables e below (T'.setTop { g with pc := g.pc + 3, stack := v.toList ++ rest }) target → Steps p.tables e below (T.setTop g) target := by
  obtain ⟨v, _, ⟨T', L', k', n'⟩, -, X', hS, -, ⟨Lc, hQ, q1, q2, q3⟩, st⟩ := X.specialBackS hx (y := y) hy1 hown (mvT hZ w1) (mvT hZ w2) (mvT hZ w4) hy (backOfS (W := W) hM hZ w4 w3 hf hl) hg hsize (Steps.refl _) hlen hstack hW hdg (fun _ _ => ⟨has, eT, hc, hs⟩)
  dsimp only [Pt.U, Pt.locs, Pt.cells, Pt.slots] at X' q1 q2 q3 st hQ hS
  subst q1 q2 q3
  exact ⟨v, T', Lc, X', hQ, hS, State.Warmed39.trans hZ hS.1, by rw [show (s.setVm T'.vm).vm = T'.vm from rfl, hS.1.alike.findClass]; exact hown, fun target k => st.trans k⟩
end OwnW
end Jvm.RoadKit
namespace Jvm.Pilot.@@N@@
open Jvm Jvm.ClassFile Sem Op Lib Jvm.Free Jvm.Stand Jvm.LawKit Jvm.RoadKit Bundle Jvm.Pilot.@@N@@.Jvm.D
def own_law (n0 : Nat) (v : Option Value) (h : Heap) (L : List Loc) : Prop := v = some (.int 1) ∧ Fr n0 L
theorem own_wS {Z : State} {a0 : Array Value} (hw : ∀ d ∈ tables_1, d.before a0 Z = true) : ∀ a ∈ Bundle.stringAtoms, a.before a0 Z = true := by
  intro d hd
  simp only [Bundle.stringAtoms, Bundle.sN, List.mem_cons, List.not_mem_nil, or_false] at hd
  rcases hd with rfl | rfl | rfl | rfl | rfl | rfl | rfl
  · exact hw _ (List.mem_of_getElem? (i := 19) rfl)
  · exact hw _ (List.mem_of_getElem? (i := 20) rfl)
  · exact hw _ (List.mem_of_getElem? (i := 0) rfl)
  · exact hw _ (List.mem_of_getElem? (i := 21) rfl)
  · exact hw _ (List.mem_of_getElem? (i := 22) rfl)
  · exact hw _ (List.mem_of_getElem? (i := 23) rfl)
  · exact hw _ (List.mem_of_getElem? (i := 24) rfl)
theorem own_StaK {Z : State} {h h' : Heap} {C n d : String} {v : Value} (F : Sta Z h C n d v) (K : Keep h h' []) : Sta Z h' C n d v := by
  obtain ⟨cf, i, k, f, st, cell, h1, h2, h3, h4, h5, r⟩ := F
  exact ⟨cf, i, k, f, st, cell, h1, h2, h3, h4, K.2.1 _ _ h5 nin0, r⟩
theorem own_ArrK {Z : State} {h h' : Heap} {a : Addr} {c : Cell} {ty : FieldType} (F : Arr Z h a c ty) (K : Keep h h' []) : Arr Z h' a c ty := ⟨K.2.1 _ _ F.1 nin0, F.2⟩
theorem own_byte (x : Int32) : x.toInt8.toInt32.toInt8.toInt32 = x.toInt8.toInt32 := by simp
theorem own_m3 (x : Int32) : (x &&& 3) = 0 ∨ (x &&& 3) = 1 ∨ (x &&& 3) = 2 ∨ (x &&& 3) = 3 := by
  have h1 : (x &&& 3).toBitVec = x.toBitVec &&& 3#32 := rfl
  have h2 : (x.toBitVec &&& 3#32).toNat ≤ 3 := by rw [BitVec.toNat_and]; exact Nat.and_le_right
  have h3 : (x &&& 3).toInt = ((x.toBitVec &&& 3#32).toNat : Int) := by
    show (x &&& 3).toBitVec.toInt = _
    rw [h1, BitVec.toInt_eq_toNat_cond, if_pos (by omega)]
  have e0 : (0 : Int32).toInt = 0 := rfl
  have e1 : (1 : Int32).toInt = 1 := rfl
  have e2 : (2 : Int32).toInt = 2 := rfl
  have e3 : (3 : Int32).toInt = 3 := rfl
  rw [← Int32.toInt_inj, ← Int32.toInt_inj, ← Int32.toInt_inj, ← Int32.toInt_inj]
  omega
def Q_rmR (Z : State) (a1 : Addr) (h0 : Heap) (n0 : Nat) (v : Option Value) (h : Heap) (L : List Loc) : Prop := v = none ∧ Fr n0 L ∧ h = h0
theorem ef_rmR (m : MethodId) (x0 : Addr) : entryFrame m #[(.ref x0)] 1 = mkF m 0 #[.val (.ref x0)] [] := by first | (simp [entryFrame, mkF, argsToLocals, Value.category]; done) | rfl
theorem pn_java_lang_Record : plainName "java/lang/Record" = true := by first | (simp [plainName, overriddenIn]; done) | decide +kernel
theorem d2_0 : decode jdk_30_method_1_code 0 = .ok (.aload_n 0, 1) := by decide +kernel
theorem d2_1 : decode jdk_30_method_1_code 1 = .ok (.invokespecial 1, 3) := by decide +kernel
theorem d2_4 : decode jdk_30_method_1_code 4 = .ok (.return_, 1) := by decide +kernel
set_option maxRecDepth 65536 in
set_option maxHeartbeats 40000000 in
theorem rmR (l : Launch) (Z : State) (a0 : Array Value) (hw : ∀ d ∈ tables_1, d.before a0 Z = true) (ws : List Jvm.Cond) (a1 : Addr) (h0 : Heap) (n0 : Nat) (Z0 : n0 ≤ h0.size)  :
    MetFree l (⟨"java/lang/Record", "<init>", "()V"⟩ : MethodName) (head1 (Jvm.Cond.code (⟨"java/lang/Record", "<init>", "()V"⟩ : MethodName) jdk_30_method_1_code 1 none :: ws) ({ frames := 1, cells := 0, slots := 0, locals := 12 } : Room)) (fun a U => a = #[(.ref a1)] ∧ Z.Warmed39 U.vm ∧ U.heap = h0) (fun _ _ _ _ _ => True) (fun _ U o U' => ∃ v L, o = .returned v ∧ Q_rmR Z a1 h0 n0 v U'.heap L ∧ FrameEnd U o U' L ({ frames := 1, cells := 0, slots := 0, locals := 12 } : Room).cells ({ frames := 1, cells := 0, slots := 0, locals := 12 } : Room).slots) := by
  refine MetFree.of_bodySF (plainFor_of_name pn_java_lang_Record) hisR ?_
  intro p e s m args below meth c s₁ Bd hml0 hP hK
  obtain ⟨rfl, hZ, hh⟩ := hP
  have hx := Bd.exec
  have hby := Bd.bytes
  have hml : c.maxLocals = 1 := hml0
  have hown : s.vm.findClass "java/lang/Record" = some m.cls := findClass_of_methodNamed Bd.named
  have hnm := (name_of_methodNamed Bd.named Bd.method).1
  have X0 : Stand p l e ({ frames := 1, cells := 0, slots := 0, locals := 12 } : Room) s m #[(.ref a1)] below meth c s₁ [] 0 0 := Stand.of_body Bd
  have e0 : s₁.heap = h0 := by rw [← hh, Bd.state]; rfl
  have N0 := Fr.nil n0
  suffices own_main : own_End p e below s (Q_rmR Z a1 h0 n0) ({ frames := 1, cells := 0, slots := 0, locals := 12 } : Room).cells ({ frames := 1, cells := 0, slots := 0, locals := 12 } : Room).slots s₁ (mkF m 0 #[.val (.ref a1)] []) by
    obtain ⟨s₂, o, k1, k2, k3, k4⟩ := own_main
    exact ⟨s₂, o, castTop (ef_rmR m a1) k1, k2, k3, k4⟩
  show own_End _ _ _ _ _ _ _ s₁ (mkF m 0 #[.val (.ref a1)] [])
  refine own_go (fun t k => XS.aloadN X0.here hx rfl (hb hby d2_0) rfl rfl k) ?_
  show own_End _ _ _ _ _ _ _ s₁ (mkF m 1 #[.val (.ref a1)] [(.ref a1)])
  obtain ⟨T1, X1, e1, st1⟩ := initO X0 hx hZ hown (hw _ (List.mem_of_getElem? (i := 15) rfl)) (hw _ (List.mem_of_getElem? (i := 16) rfl)) (hw _ (List.mem_of_getElem? (i := 17) rfl)) e0 (g := (mkF m 1 #[.val (.ref a1)] [(.ref a1)])) rfl (by rw [hml]; rfl) rfl (hb hby d2_1) (by decide) (W := 0) (by show 2 * 0 + _ ≤ _; exact Nat.le_of_eq rfl) (by decide)
  refine own_go st1 ?_
  show own_End _ _ _ _ _ _ _ T1 (mkF m 4 #[.val (.ref a1)] [])
  exact own_retV X1 hx Bd.returns Bd.notSynchronized (hb hby d2_4) ⟨rfl, N0, e1⟩ (by decide) (by decide)
theorem ef_rmQ (m : MethodId) (x0 : Addr) (x1 : Addr) : entryFrame m #[(.ref x0), (.ref x1)] 2 = mkF m 0 #[.val (.ref x0), .val (.ref x1)] [] := by first | (simp [entryFrame, mkF, argsToLocals, Value.category]; done) | rfl
theorem pn_java_util_Objects : plainName "java/util/Objects" = true := by first | (simp [plainName, overriddenIn]; done) | decide +kernel
theorem d4_0 : decode jdk_31_method_11_code 0 = .ok (.aload_n 0, 1) := by decide +kernel
theorem d4_1 : decode jdk_31_method_11_code 1 = .ok (.ifnonnull 12, 3) := by decide +kernel
theorem d4_13 : decode jdk_31_method_11_code 13 = .ok (.aload_n 0, 1) := by decide +kernel
theorem d4_14 : decode jdk_31_method_11_code 14 = .ok (.areturn, 1) := by decide +kernel
set_option maxRecDepth 65536 in
set_option maxHeartbeats 40000000 in
theorem rmQ (l : Launch) (Z : State) (a0 : Array Value) (hw : ∀ d ∈ tables_1, d.before a0 Z = true) (ws : List Jvm.Cond) (a1 a2 : Addr) (h0 : Heap) (n0 : Nat) (Z0 : n0 ≤ h0.size)  :
    MetFree l (⟨"java/util/Objects", "requireNonNull", "(Ljava/lang/Object;Ljava/lang/String;)Ljava/lang/Object;"⟩ : MethodName) (head1 (Jvm.Cond.code (⟨"java/util/Objects", "requireNonNull", "(Ljava/lang/Object;Ljava/lang/String;)Ljava/lang/Object;"⟩ : MethodName) jdk_31_method_11_code 2 (some (.object "java/lang/Object")) :: ws) ({ frames := 0, cells := 0, slots := 0, locals := 0 } : Room)) (fun a U => a = #[(.ref a1), (.ref a2)] ∧ Z.Warmed39 U.vm ∧ U.heap = h0) (fun _ _ _ _ _ => True) (fun _ U o U' => ∃ v L, o = .returned v ∧ own_pure (.ref a1) h0 n0 v U'.heap L ∧ FrameEnd U o U' L ({ frames := 0, cells := 0, slots := 0, locals := 0 } : Room).cells ({ frames := 0, cells := 0, slots := 0, locals := 0 } : Room).slots) := by
  refine MetFree.of_bodySF (plainFor_of_name pn_java_util_Objects) hisR ?_
  intro p e s m args below meth c s₁ Bd hml0 hP hK
  obtain ⟨rfl, hZ, hh⟩ := hP
  have hx := Bd.exec
  have hby := Bd.bytes
  have hml : c.maxLocals = 2 := hml0
  have hown : s.vm.findClass "java/util/Objects" = some m.cls := findClass_of_methodNamed Bd.named
  have hnm := (name_of_methodNamed Bd.named Bd.method).1
  have X0 : Stand p l e ({ frames := 0, cells := 0, slots := 0, locals := 0 } : Room) s m #[(.ref a1), (.ref a2)] below meth c s₁ [] 0 0 := Stand.of_body Bd
  have e0 : s₁.heap = h0 := by rw [← hh, Bd.state]; rfl
  have N0 := Fr.nil n0
  suffices own_main : own_End p e below s (own_pure (.ref a1) h0 n0) ({ frames := 0, cells := 0, slots := 0, locals := 0 } : Room).cells ({ frames := 0, cells := 0, slots := 0, locals := 0 } : Room).slots s₁ (mkF m 0 #[.val (.ref a1), .val (.ref a2)] []) by
    obtain ⟨s₂, o, k1, k2, k3, k4⟩ := own_main
    exact ⟨s₂, o, castTop (ef_rmQ m a1 a2) k1, k2, k3, k4⟩
  show own_End _ _ _ _ _ _ _ s₁ (mkF m 0 #[.val (.ref a1), .val (.ref a2)] [])
  refine own_go (fun t k => XS.aloadN X0.here hx rfl (hb hby d4_0) rfl rfl k) ?_
  show own_End _ _ _ _ _ _ _ s₁ (mkF m 1 #[.val (.ref a1), .val (.ref a2)] [(.ref a1)])
  refine own_go (fun t k => XS.ifnonnullYes X0.here hx rfl (pc0 := 1) (pc' := 13) rfl (hb hby d4_1) rfl (by decide) (by decide) k) ?_
  show own_End _ _ _ _ _ _ _ s₁ (mkF m 13 #[.val (.ref a1), .val (.ref a2)] [])
  refine own_go (fun t k => XS.aloadN X0.here hx rfl (hb hby d4_13) rfl rfl k) ?_
  show own_End _ _ _ _ _ _ _ s₁ (mkF m 14 #[.val (.ref a1), .val (.ref a2)] [(.ref a1)])
  exact own_retW X0 hx Bd.returns Bd.notSynchronized rfl (Or.inr (Or.inr (Or.inr (Or.inr ⟨rfl, rfl, rfl⟩)))) (hb hby d4_14) ⟨rfl, N0, e0⟩ (by decide) (by decide)
def Q_rmS0 (Z : State) (a1 : Addr) (cl : Cell) (h0 : Heap) (n0 : Nat) (v : Option Value) (h : Heap) (L : List Loc) : Prop := v = none ∧ Fr n0 L ∧ h = h0
theorem ef_rmS0 (m : MethodId) (x0 : Addr) : entryFrame m #[(.ref x0)] 1 = mkF m 0 #[.val (.ref x0)] [] := by first | (simp [entryFrame, mkF, argsToLocals, Value.category]; done) | rfl
theorem pn_com_example_coxswain_coxswain_wire_StatusDetailsPinLaw : plainName "com/example/coxswain/coxswain/wire/StatusDetailsPinLaw" = true := by first | (simp [plainName, overriddenIn]; done) | decide +kernel
theorem d5_0 : decode method_4_code 0 = .ok (.aload_n 0, 1) := by decide +kernel
theorem d5_1 : decode method_4_code 1 = .ok (.arraylength, 1) := by decide +kernel
theorem d5_2 : decode method_4_code 2 = .ok (.ifCond .le 12, 3) := by decide +kernel
theorem d5_14 : decode method_4_code 14 = .ok (.aload_n 0, 1) := by decide +kernel
theorem d5_15 : decode method_4_code 15 = .ok (.arraylength, 1) := by decide +kernel
theorem d5_16 : decode method_4_code 16 = .ok (.iconst 1, 1) := by decide +kernel
theorem d5_17 : decode method_4_code 17 = .ok (.if_icmp .le 12, 3) := by decide +kernel
theorem d5_29 : decode method_4_code 29 = .ok (.aload_n 0, 1) := by decide +kernel
theorem d5_30 : decode method_4_code 30 = .ok (.arraylength, 1) := by decide +kernel
theorem d5_31 : decode method_4_code 31 = .ok (.iconst 2, 1) := by decide +kernel
theorem d5_32 : decode method_4_code 32 = .ok (.if_icmp .le 12, 3) := by decide +kernel
theorem d5_44 : decode method_4_code 44 = .ok (.return_, 1) := by decide +kernel
set_option maxRecDepth 65536 in
set_option maxHeartbeats 40000000 in
theorem rmS0 (l : Launch) (Z : State) (a0 : Array Value) (hw : ∀ d ∈ tables_1, d.before a0 Z = true) (ws : List Jvm.Cond) (a1 : Addr) (cl : Cell) (h0 : Heap) (n0 : Nat) (Z0 : n0 ≤ h0.size) (Ar : Arr Z h0 a1 cl .byte) (Sz : cl.slots.size = (0 : Int32).toNatClampNeg) :
    MetFree l (⟨"com/example/coxswain/coxswain/wire/StatusDetailsPinLaw", "scramble", "([B)V"⟩ : MethodName) (head1 (Jvm.Cond.code (⟨"com/example/coxswain/coxswain/wire/StatusDetailsPinLaw", "scramble", "([B)V"⟩ : MethodName) method_4_code 1 none :: ws) ({ frames := 0, cells := 0, slots := 0, locals := 0 } : Room)) (fun a U => a = #[(.ref a1)] ∧ Z.Warmed39 U.vm ∧ U.heap = h0) (fun _ _ _ _ _ => True) (fun _ U o U' => ∃ v L, o = .returned v ∧ Q_rmS0 Z a1 cl h0 n0 v U'.heap L ∧ FrameEnd U o U' L ({ frames := 0, cells := 0, slots := 0, locals := 0 } : Room).cells ({ frames := 0, cells := 0, slots := 0, locals := 0 } : Room).slots) := by
  refine MetFree.of_bodySF (plainFor_of_name pn_com_example_coxswain_coxswain_wire_StatusDetailsPinLaw) hisR ?_
  intro p e s m args below meth c s₁ Bd hml0 hP hK
  obtain ⟨rfl, hZ, hh⟩ := hP
  have hx := Bd.exec
  have hby := Bd.bytes
  have hml : c.maxLocals = 1 := hml0
  have hown : s.vm.findClass "com/example/coxswain/coxswain/wire/StatusDetailsPinLaw" = some m.cls := findClass_of_methodNamed Bd.named
  have hnm := (name_of_methodNamed Bd.named Bd.method).1
  have X0 : Stand p l e ({ frames := 0, cells := 0, slots := 0, locals := 0 } : Room) s m #[(.ref a1)] below meth c s₁ [] 0 0 := Stand.of_body Bd
  have e0 : s₁.heap = h0 := by rw [← hh, Bd.state]; rfl
  have N0 := Fr.nil n0
  suffices own_main : own_End p e below s (Q_rmS0 Z a1 cl h0 n0) ({ frames := 0, cells := 0, slots := 0, locals := 0 } : Room).cells ({ frames := 0, cells := 0, slots := 0, locals := 0 } : Room).slots s₁ (mkF m 0 #[.val (.ref a1)] []) by
    obtain ⟨s₂, o, k1, k2, k3, k4⟩ := own_main
    exact ⟨s₂, o, castTop (ef_rmS0 m a1) k1, k2, k3, k4⟩
  show own_End _ _ _ _ _ _ _ s₁ (mkF m 0 #[.val (.ref a1)] [])
  refine own_go (fun t k => XS.aloadN X0.here hx rfl (hb hby d5_0) rfl rfl k) ?_
  show own_End _ _ _ _ _ _ _ s₁ (mkF m 1 #[.val (.ref a1)] [(.ref a1)])
  refine own_go (fun t k => X0.arraylength hx (by rw [e0]; exact Ar.1) (State.isArrayOf_alike hZ.alike Ar.2.1) (g := (mkF m 1 #[.val (.ref a1)] [(.ref a1)])) rfl rfl (hb hby d5_1) t k) ?_
  rw [len_of Sz (by decide : ¬ (0 : Int32) < 0)]
  show own_End _ _ _ _ _ _ _ s₁ (mkF m 2 #[.val (.ref a1)] [(.int (0 : Int32))])
  refine own_go (fun t k => XS.ifYes X0.here hx rfl (pc0 := 2) (pc' := 14) rfl (hb hby d5_2) rfl ((if0 _ _).trans (flt (by decide : ¬ ((0 : Int32) < (0 : Int32)))).2.2.2) (by decide) (by decide) k) ?_
  show own_End _ _ _ _ _ _ _ s₁ (mkF m 14 #[.val (.ref a1)] [])
  refine own_go (fun t k => XS.aloadN X0.here hx rfl (hb hby d5_14) rfl rfl k) ?_
  show own_End _ _ _ _ _ _ _ s₁ (mkF m 15 #[.val (.ref a1)] [(.ref a1)])
  refine own_go (fun t k => X0.arraylength hx (by rw [e0]; exact Ar.1) (State.isArrayOf_alike hZ.alike Ar.2.1) (g := (mkF m 15 #[.val (.ref a1)] [(.ref a1)])) rfl rfl (hb hby d5_15) t k) ?_
  rw [len_of Sz (by decide : ¬ (0 : Int32) < 0)]
  show own_End _ _ _ _ _ _ _ s₁ (mkF m 16 #[.val (.ref a1)] [(.int (0 : Int32))])
  refine own_go (fun t k => XS.iconst X0.here hx rfl (hb hby d5_16) k) ?_
  show own_End _ _ _ _ _ _ _ s₁ (mkF m 17 #[.val (.ref a1)] [(.int (1 : Int32)), (.int (0 : Int32))])
  refine own_go (fun t k => XS.icmpYes X0.here hx rfl (pc0 := 17) (pc' := 29) rfl (hb hby d5_17) rfl (flt (by decide : ¬ ((1 : Int32) < (0 : Int32)))).2.2.2 (by decide) (by decide) k) ?_
  show own_End _ _ _ _ _ _ _ s₁ (mkF m 29 #[.val (.ref a1)] [])
  refine own_go (fun t k => XS.aloadN X0.here hx rfl (hb hby d5_29) rfl rfl k) ?_
  show own_End _ _ _ _ _ _ _ s₁ (mkF m 30 #[.val (.ref a1)] [(.ref a1)])
  refine own_go (fun t k => X0.arraylength hx (by rw [e0]; exact Ar.1) (State.isArrayOf_alike hZ.alike Ar.2.1) (g := (mkF m 30 #[.val (.ref a1)] [(.ref a1)])) rfl rfl (hb hby d5_30) t k) ?_
  rw [len_of Sz (by decide : ¬ (0 : Int32) < 0)]
  show own_End _ _ _ _ _ _ _ s₁ (mkF m 31 #[.val (.ref a1)] [(.int (0 : Int32))])
  refine own_go (fun t k => XS.iconst X0.here hx rfl (hb hby d5_31) k) ?_
  show own_End _ _ _ _ _ _ _ s₁ (mkF m 32 #[.val (.ref a1)] [(.int (2 : Int32)), (.int (0 : Int32))])
  refine own_go (fun t k => XS.icmpYes X0.here hx rfl (pc0 := 32) (pc' := 44) rfl (hb hby d5_32) rfl (flt (by decide : ¬ ((2 : Int32) < (0 : Int32)))).2.2.2 (by decide) (by decide) k) ?_
  show own_End _ _ _ _ _ _ _ s₁ (mkF m 44 #[.val (.ref a1)] [])
  exact own_retV X0 hx Bd.returns Bd.notSynchronized (hb hby d5_44) ⟨rfl, N0, e0⟩ (by decide) (by decide)
def Q_rmS1 (Z : State) (a1 : Addr) (k : ClassId) (u0 : Int32) (h0 : Heap) (n0 : Nat) (v : Option Value) (h : Heap) (L : List Loc) : Prop := v = none ∧ Fr n0 L ∧ Keep h0 h [a1]
theorem ef_rmS1 (m : MethodId) (x0 : Addr) : entryFrame m #[(.ref x0)] 1 = mkF m 0 #[.val (.ref x0)] [] := by first | (simp [entryFrame, mkF, argsToLocals, Value.category]; done) | rfl
theorem d5_5 : decode method_4_code 5 = .ok (.aload_n 0, 1) := by decide +kernel
theorem d5_6 : decode method_4_code 6 = .ok (.iconst 0, 1) := by decide +kernel
theorem d5_7 : decode method_4_code 7 = .ok (.aload_n 0, 1) := by decide +kernel
theorem d5_8 : decode method_4_code 8 = .ok (.iconst 0, 1) := by decide +kernel
theorem d5_9 : decode method_4_code 9 = .ok (.baload, 1) := by decide +kernel
theorem d5_10 : decode method_4_code 10 = .ok (.iconst (-1), 1) := by decide +kernel
theorem d5_11 : decode method_4_code 11 = .ok (.ixor, 1) := by decide +kernel
theorem d5_12 : decode method_4_code 12 = .ok (.i2b, 1) := by decide +kernel
theorem d5_13 : decode method_4_code 13 = .ok (.bastore, 1) := by decide +kernel
set_option maxRecDepth 65536 in
set_option maxHeartbeats 40000000 in
theorem rmS1 (l : Launch) (Z : State) (a0 : Array Value) (hw : ∀ d ∈ tables_1, d.before a0 Z = true) (ws : List Jvm.Cond) (a1 : Addr) (k : ClassId) (u0 : Int32) (h0 : Heap) (n0 : Nat) (Z0 : n0 ≤ h0.size) (V : Arv Z h0 a1 k .byte (1 : Int32) [(.int u0)] (.int (0 : Int32))) (g1 : n0 ≤ a1) :
    MetFree l (⟨"com/example/coxswain/coxswain/wire/StatusDetailsPinLaw", "scramble", "([B)V"⟩ : MethodName) (head1 (Jvm.Cond.code (⟨"com/example/coxswain/coxswain/wire/StatusDetailsPinLaw", "scramble", "([B)V"⟩ : MethodName) method_4_code 1 none :: ws) ({ frames := 0, cells := 0, slots := 0, locals := 0 } : Room)) (fun a U => a = #[(.ref a1)] ∧ Z.Warmed39 U.vm ∧ U.heap = h0) (fun _ _ _ _ _ => True) (fun _ U o U' => ∃ v L, o = .returned v ∧ Q_rmS1 Z a1 k u0 h0 n0 v U'.heap L ∧ FrameEnd U o U' L ({ frames := 0, cells := 0, slots := 0, locals := 0 } : Room).cells ({ frames := 0, cells := 0, slots := 0, locals := 0 } : Room).slots) := by
  refine MetFree.of_bodySF (plainFor_of_name pn_com_example_coxswain_coxswain_wire_StatusDetailsPinLaw) hisR ?_
  intro p e s m args below meth c s₁ Bd hml0 hP hK
  obtain ⟨rfl, hZ, hh⟩ := hP
  have hx := Bd.exec
  have hby := Bd.bytes
  have hml : c.maxLocals = 1 := hml0
  have hown : s.vm.findClass "com/example/coxswain/coxswain/wire/StatusDetailsPinLaw" = some m.cls := findClass_of_methodNamed Bd.named
  have hnm := (name_of_methodNamed Bd.named Bd.method).1
  have X0 : Stand p l e ({ frames := 0, cells := 0, slots := 0, locals := 0 } : Room) s m #[(.ref a1)] below meth c s₁ [] 0 0 := Stand.of_body Bd
  have e0 : s₁.heap = h0 := by rw [← hh, Bd.state]; rfl
  have N0 := Fr.nil n0
  suffices own_main : own_End p e below s (Q_rmS1 Z a1 k u0 h0 n0) ({ frames := 0, cells := 0, slots := 0, locals := 0 } : Room).cells ({ frames := 0, cells := 0, slots := 0, locals := 0 } : Room).slots s₁ (mkF m 0 #[.val (.ref a1)] []) by
    obtain ⟨s₂, o, k1, k2, k3, k4⟩ := own_main
    exact ⟨s₂, o, castTop (ef_rmS1 m a1) k1, k2, k3, k4⟩
  show own_End _ _ _ _ _ _ _ s₁ (mkF m 0 #[.val (.ref a1)] [])
  refine own_go (fun t k => XS.aloadN X0.here hx rfl (hb hby d5_0) rfl rfl k) ?_
  show own_End _ _ _ _ _ _ _ s₁ (mkF m 1 #[.val (.ref a1)] [(.ref a1)])
  obtain ⟨cl2, Ar2, q2, S2, M2, H2, G2⟩ := id V
  refine own_go (fun t k => X0.arraylength hx (by rw [e0]; exact Ar2.1) (State.isArrayOf_alike hZ.alike Ar2.2.1) (g := (mkF m 1 #[.val (.ref a1)] [(.ref a1)])) rfl rfl (hb hby d5_1) t k) ?_
  rw [len_of S2 M2]
  show own_End _ _ _ _ _ _ _ s₁ (mkF m 2 #[.val (.ref a1)] [(.int (1 : Int32))])
  refine own_go (fun t k => XS.ifNo X0.here hx rfl (hb hby d5_2) rfl ((if0 _ _).trans (tlt (by decide : (0 : Int32) < (1 : Int32))).2.2.2) k) ?_
  show own_End _ _ _ _ _ _ _ s₁ (mkF m 5 #[.val (.ref a1)] [])
  refine own_go (fun t k => XS.aloadN X0.here hx rfl (hb hby d5_5) rfl rfl k) ?_
  show own_End _ _ _ _ _ _ _ s₁ (mkF m 6 #[.val (.ref a1)] [(.ref a1)])
  refine own_go (fun t k => XS.iconst X0.here hx rfl (hb hby d5_6) k) ?_
  show own_End _ _ _ _ _ _ _ s₁ (mkF m 7 #[.val (.ref a1)] [(.int (0 : Int32)), (.ref a1)])
  refine own_go (fun t k => XS.aloadN X0.here hx rfl (hb hby d5_7) rfl rfl k) ?_
  show own_End _ _ _ _ _ _ _ s₁ (mkF m 8 #[.val (.ref a1)] [(.ref a1), (.int (0 : Int32)), (.ref a1)])
  refine own_go (fun t k => XS.iconst X0.here hx rfl (hb hby d5_8) k) ?_
  show own_End _ _ _ _ _ _ _ s₁ (mkF m 9 #[.val (.ref a1)] [(.int (0 : Int32)), (.ref a1), (.int (0 : Int32)), (.ref a1)])
  obtain ⟨cl3, Ar3, q3, S3, M3, H3, G3⟩ := id V
  refine own_go (fun t k => X0.baloadBytes hx (j := (0 : Int32)) (v := (.int u0)) (by rw [e0]; exact Ar3.1) (State.isArrayOf_alike hZ.alike Ar3.2.1) Ar3.2.2 (inb_of S3 ⟨by decide, by decide⟩) (H3.at (inb_of S3 ⟨by decide, by decide⟩) rfl) (g := (mkF m 9 #[.val (.ref a1)] [(.int (0 : Int32)), (.ref a1), (.int (0 : Int32)), (.ref a1)])) rfl rfl (hb hby d5_9) t k) ?_
  show own_End _ _ _ _ _ _ _ s₁ (mkF m 10 #[.val (.ref a1)] [(.int u0), (.int (0 : Int32)), (.ref a1)])
  refine own_go (fun t k => XS.iconst X0.here hx rfl (hb hby d5_10) k) ?_
  show own_End _ _ _ _ _ _ _ s₁ (mkF m 11 #[.val (.ref a1)] [(.int (-1 : Int32)), (.int u0), (.int (0 : Int32)), (.ref a1)])
  refine own_go (fun t k => XS.ixor X0.here hx rfl (hb hby d5_11) rfl k) ?_
  show own_End _ _ _ _ _ _ _ s₁ (mkF m 12 #[.val (.ref a1)] [(.int (u0 ^^^ (-1 : Int32))), (.int (0 : Int32)), (.ref a1)])
  refine own_go (fun t k => XS.i2b X0.here hx rfl (hb hby d5_12) rfl k) ?_
  show own_End _ _ _ _ _ _ _ s₁ (mkF m 13 #[.val (.ref a1)] [(.int ((u0 ^^^ (-1 : Int32)).toInt8.toInt32)), (.int (0 : Int32)), (.ref a1)])
  obtain ⟨cl4, Ar4, q4, S4, M4, H4, G4⟩ := V
  obtain ⟨T4, h4, X4, e4, W4, st4⟩ := stB X0 hx hZ e0 Ar4 (j := (0 : Int32)) (inb_of S4 ⟨by decide, by decide⟩) (g := (mkF m 13 #[.val (.ref a1)] [(.int ((u0 ^^^ (-1 : Int32)).toInt8.toInt32)), (.int (0 : Int32)), (.ref a1)])) rfl rfl (hb hby d5_13)
  have V4 := Arv.set Ar4 q4 S4 M4 H4 G4 (fits_nar_byte _) W4 0 rfl (Nat.le_of_ble_eq_true rfl)
  have K5 : Keep h0 h4 [a1] := (Keep.refl h0 [a1]).wr W4 (Or.inl (by simp))
  have N4 := Fr.snoc X4 N0 g1
  refine own_go st4 ?_
  show own_End _ _ _ _ _ _ _ T4 (mkF m 14 #[.val (.ref a1)] [])
  refine own_go (fun t k => XS.aloadN X4.here hx rfl (hb hby d5_14) rfl rfl k) ?_
  show own_End _ _ _ _ _ _ _ T4 (mkF m 15 #[.val (.ref a1)] [(.ref a1)])
  obtain ⟨cl6, Ar6, q6, S6, M6, H6, G6⟩ := id V4
  refine own_go (fun t k => X4.arraylength hx (by rw [e4]; exact Ar6.1) (State.isArrayOf_alike hZ.alike Ar6.2.1) (g := (mkF m 15 #[.val (.ref a1)] [(.ref a1)])) rfl rfl (hb hby d5_15) t k) ?_
  rw [len_of S6 M6]
  show own_End _ _ _ _ _ _ _ T4 (mkF m 16 #[.val (.ref a1)] [(.int (1 : Int32))])
  refine own_go (fun t k => XS.iconst X4.here hx rfl (hb hby d5_16) k) ?_
  show own_End _ _ _ _ _ _ _ T4 (mkF m 17 #[.val (.ref a1)] [(.int (1 : Int32)), (.int (1 : Int32))])
  refine own_go (fun t k => XS.icmpYes X4.here hx rfl (pc0 := 17) (pc' := 29) rfl (hb hby d5_17) rfl (flt (by decide : ¬ ((1 : Int32) < (1 : Int32)))).2.2.2 (by decide) (by decide) k) ?_
  show own_End _ _ _ _ _ _ _ T4 (mkF m 29 #[.val (.ref a1)] [])
  refine own_go (fun t k => XS.aloadN X4.here hx rfl (hb hby d5_29) rfl rfl k) ?_
  show own_End _ _ _ _ _ _ _ T4 (mkF m 30 #[.val (.ref a1)] [(.ref a1)])
  obtain ⟨cl7, Ar7, q7, S7, M7, H7, G7⟩ := id V4
  refine own_go (fun t k => X4.arraylength hx (by rw [e4]; exact Ar7.1) (State.isArrayOf_alike hZ.alike Ar7.2.1) (g := (mkF m 30 #[.val (.ref a1)] [(.ref a1)])) rfl rfl (hb hby d5_30) t k) ?_
  rw [len_of S7 M7]
  show own_End _ _ _ _ _ _ _ T4 (mkF m 31 #[.val (.ref a1)] [(.int (1 : Int32))])
  refine own_go (fun t k => XS.iconst X4.here hx rfl (hb hby d5_31) k) ?_
  show own_End _ _ _ _ _ _ _ T4 (mkF m 32 #[.val (.ref a1)] [(.int (2 : Int32)), (.int (1 : Int32))])
  refine own_go (fun t k => XS.icmpYes X4.here hx rfl (pc0 := 32) (pc' := 44) rfl (hb hby d5_32) rfl (flt (by decide : ¬ ((2 : Int32) < (1 : Int32)))).2.2.2 (by decide) (by decide) k) ?_
  show own_End _ _ _ _ _ _ _ T4 (mkF m 44 #[.val (.ref a1)] [])
  exact own_retV X4 hx Bd.returns Bd.notSynchronized (hb hby d5_44) ⟨rfl, N4, by rw [e4]; exact K5⟩ (by decide) (by decide)
def Q_rmS2 (Z : State) (a1 : Addr) (k : ClassId) (u0 u1 : Int32) (h0 : Heap) (n0 : Nat) (v : Option Value) (h : Heap) (L : List Loc) : Prop := v = none ∧ Fr n0 L ∧ Keep h0 h [a1]
theorem ef_rmS2 (m : MethodId) (x0 : Addr) : entryFrame m #[(.ref x0)] 1 = mkF m 0 #[.val (.ref x0)] [] := by first | (simp [entryFrame, mkF, argsToLocals, Value.category]; done) | rfl
theorem d5_20 : decode method_4_code 20 = .ok (.aload_n 0, 1) := by decide +kernel
theorem d5_21 : decode method_4_code 21 = .ok (.iconst 1, 1) := by decide +kernel
theorem d5_22 : decode method_4_code 22 = .ok (.aload_n 0, 1) := by decide +kernel
theorem d5_23 : decode method_4_code 23 = .ok (.iconst 1, 1) := by decide +kernel
theorem d5_24 : decode method_4_code 24 = .ok (.baload, 1) := by decide +kernel
theorem d5_25 : decode method_4_code 25 = .ok (.iconst (-1), 1) := by decide +kernel
theorem d5_26 : decode method_4_code 26 = .ok (.ixor, 1) := by decide +kernel
theorem d5_27 : decode method_4_code 27 = .ok (.i2b, 1) := by decide +kernel
theorem d5_28 : decode method_4_code 28 = .ok (.bastore, 1) := by decide +kernel
set_option maxRecDepth 65536 in
set_option maxHeartbeats 40000000 in
theorem rmS2 (l : Launch) (Z : State) (a0 : Array Value) (hw : ∀ d ∈ tables_1, d.before a0 Z = true) (ws : List Jvm.Cond) (a1 : Addr) (k : ClassId) (u0 u1 : Int32) (h0 : Heap) (n0 : Nat) (Z0 : n0 ≤ h0.size) (V : Arv Z h0 a1 k .byte (2 : Int32) [(.int u0), (.int u1)] (.int (0 : Int32))) (g1 : n0 ≤ a1) :
    MetFree l (⟨"com/example/coxswain/coxswain/wire/StatusDetailsPinLaw", "scramble", "([B)V"⟩ : MethodName) (head1 (Jvm.Cond.code (⟨"com/example/coxswain/coxswain/wire/StatusDetailsPinLaw", "scramble", "([B)V"⟩ : MethodName) method_4_code 1 none :: ws) ({ frames := 0, cells := 0, slots := 0, locals := 0 } : Room)) (fun a U => a = #[(.ref a1)] ∧ Z.Warmed39 U.vm ∧ U.heap = h0) (fun _ _ _ _ _ => True) (fun _ U o U' => ∃ v L, o = .returned v ∧ Q_rmS2 Z a1 k u0 u1 h0 n0 v U'.heap L ∧ FrameEnd U o U' L ({ frames := 0, cells := 0, slots := 0, locals := 0 } : Room).cells ({ frames := 0, cells := 0, slots := 0, locals := 0 } : Room).slots) := by
  refine MetFree.of_bodySF (plainFor_of_name pn_com_example_coxswain_coxswain_wire_StatusDetailsPinLaw) hisR ?_
  intro p e s m args below meth c s₁ Bd hml0 hP hK
  obtain ⟨rfl, hZ, hh⟩ := hP
  have hx := Bd.exec
  have hby := Bd.bytes
  have hml : c.maxLocals = 1 := hml0
  have hown : s.vm.findClass "com/example/coxswain/coxswain/wire/StatusDetailsPinLaw" = some m.cls := findClass_of_methodNamed Bd.named
  have hnm := (name_of_methodNamed Bd.named Bd.method).1
  have X0 : Stand p l e ({ frames := 0, cells := 0, slots := 0, locals := 0 } : Room) s m #[(.ref a1)] below meth c s₁ [] 0 0 := Stand.of_body Bd
  have e0 : s₁.heap = h0 := by rw [← hh, Bd.state]; rfl
  have N0 := Fr.nil n0
  suffices own_main : own_End p e below s (Q_rmS2 Z a1 k u0 u1 h0 n0) ({ frames := 0, cells := 0, slots := 0, locals := 0 } : Room).cells ({ frames := 0, cells := 0, slots := 0, locals := 0 } : Room).slots s₁ (mkF m 0 #[.val (.ref a1)] []) by
    obtain ⟨s₂, o, k1, k2, k3, k4⟩ := own_main
    exact ⟨s₂, o, castTop (ef_rmS2 m a1) k1, k2, k3, k4⟩
  show own_End _ _ _ _ _ _ _ s₁ (mkF m 0 #[.val (.ref a1)] [])
  refine own_go (fun t k => XS.aloadN X0.here hx rfl (hb hby d5_0) rfl rfl k) ?_
  show own_End _ _ _ _ _ _ _ s₁ (mkF m 1 #[.val (.ref a1)] [(.ref a1)])
  obtain ⟨cl8, Ar8, q8, S8, M8, H8, G8⟩ := id V
  refine own_go (fun t k => X0.arraylength hx (by rw [e0]; exact Ar8.1) (State.isArrayOf_alike hZ.alike Ar8.2.1) (g := (mkF m 1 #[.val (.ref a1)] [(.ref a1)])) rfl rfl (hb hby d5_1) t k) ?_
  rw [len_of S8 M8]
  show own_End _ _ _ _ _ _ _ s₁ (mkF m 2 #[.val (.ref a1)] [(.int (2 : Int32))])
  refine own_go (fun t k => XS.ifNo X0.here hx rfl (hb hby d5_2) rfl ((if0 _ _).trans (tlt (by decide : (0 : Int32) < (2 : Int32))).2.2.2) k) ?_
  show own_End _ _ _ _ _ _ _ s₁ (mkF m 5 #[.val (.ref a1)] [])
  refine own_go (fun t k => XS.aloadN X0.here hx rfl (hb hby d5_5) rfl rfl k) ?_
  show own_End _ _ _ _ _ _ _ s₁ (mkF m 6 #[.val (.ref a1)] [(.ref a1)])
  refine own_go (fun t k => XS.iconst X0.here hx rfl (hb hby d5_6) k) ?_
  show own_End _ _ _ _ _ _ _ s₁ (mkF m 7 #[.val (.ref a1)] [(.int (0 : Int32)), (.ref a1)])
  refine own_go (fun t k => XS.aloadN X0.here hx rfl (hb hby d5_7) rfl rfl k) ?_
  show own_End _ _ _ _ _ _ _ s₁ (mkF m 8 #[.val (.ref a1)] [(.ref a1), (.int (0 : Int32)), (.ref a1)])
  refine own_go (fun t k => XS.iconst X0.here hx rfl (hb hby d5_8) k) ?_
  show own_End _ _ _ _ _ _ _ s₁ (mkF m 9 #[.val (.ref a1)] [(.int (0 : Int32)), (.ref a1), (.int (0 : Int32)), (.ref a1)])
  obtain ⟨cl9, Ar9, q9, S9, M9, H9, G9⟩ := id V
  refine own_go (fun t k => X0.baloadBytes hx (j := (0 : Int32)) (v := (.int u0)) (by rw [e0]; exact Ar9.1) (State.isArrayOf_alike hZ.alike Ar9.2.1) Ar9.2.2 (inb_of S9 ⟨by decide, by decide⟩) (H9.at (inb_of S9 ⟨by decide, by decide⟩) rfl) (g := (mkF m 9 #[.val (.ref a1)] [(.int (0 : Int32)), (.ref a1), (.int (0 : Int32)), (.ref a1)])) rfl rfl (hb hby d5_9) t k) ?_
  show own_End _ _ _ _ _ _ _ s₁ (mkF m 10 #[.val (.ref a1)] [(.int u0), (.int (0 : Int32)), (.ref a1)])
  refine own_go (fun t k => XS.iconst X0.here hx rfl (hb hby d5_10) k) ?_
  show own_End _ _ _ _ _ _ _ s₁ (mkF m 11 #[.val (.ref a1)] [(.int (-1 : Int32)), (.int u0), (.int (0 : Int32)), (.ref a1)])
  refine own_go (fun t k => XS.ixor X0.here hx rfl (hb hby d5_11) rfl k) ?_
  show own_End _ _ _ _ _ _ _ s₁ (mkF m 12 #[.val (.ref a1)] [(.int (u0 ^^^ (-1 : Int32))), (.int (0 : Int32)), (.ref a1)])
  refine own_go (fun t k => XS.i2b X0.here hx rfl (hb hby d5_12) rfl k) ?_
  show own_End _ _ _ _ _ _ _ s₁ (mkF m 13 #[.val (.ref a1)] [(.int ((u0 ^^^ (-1 : Int32)).toInt8.toInt32)), (.int (0 : Int32)), (.ref a1)])
  obtain ⟨cl10, Ar10, q10, S10, M10, H10, G10⟩ := V
  obtain ⟨T10, h10, X10, e10, W10, st10⟩ := stB X0 hx hZ e0 Ar10 (j := (0 : Int32)) (inb_of S10 ⟨by decide, by decide⟩) (g := (mkF m 13 #[.val (.ref a1)] [(.int ((u0 ^^^ (-1 : Int32)).toInt8.toInt32)), (.int (0 : Int32)), (.ref a1)])) rfl rfl (hb hby d5_13)
  have V10 := Arv.set Ar10 q10 S10 M10 H10 G10 (fits_nar_byte _) W10 0 rfl (Nat.le_of_ble_eq_true rfl)
  have K11 : Keep h0 h10 [a1] := (Keep.refl h0 [a1]).wr W10 (Or.inl (by simp))
  have N10 := Fr.snoc X10 N0 g1
  refine own_go st10 ?_
  show own_End _ _ _ _ _ _ _ T10 (mkF m 14 #[.val (.ref a1)] [])
  refine own_go (fun t k => XS.aloadN X10.here hx rfl (hb hby d5_14) rfl rfl k) ?_
  show own_End _ _ _ _ _ _ _ T10 (mkF m 15 #[.val (.ref a1)] [(.ref a1)])
  obtain ⟨cl12, Ar12, q12, S12, M12, H12, G12⟩ := id V10
  refine own_go (fun t k => X10.arraylength hx (by rw [e10]; exact Ar12.1) (State.isArrayOf_alike hZ.alike Ar12.2.1) (g := (mkF m 15 #[.val (.ref a1)] [(.ref a1)])) rfl rfl (hb hby d5_15) t k) ?_
  rw [len_of S12 M12]
  show own_End _ _ _ _ _ _ _ T10 (mkF m 16 #[.val (.ref a1)] [(.int (2 : Int32))])
  refine own_go (fun t k => XS.iconst X10.here hx rfl (hb hby d5_16) k) ?_
  show own_End _ _ _ _ _ _ _ T10 (mkF m 17 #[.val (.ref a1)] [(.int (1 : Int32)), (.int (2 : Int32))])
  refine own_go (fun t k => XS.icmpNo X10.here hx rfl (hb hby d5_17) rfl (tlt (by decide : (1 : Int32) < (2 : Int32))).2.2.2 k) ?_
  show own_End _ _ _ _ _ _ _ T10 (mkF m 20 #[.val (.ref a1)] [])
  refine own_go (fun t k => XS.aloadN X10.here hx rfl (hb hby d5_20) rfl rfl k) ?_
  show own_End _ _ _ _ _ _ _ T10 (mkF m 21 #[.val (.ref a1)] [(.ref a1)])
  refine own_go (fun t k => XS.iconst X10.here hx rfl (hb hby d5_21) k) ?_
  show own_End _ _ _ _ _ _ _ T10 (mkF m 22 #[.val (.ref a1)] [(.int (1 : Int32)), (.ref a1)])
  refine own_go (fun t k => XS.aloadN X10.here hx rfl (hb hby d5_22) rfl rfl k) ?_
  show own_End _ _ _ _ _ _ _ T10 (mkF m 23 #[.val (.ref a1)] [(.ref a1), (.int (1 : Int32)), (.ref a1)])
  refine own_go (fun t k => XS.iconst X10.here hx rfl (hb hby d5_23) k) ?_
  show own_End _ _ _ _ _ _ _ T10 (mkF m 24 #[.val (.ref a1)] [(.int (1 : Int32)), (.ref a1), (.int (1 : Int32)), (.ref a1)])
  obtain ⟨cl13, Ar13, q13, S13, M13, H13, G13⟩ := id V10
  refine own_go (fun t k => X10.baloadBytes hx (j := (1 : Int32)) (v := (.int u1)) (by rw [e10]; exact Ar13.1) (State.isArrayOf_alike hZ.alike Ar13.2.1) Ar13.2.2 (inb_of S13 ⟨by decide, by decide⟩) (H13.at (inb_of S13 ⟨by decide, by decide⟩) rfl) (g := (mkF m 24 #[.val (.ref a1)] [(.int (1 : Int32)), (.ref a1), (.int (1 : Int32)), (.ref a1)])) rfl rfl (hb hby d5_24) t k) ?_
  show own_End _ _ _ _ _ _ _ T10 (mkF m 25 #[.val (.ref a1)] [(.int u1), (.int (1 : Int32)), (.ref a1)])
  refine own_go (fun t k => XS.iconst X10.here hx rfl (hb hby d5_25) k) ?_
  show own_End _ _ _ _ _ _ _ T10 (mkF m 26 #[.val (.ref a1)] [(.int (-1 : Int32)), (.int u1), (.int (1 : Int32)), (.ref a1)])
  refine own_go (fun t k => XS.ixor X10.here hx rfl (hb hby d5_26) rfl k) ?_
  show own_End _ _ _ _ _ _ _ T10 (mkF m 27 #[.val (.ref a1)] [(.int (u1 ^^^ (-1 : Int32))), (.int (1 : Int32)), (.ref a1)])
  refine own_go (fun t k => XS.i2b X10.here hx rfl (hb hby d5_27) rfl k) ?_
  show own_End _ _ _ _ _ _ _ T10 (mkF m 28 #[.val (.ref a1)] [(.int ((u1 ^^^ (-1 : Int32)).toInt8.toInt32)), (.int (1 : Int32)), (.ref a1)])
  obtain ⟨cl14, Ar14, q14, S14, M14, H14, G14⟩ := V10
  obtain ⟨T14, h14, X14, e14, W14, st14⟩ := stB X10 hx hZ e10 Ar14 (j := (1 : Int32)) (inb_of S14 ⟨by decide, by decide⟩) (g := (mkF m 28 #[.val (.ref a1)] [(.int ((u1 ^^^ (-1 : Int32)).toInt8.toInt32)), (.int (1 : Int32)), (.ref a1)])) rfl rfl (hb hby d5_28)
  have V14 := Arv.set Ar14 q14 S14 M14 H14 G14 (fits_nar_byte _) W14 1 rfl (Nat.le_of_ble_eq_true rfl)
  have K15 : Keep h0 h14 [a1] := K11.wr W14 (Or.inl (by simp))
  have N14 := Fr.snoc X14 N10 g1
  refine own_go st14 ?_
  show own_End _ _ _ _ _ _ _ T14 (mkF m 29 #[.val (.ref a1)] [])
  refine own_go (fun t k => XS.aloadN X14.here hx rfl (hb hby d5_29) rfl rfl k) ?_
  show own_End _ _ _ _ _ _ _ T14 (mkF m 30 #[.val (.ref a1)] [(.ref a1)])
  obtain ⟨cl16, Ar16, q16, S16, M16, H16, G16⟩ := id V14
  refine own_go (fun t k => X14.arraylength hx (by rw [e14]; exact Ar16.1) (State.isArrayOf_alike hZ.alike Ar16.2.1) (g := (mkF m 30 #[.val (.ref a1)] [(.ref a1)])) rfl rfl (hb hby d5_30) t k) ?_
  rw [len_of S16 M16]
  show own_End _ _ _ _ _ _ _ T14 (mkF m 31 #[.val (.ref a1)] [(.int (2 : Int32))])
  refine own_go (fun t k => XS.iconst X14.here hx rfl (hb hby d5_31) k) ?_
  show own_End _ _ _ _ _ _ _ T14 (mkF m 32 #[.val (.ref a1)] [(.int (2 : Int32)), (.int (2 : Int32))])
  refine own_go (fun t k => XS.icmpYes X14.here hx rfl (pc0 := 32) (pc' := 44) rfl (hb hby d5_32) rfl (flt (by decide : ¬ ((2 : Int32) < (2 : Int32)))).2.2.2 (by decide) (by decide) k) ?_
  show own_End _ _ _ _ _ _ _ T14 (mkF m 44 #[.val (.ref a1)] [])
  exact own_retV X14 hx Bd.returns Bd.notSynchronized (hb hby d5_44) ⟨rfl, N14, by rw [e14]; exact K15⟩ (by decide) (by decide)
def Q_rmS3 (Z : State) (a1 : Addr) (k : ClassId) (u0 u1 u2 : Int32) (h0 : Heap) (n0 : Nat) (v : Option Value) (h : Heap) (L : List Loc) : Prop := v = none ∧ Fr n0 L ∧ Keep h0 h [a1]
theorem ef_rmS3 (m : MethodId) (x0 : Addr) : entryFrame m #[(.ref x0)] 1 = mkF m 0 #[.val (.ref x0)] [] := by first | (simp [entryFrame, mkF, argsToLocals, Value.category]; done) | rfl
theorem d5_35 : decode method_4_code 35 = .ok (.aload_n 0, 1) := by decide +kernel
theorem d5_36 : decode method_4_code 36 = .ok (.iconst 2, 1) := by decide +kernel
theorem d5_37 : decode method_4_code 37 = .ok (.aload_n 0, 1) := by decide +kernel
theorem d5_38 : decode method_4_code 38 = .ok (.iconst 2, 1) := by decide +kernel
theorem d5_39 : decode method_4_code 39 = .ok (.baload, 1) := by decide +kernel
theorem d5_40 : decode method_4_code 40 = .ok (.iconst (-1), 1) := by decide +kernel
theorem d5_41 : decode method_4_code 41 = .ok (.ixor, 1) := by decide +kernel
theorem d5_42 : decode method_4_code 42 = .ok (.i2b, 1) := by decide +kernel
theorem d5_43 : decode method_4_code 43 = .ok (.bastore, 1) := by decide +kernel
set_option maxRecDepth 65536 in
set_option maxHeartbeats 40000000 in
theorem rmS3 (l : Launch) (Z : State) (a0 : Array Value) (hw : ∀ d ∈ tables_1, d.before a0 Z = true) (ws : List Jvm.Cond) (a1 : Addr) (k : ClassId) (u0 u1 u2 : Int32) (h0 : Heap) (n0 : Nat) (Z0 : n0 ≤ h0.size) (V : Arv Z h0 a1 k .byte (3 : Int32) [(.int u0), (.int u1), (.int u2)] (.int (0 : Int32))) (g1 : n0 ≤ a1) :
    MetFree l (⟨"com/example/coxswain/coxswain/wire/StatusDetailsPinLaw", "scramble", "([B)V"⟩ : MethodName) (head1 (Jvm.Cond.code (⟨"com/example/coxswain/coxswain/wire/StatusDetailsPinLaw", "scramble", "([B)V"⟩ : MethodName) method_4_code 1 none :: ws) ({ frames := 0, cells := 0, slots := 0, locals := 0 } : Room)) (fun a U => a = #[(.ref a1)] ∧ Z.Warmed39 U.vm ∧ U.heap = h0) (fun _ _ _ _ _ => True) (fun _ U o U' => ∃ v L, o = .returned v ∧ Q_rmS3 Z a1 k u0 u1 u2 h0 n0 v U'.heap L ∧ FrameEnd U o U' L ({ frames := 0, cells := 0, slots := 0, locals := 0 } : Room).cells ({ frames := 0, cells := 0, slots := 0, locals := 0 } : Room).slots) := by
  refine MetFree.of_bodySF (plainFor_of_name pn_com_example_coxswain_coxswain_wire_StatusDetailsPinLaw) hisR ?_
  intro p e s m args below meth c s₁ Bd hml0 hP hK
  obtain ⟨rfl, hZ, hh⟩ := hP
  have hx := Bd.exec
  have hby := Bd.bytes
  have hml : c.maxLocals = 1 := hml0
  have hown : s.vm.findClass "com/example/coxswain/coxswain/wire/StatusDetailsPinLaw" = some m.cls := findClass_of_methodNamed Bd.named
  have hnm := (name_of_methodNamed Bd.named Bd.method).1
  have X0 : Stand p l e ({ frames := 0, cells := 0, slots := 0, locals := 0 } : Room) s m #[(.ref a1)] below meth c s₁ [] 0 0 := Stand.of_body Bd
  have e0 : s₁.heap = h0 := by rw [← hh, Bd.state]; rfl
  have N0 := Fr.nil n0
  suffices own_main : own_End p e below s (Q_rmS3 Z a1 k u0 u1 u2 h0 n0) ({ frames := 0, cells := 0, slots := 0, locals := 0 } : Room).cells ({ frames := 0, cells := 0, slots := 0, locals := 0 } : Room).slots s₁ (mkF m 0 #[.val (.ref a1)] []) by
    obtain ⟨s₂, o, k1, k2, k3, k4⟩ := own_main
    exact ⟨s₂, o, castTop (ef_rmS3 m a1) k1, k2, k3, k4⟩
  show own_End _ _ _ _ _ _ _ s₁ (mkF m 0 #[.val (.ref a1)] [])
  refine own_go (fun t k => XS.aloadN X0.here hx rfl (hb hby d5_0) rfl rfl k) ?_
  show own_End _ _ _ _ _ _ _ s₁ (mkF m 1 #[.val (.ref a1)] [(.ref a1)])
  obtain ⟨cl17, Ar17, q17, S17, M17, H17, G17⟩ := id V
  refine own_go (fun t k => X0.arraylength hx (by rw [e0]; exact Ar17.1) (State.isArrayOf_alike hZ.alike Ar17.2.1) (g := (mkF m 1 #[.val (.ref a1)] [(.ref a1)])) rfl rfl (hb hby d5_1) t k) ?_
  rw [len_of S17 M17]
  show own_End _ _ _ _ _ _ _ s₁ (mkF m 2 #[.val (.ref a1)] [(.int (3 : Int32))])
  refine own_go (fun t k => XS.ifNo X0.here hx rfl (hb hby d5_2) rfl ((if0 _ _).trans (tlt (by decide : (0 : Int32) < (3 : Int32))).2.2.2) k) ?_
  show own_End _ _ _ _ _ _ _ s₁ (mkF m 5 #[.val (.ref a1)] [])
  refine own_go (fun t k => XS.aloadN X0.here hx rfl (hb hby d5_5) rfl rfl k) ?_
  show own_End _ _ _ _ _ _ _ s₁ (mkF m 6 #[.val (.ref a1)] [(.ref a1)])
  refine own_go (fun t k => XS.iconst X0.here hx rfl (hb hby d5_6) k) ?_
  show own_End _ _ _ _ _ _ _ s₁ (mkF m 7 #[.val (.ref a1)] [(.int (0 : Int32)), (.ref a1)])
  refine own_go (fun t k => XS.aloadN X0.here hx rfl (hb hby d5_7) rfl rfl k) ?_
  show own_End _ _ _ _ _ _ _ s₁ (mkF m 8 #[.val (.ref a1)] [(.ref a1), (.int (0 : Int32)), (.ref a1)])
  refine own_go (fun t k => XS.iconst X0.here hx rfl (hb hby d5_8) k) ?_
  show own_End _ _ _ _ _ _ _ s₁ (mkF m 9 #[.val (.ref a1)] [(.int (0 : Int32)), (.ref a1), (.int (0 : Int32)), (.ref a1)])
  obtain ⟨cl18, Ar18, q18, S18, M18, H18, G18⟩ := id V
  refine own_go (fun t k => X0.baloadBytes hx (j := (0 : Int32)) (v := (.int u0)) (by rw [e0]; exact Ar18.1) (State.isArrayOf_alike hZ.alike Ar18.2.1) Ar18.2.2 (inb_of S18 ⟨by decide, by decide⟩) (H18.at (inb_of S18 ⟨by decide, by decide⟩) rfl) (g := (mkF m 9 #[.val (.ref a1)] [(.int (0 : Int32)), (.ref a1), (.int (0 : Int32)), (.ref a1)])) rfl rfl (hb hby d5_9) t k) ?_
  show own_End _ _ _ _ _ _ _ s₁ (mkF m 10 #[.val (.ref a1)] [(.int u0), (.int (0 : Int32)), (.ref a1)])
  refine own_go (fun t k => XS.iconst X0.here hx rfl (hb hby d5_10) k) ?_
  show own_End _ _ _ _ _ _ _ s₁ (mkF m 11 #[.val (.ref a1)] [(.int (-1 : Int32)), (.int u0), (.int (0 : Int32)), (.ref a1)])
  refine own_go (fun t k => XS.ixor X0.here hx rfl (hb hby d5_11) rfl k) ?_
  show own_End _ _ _ _ _ _ _ s₁ (mkF m 12 #[.val (.ref a1)] [(.int (u0 ^^^ (-1 : Int32))), (.int (0 : Int32)), (.ref a1)])
  refine own_go (fun t k => XS.i2b X0.here hx rfl (hb hby d5_12) rfl k) ?_
  show own_End _ _ _ _ _ _ _ s₁ (mkF m 13 #[.val (.ref a1)] [(.int ((u0 ^^^ (-1 : Int32)).toInt8.toInt32)), (.int (0 : Int32)), (.ref a1)])
  obtain ⟨cl19, Ar19, q19, S19, M19, H19, G19⟩ := V
  obtain ⟨T19, h19, X19, e19, W19, st19⟩ := stB X0 hx hZ e0 Ar19 (j := (0 : Int32)) (inb_of S19 ⟨by decide, by decide⟩) (g := (mkF m 13 #[.val (.ref a1)] [(.int ((u0 ^^^ (-1 : Int32)).toInt8.toInt32)), (.int (0 : Int32)), (.ref a1)])) rfl rfl (hb hby d5_13)
  have V19 := Arv.set Ar19 q19 S19 M19 H19 G19 (fits_nar_byte _) W19 0 rfl (Nat.le_of_ble_eq_true rfl)
  have K20 : Keep h0 h19 [a1] := (Keep.refl h0 [a1]).wr W19 (Or.inl (by simp))
  have N19 := Fr.snoc X19 N0 g1
  refine own_go st19 ?_
  show own_End _ _ _ _ _ _ _ T19 (mkF m 14 #[.val (.ref a1)] [])
  refine own_go (fun t k => XS.aloadN X19.here hx rfl (hb hby d5_14) rfl rfl k) ?_
  show own_End _ _ _ _ _ _ _ T19 (mkF m 15 #[.val (.ref a1)] [(.ref a1)])
  obtain ⟨cl21, Ar21, q21, S21, M21, H21, G21⟩ := id V19
  refine own_go (fun t k => X19.arraylength hx (by rw [e19]; exact Ar21.1) (State.isArrayOf_alike hZ.alike Ar21.2.1) (g := (mkF m 15 #[.val (.ref a1)] [(.ref a1)])) rfl rfl (hb hby d5_15) t k) ?_
  rw [len_of S21 M21]
  show own_End _ _ _ _ _ _ _ T19 (mkF m 16 #[.val (.ref a1)] [(.int (3 : Int32))])
  refine own_go (fun t k => XS.iconst X19.here hx rfl (hb hby d5_16) k) ?_
  show own_End _ _ _ _ _ _ _ T19 (mkF m 17 #[.val (.ref a1)] [(.int (1 : Int32)), (.int (3 : Int32))])
  refine own_go (fun t k => XS.icmpNo X19.here hx rfl (hb hby d5_17) rfl (tlt (by decide : (1 : Int32) < (3 : Int32))).2.2.2 k) ?_
  show own_End _ _ _ _ _ _ _ T19 (mkF m 20 #[.val (.ref a1)] [])
  refine own_go (fun t k => XS.aloadN X19.here hx rfl (hb hby d5_20) rfl rfl k) ?_
  show own_End _ _ _ _ _ _ _ T19 (mkF m 21 #[.val (.ref a1)] [(.ref a1)])
  refine own_go (fun t k => XS.iconst X19.here hx rfl (hb hby d5_21) k) ?_
  show own_End _ _ _ _ _ _ _ T19 (mkF m 22 #[.val (.ref a1)] [(.int (1 : Int32)), (.ref a1)])
  refine own_go (fun t k => XS.aloadN X19.here hx rfl (hb hby d5_22) rfl rfl k) ?_
  show own_End _ _ _ _ _ _ _ T19 (mkF m 23 #[.val (.ref a1)] [(.ref a1), (.int (1 : Int32)), (.ref a1)])
  refine own_go (fun t k => XS.iconst X19.here hx rfl (hb hby d5_23) k) ?_
  show own_End _ _ _ _ _ _ _ T19 (mkF m 24 #[.val (.ref a1)] [(.int (1 : Int32)), (.ref a1), (.int (1 : Int32)), (.ref a1)])
  obtain ⟨cl22, Ar22, q22, S22, M22, H22, G22⟩ := id V19
  refine own_go (fun t k => X19.baloadBytes hx (j := (1 : Int32)) (v := (.int u1)) (by rw [e19]; exact Ar22.1) (State.isArrayOf_alike hZ.alike Ar22.2.1) Ar22.2.2 (inb_of S22 ⟨by decide, by decide⟩) (H22.at (inb_of S22 ⟨by decide, by decide⟩) rfl) (g := (mkF m 24 #[.val (.ref a1)] [(.int (1 : Int32)), (.ref a1), (.int (1 : Int32)), (.ref a1)])) rfl rfl (hb hby d5_24) t k) ?_
  show own_End _ _ _ _ _ _ _ T19 (mkF m 25 #[.val (.ref a1)] [(.int u1), (.int (1 : Int32)), (.ref a1)])
  refine own_go (fun t k => XS.iconst X19.here hx rfl (hb hby d5_25) k) ?_
  show own_End _ _ _ _ _ _ _ T19 (mkF m 26 #[.val (.ref a1)] [(.int (-1 : Int32)), (.int u1), (.int (1 : Int32)), (.ref a1)])
  refine own_go (fun t k => XS.ixor X19.here hx rfl (hb hby d5_26) rfl k) ?_
  show own_End _ _ _ _ _ _ _ T19 (mkF m 27 #[.val (.ref a1)] [(.int (u1 ^^^ (-1 : Int32))), (.int (1 : Int32)), (.ref a1)])
  refine own_go (fun t k => XS.i2b X19.here hx rfl (hb hby d5_27) rfl k) ?_
  show own_End _ _ _ _ _ _ _ T19 (mkF m 28 #[.val (.ref a1)] [(.int ((u1 ^^^ (-1 : Int32)).toInt8.toInt32)), (.int (1 : Int32)), (.ref a1)])
  obtain ⟨cl23, Ar23, q23, S23, M23, H23, G23⟩ := V19
  obtain ⟨T23, h23, X23, e23, W23, st23⟩ := stB X19 hx hZ e19 Ar23 (j := (1 : Int32)) (inb_of S23 ⟨by decide, by decide⟩) (g := (mkF m 28 #[.val (.ref a1)] [(.int ((u1 ^^^ (-1 : Int32)).toInt8.toInt32)), (.int (1 : Int32)), (.ref a1)])) rfl rfl (hb hby d5_28)
  have V23 := Arv.set Ar23 q23 S23 M23 H23 G23 (fits_nar_byte _) W23 1 rfl (Nat.le_of_ble_eq_true rfl)
  have K24 : Keep h0 h23 [a1] := K20.wr W23 (Or.inl (by simp))
  have N23 := Fr.snoc X23 N19 g1
  refine own_go st23 ?_
  show own_End _ _ _ _ _ _ _ T23 (mkF m 29 #[.val (.ref a1)] [])
  refine own_go (fun t k => XS.aloadN X23.here hx rfl (hb hby d5_29) rfl rfl k) ?_
  show own_End _ _ _ _ _ _ _ T23 (mkF m 30 #[.val (.ref a1)] [(.ref a1)])
  obtain ⟨cl25, Ar25, q25, S25, M25, H25, G25⟩ := id V23
  refine own_go (fun t k => X23.arraylength hx (by rw [e23]; exact Ar25.1) (State.isArrayOf_alike hZ.alike Ar25.2.1) (g := (mkF m 30 #[.val (.ref a1)] [(.ref a1)])) rfl rfl (hb hby d5_30) t k) ?_
  rw [len_of S25 M25]
  show own_End _ _ _ _ _ _ _ T23 (mkF m 31 #[.val (.ref a1)] [(.int (3 : Int32))])
  refine own_go (fun t k => XS.iconst X23.here hx rfl (hb hby d5_31) k) ?_
  show own_End _ _ _ _ _ _ _ T23 (mkF m 32 #[.val (.ref a1)] [(.int (2 : Int32)), (.int (3 : Int32))])
  refine own_go (fun t k => XS.icmpNo X23.here hx rfl (hb hby d5_32) rfl (tlt (by decide : (2 : Int32) < (3 : Int32))).2.2.2 k) ?_
  show own_End _ _ _ _ _ _ _ T23 (mkF m 35 #[.val (.ref a1)] [])
  refine own_go (fun t k => XS.aloadN X23.here hx rfl (hb hby d5_35) rfl rfl k) ?_
  show own_End _ _ _ _ _ _ _ T23 (mkF m 36 #[.val (.ref a1)] [(.ref a1)])
  refine own_go (fun t k => XS.iconst X23.here hx rfl (hb hby d5_36) k) ?_
  show own_End _ _ _ _ _ _ _ T23 (mkF m 37 #[.val (.ref a1)] [(.int (2 : Int32)), (.ref a1)])
  refine own_go (fun t k => XS.aloadN X23.here hx rfl (hb hby d5_37) rfl rfl k) ?_
  show own_End _ _ _ _ _ _ _ T23 (mkF m 38 #[.val (.ref a1)] [(.ref a1), (.int (2 : Int32)), (.ref a1)])
  refine own_go (fun t k => XS.iconst X23.here hx rfl (hb hby d5_38) k) ?_
  show own_End _ _ _ _ _ _ _ T23 (mkF m 39 #[.val (.ref a1)] [(.int (2 : Int32)), (.ref a1), (.int (2 : Int32)), (.ref a1)])
  obtain ⟨cl26, Ar26, q26, S26, M26, H26, G26⟩ := id V23
  refine own_go (fun t k => X23.baloadBytes hx (j := (2 : Int32)) (v := (.int u2)) (by rw [e23]; exact Ar26.1) (State.isArrayOf_alike hZ.alike Ar26.2.1) Ar26.2.2 (inb_of S26 ⟨by decide, by decide⟩) (H26.at (inb_of S26 ⟨by decide, by decide⟩) rfl) (g := (mkF m 39 #[.val (.ref a1)] [(.int (2 : Int32)), (.ref a1), (.int (2 : Int32)), (.ref a1)])) rfl rfl (hb hby d5_39) t k) ?_
  show own_End _ _ _ _ _ _ _ T23 (mkF m 40 #[.val (.ref a1)] [(.int u2), (.int (2 : Int32)), (.ref a1)])
  refine own_go (fun t k => XS.iconst X23.here hx rfl (hb hby d5_40) k) ?_
  show own_End _ _ _ _ _ _ _ T23 (mkF m 41 #[.val (.ref a1)] [(.int (-1 : Int32)), (.int u2), (.int (2 : Int32)), (.ref a1)])
  refine own_go (fun t k => XS.ixor X23.here hx rfl (hb hby d5_41) rfl k) ?_
  show own_End _ _ _ _ _ _ _ T23 (mkF m 42 #[.val (.ref a1)] [(.int (u2 ^^^ (-1 : Int32))), (.int (2 : Int32)), (.ref a1)])
  refine own_go (fun t k => XS.i2b X23.here hx rfl (hb hby d5_42) rfl k) ?_
  show own_End _ _ _ _ _ _ _ T23 (mkF m 43 #[.val (.ref a1)] [(.int ((u2 ^^^ (-1 : Int32)).toInt8.toInt32)), (.int (2 : Int32)), (.ref a1)])
  obtain ⟨cl27, Ar27, q27, S27, M27, H27, G27⟩ := V23
  obtain ⟨T27, h27, X27, e27, W27, st27⟩ := stB X23 hx hZ e23 Ar27 (j := (2 : Int32)) (inb_of S27 ⟨by decide, by decide⟩) (g := (mkF m 43 #[.val (.ref a1)] [(.int ((u2 ^^^ (-1 : Int32)).toInt8.toInt32)), (.int (2 : Int32)), (.ref a1)])) rfl rfl (hb hby d5_43)
  have V27 := Arv.set Ar27 q27 S27 M27 H27 G27 (fits_nar_byte _) W27 2 rfl (Nat.le_of_ble_eq_true rfl)
  have K28 : Keep h0 h27 [a1] := K24.wr W27 (Or.inl (by simp))
  have N27 := Fr.snoc X27 N23 g1
  refine own_go st27 ?_
  show own_End _ _ _ _ _ _ _ T27 (mkF m 44 #[.val (.ref a1)] [])
  exact own_retV X27 hx Bd.returns Bd.notSynchronized (hb hby d5_44) ⟨rfl, N27, by rw [e27]; exact K28⟩ (by decide) (by decide)
theorem ef_rmM0 (m : MethodId) (x0 : Addr) (x1 : Int32) (x2 : Int32) (x3 : Int32) (x4 : Int32) : entryFrame m #[(.ref x0), (.int x1), (.int x2), (.int x3), (.int x4)] 5 = mkF m 0 #[.val (.ref x0), .val (.int x1), .val (.int x2), .val (.int x3), .val (.int x4)] [] := by first | (simp [entryFrame, mkF, argsToLocals, Value.category]; done) | rfl
theorem d7_0 : decode method_3_code 0 = .ok (.aload_n 0, 1) := by decide +kernel
theorem d7_1 : decode method_3_code 1 = .ok (.ifnull 9, 3) := by decide +kernel
theorem d7_4 : decode method_3_code 4 = .ok (.aload_n 0, 1) := by decide +kernel
theorem d7_5 : decode method_3_code 5 = .ok (.arraylength, 1) := by decide +kernel
theorem d7_6 : decode method_3_code 6 = .ok (.iload_n 1, 1) := by decide +kernel
theorem d7_7 : decode method_3_code 7 = .ok (.if_icmp .eq 5, 3) := by decide +kernel
theorem d7_12 : decode method_3_code 12 = .ok (.iload_n 1, 1) := by decide +kernel
theorem d7_13 : decode method_3_code 13 = .ok (.ifCond .le 12, 3) := by decide +kernel
theorem d7_25 : decode method_3_code 25 = .ok (.iload_n 1, 1) := by decide +kernel
theorem d7_26 : decode method_3_code 26 = .ok (.iconst 1, 1) := by decide +kernel
theorem d7_27 : decode method_3_code 27 = .ok (.if_icmp .le 12, 3) := by decide +kernel
theorem d7_39 : decode method_3_code 39 = .ok (.iload_n 1, 1) := by decide +kernel
theorem d7_40 : decode method_3_code 40 = .ok (.iconst 2, 1) := by decide +kernel
theorem d7_41 : decode method_3_code 41 = .ok (.if_icmp .le 13, 3) := by decide +kernel
theorem d7_54 : decode method_3_code 54 = .ok (.iconst 1, 1) := by decide +kernel
theorem d7_55 : decode method_3_code 55 = .ok (.ireturn, 1) := by decide +kernel
set_option maxRecDepth 65536 in
set_option maxHeartbeats 40000000 in
theorem rmM0 (l : Launch) (Z : State) (a0 : Array Value) (hw : ∀ d ∈ tables_1, d.before a0 Z = true) (ws : List Jvm.Cond) (a1 : Addr) (y0 y1 y2 : Int32) (cl : Cell) (h0 : Heap) (n0 : Nat) (Z0 : n0 ≤ h0.size) (Ar : Arr Z h0 a1 cl .byte) (Sz : cl.slots.size = (0 : Int32).toNatClampNeg) :
    MetFree l (⟨"com/example/coxswain/coxswain/wire/StatusDetailsPinLaw", "same", "([BIBBB)Z"⟩ : MethodName) (head1 (Jvm.Cond.code (⟨"com/example/coxswain/coxswain/wire/StatusDetailsPinLaw", "same", "([BIBBB)Z"⟩ : MethodName) method_3_code 5 (some .boolean) :: ws) ({ frames := 0, cells := 0, slots := 0, locals := 0 } : Room)) (fun a U => a = #[(.ref a1), (.int (0 : Int32)), (.int y0), (.int y1), (.int y2)] ∧ Z.Warmed39 U.vm ∧ U.heap = h0) (fun _ _ _ _ _ => True) (fun _ U o U' => ∃ v L, o = .returned v ∧ own_pure (.int 1) h0 n0 v U'.heap L ∧ FrameEnd U o U' L ({ frames := 0, cells := 0, slots := 0, locals := 0 } : Room).cells ({ frames := 0, cells := 0, slots := 0, locals := 0 } : Room).slots) := by
  refine MetFree.of_bodySF (plainFor_of_name pn_com_example_coxswain_coxswain_wire_StatusDetailsPinLaw) hisR ?_
  intro p e s m args below meth c s₁ Bd hml0 hP hK
  obtain ⟨rfl, hZ, hh⟩ := hP
  have hx := Bd.exec
  have hby := Bd.bytes
  have hml : c.maxLocals = 5 := hml0
  have hown : s.vm.findClass "com/example/coxswain/coxswain/wire/StatusDetailsPinLaw" = some m.cls := findClass_of_methodNamed Bd.named
  have hnm := (name_of_methodNamed Bd.named Bd.method).1
  have X0 : Stand p l e ({ frames := 0, cells := 0, slots := 0, locals := 0 } : Room) s m #[(.ref a1), (.int (0 : Int32)), (.int y0), (.int y1), (.int y2)] below meth c s₁ [] 0 0 := Stand.of_body Bd
  have e0 : s₁.heap = h0 := by rw [← hh, Bd.state]; rfl
  have N0 := Fr.nil n0
  suffices own_main : own_End p e below s (own_pure (.int 1) h0 n0) ({ frames := 0, cells := 0, slots := 0, locals := 0 } : Room).cells ({ frames := 0, cells := 0, slots := 0, locals := 0 } : Room).slots s₁ (mkF m 0 #[.val (.ref a1), .val (.int (0 : Int32)), .val (.int y0), .val (.int y1), .val (.int y2)] []) by
    obtain ⟨s₂, o, k1, k2, k3, k4⟩ := own_main
    exact ⟨s₂, o, castTop (ef_rmM0 m a1 (0 : Int32) y0 y1 y2) k1, k2, k3, k4⟩
  show own_End _ _ _ _ _ _ _ s₁ (mkF m 0 #[.val (.ref a1), .val (.int (0 : Int32)), .val (.int y0), .val (.int y1), .val (.int y2)] [])
  refine own_go (fun t k => XS.aloadN X0.here hx rfl (hb hby d7_0) rfl rfl k) ?_
  show own_End _ _ _ _ _ _ _ s₁ (mkF m 1 #[.val (.ref a1), .val (.int (0 : Int32)), .val (.int y0), .val (.int y1), .val (.int y2)] [(.ref a1)])
  refine own_go (fun t k => XS.ifnullNo X0.here hx rfl (hb hby d7_1) rfl k) ?_
  show own_End _ _ _ _ _ _ _ s₁ (mkF m 4 #[.val (.ref a1), .val (.int (0 : Int32)), .val (.int y0), .val (.int y1), .val (.int y2)] [])
  refine own_go (fun t k => XS.aloadN X0.here hx rfl (hb hby d7_4) rfl rfl k) ?_
  show own_End _ _ _ _ _ _ _ s₁ (mkF m 5 #[.val (.ref a1), .val (.int (0 : Int32)), .val (.int y0), .val (.int y1), .val (.int y2)] [(.ref a1)])
  refine own_go (fun t k => X0.arraylength hx (by rw [e0]; exact Ar.1) (State.isArrayOf_alike hZ.alike Ar.2.1) (g := (mkF m 5 #[.val (.ref a1), .val (.int (0 : Int32)), .val (.int y0), .val (.int y1), .val (.int y2)] [(.ref a1)])) rfl rfl (hb hby d7_5) t k) ?_
  rw [len_of Sz (by decide : ¬ (0 : Int32) < 0)]
  show own_End _ _ _ _ _ _ _ s₁ (mkF m 6 #[.val (.ref a1), .val (.int (0 : Int32)), .val (.int y0), .val (.int y1), .val (.int y2)] [(.int (0 : Int32))])
  refine own_go (fun t k => XS.iloadN X0.here hx rfl (hb hby d7_6) rfl k) ?_
  show own_End _ _ _ _ _ _ _ s₁ (mkF m 7 #[.val (.ref a1), .val (.int (0 : Int32)), .val (.int y0), .val (.int y1), .val (.int y2)] [(.int (0 : Int32)), (.int (0 : Int32))])
  refine own_go (fun t k => XS.icmpYes X0.here hx rfl (pc0 := 7) (pc' := 12) rfl (hb hby d7_7) rfl (teq (by decide : (0 : Int32) = (0 : Int32))).1 (by decide) (by decide) k) ?_
  show own_End _ _ _ _ _ _ _ s₁ (mkF m 12 #[.val (.ref a1), .val (.int (0 : Int32)), .val (.int y0), .val (.int y1), .val (.int y2)] [])
  refine own_go (fun t k => XS.iloadN X0.here hx rfl (hb hby d7_12) rfl k) ?_
  show own_End _ _ _ _ _ _ _ s₁ (mkF m 13 #[.val (.ref a1), .val (.int (0 : Int32)), .val (.int y0), .val (.int y1), .val (.int y2)] [(.int (0 : Int32))])
  refine own_go (fun t k => XS.ifYes X0.here hx rfl (pc0 := 13) (pc' := 25) rfl (hb hby d7_13) rfl ((if0 _ _).trans (flt (by decide : ¬ ((0 : Int32) < (0 : Int32)))).2.2.2) (by decide) (by decide) k) ?_
  show own_End _ _ _ _ _ _ _ s₁ (mkF m 25 #[.val (.ref a1), .val (.int (0 : Int32)), .val (.int y0), .val (.int y1), .val (.int y2)] [])
  refine own_go (fun t k => XS.iloadN X0.here hx rfl (hb hby d7_25) rfl k) ?_
  show own_End _ _ _ _ _ _ _ s₁ (mkF m 26 #[.val (.ref a1), .val (.int (0 : Int32)), .val (.int y0), .val (.int y1), .val (.int y2)] [(.int (0 : Int32))])
  refine own_go (fun t k => XS.iconst X0.here hx rfl (hb hby d7_26) k) ?_
  show own_End _ _ _ _ _ _ _ s₁ (mkF m 27 #[.val (.ref a1), .val (.int (0 : Int32)), .val (.int y0), .val (.int y1), .val (.int y2)] [(.int (1 : Int32)), (.int (0 : Int32))])
  refine own_go (fun t k => XS.icmpYes X0.here hx rfl (pc0 := 27) (pc' := 39) rfl (hb hby d7_27) rfl (flt (by decide : ¬ ((1 : Int32) < (0 : Int32)))).2.2.2 (by decide) (by decide) k) ?_
  show own_End _ _ _ _ _ _ _ s₁ (mkF m 39 #[.val (.ref a1), .val (.int (0 : Int32)), .val (.int y0), .val (.int y1), .val (.int y2)] [])
  refine own_go (fun t k => XS.iloadN X0.here hx rfl (hb hby d7_39) rfl k) ?_
  show own_End _ _ _ _ _ _ _ s₁ (mkF m 40 #[.val (.ref a1), .val (.int (0 : Int32)), .val (.int y0), .val (.int y1), .val (.int y2)] [(.int (0 : Int32))])
  refine own_go (fun t k => XS.iconst X0.here hx rfl (hb hby d7_40) k) ?_
  show own_End _ _ _ _ _ _ _ s₁ (mkF m 41 #[.val (.ref a1), .val (.int (0 : Int32)), .val (.int y0), .val (.int y1), .val (.int y2)] [(.int (2 : Int32)), (.int (0 : Int32))])
  refine own_go (fun t k => XS.icmpYes X0.here hx rfl (pc0 := 41) (pc' := 54) rfl (hb hby d7_41) rfl (flt (by decide : ¬ ((2 : Int32) < (0 : Int32)))).2.2.2 (by decide) (by decide) k) ?_
  show own_End _ _ _ _ _ _ _ s₁ (mkF m 54 #[.val (.ref a1), .val (.int (0 : Int32)), .val (.int y0), .val (.int y1), .val (.int y2)] [])
  refine own_go (fun t k => XS.iconst X0.here hx rfl (hb hby d7_54) k) ?_
  show own_End _ _ _ _ _ _ _ s₁ (mkF m 55 #[.val (.ref a1), .val (.int (0 : Int32)), .val (.int y0), .val (.int y1), .val (.int y2)] [(.int (1 : Int32))])
  exact own_retW X0 hx Bd.returns Bd.notSynchronized rfl (Or.inl ⟨rfl, by simp, _, rfl⟩) (hb hby d7_55) ⟨rfl, N0, e0⟩ (by decide) (by decide)
theorem ef_rmM1 (m : MethodId) (x0 : Addr) (x1 : Int32) (x2 : Int32) (x3 : Int32) (x4 : Int32) : entryFrame m #[(.ref x0), (.int x1), (.int x2), (.int x3), (.int x4)] 5 = mkF m 0 #[.val (.ref x0), .val (.int x1), .val (.int x2), .val (.int x3), .val (.int x4)] [] := by first | (simp [entryFrame, mkF, argsToLocals, Value.category]; done) | rfl
theorem d7_16 : decode method_3_code 16 = .ok (.aload_n 0, 1) := by decide +kernel
theorem d7_17 : decode method_3_code 17 = .ok (.iconst 0, 1) := by decide +kernel
theorem d7_18 : decode method_3_code 18 = .ok (.baload, 1) := by decide +kernel
theorem d7_19 : decode method_3_code 19 = .ok (.iload_n 2, 1) := by decide +kernel
theorem d7_20 : decode method_3_code 20 = .ok (.if_icmp .eq 5, 3) := by decide +kernel
set_option maxRecDepth 65536 in
set_option maxHeartbeats 40000000 in
theorem rmM1 (l : Launch) (Z : State) (a0 : Array Value) (hw : ∀ d ∈ tables_1, d.before a0 Z = true) (ws : List Jvm.Cond) (a1 : Addr) (y0 y1 y2 : Int32) (k : ClassId) (h0 : Heap) (n0 : Nat) (Z0 : n0 ≤ h0.size) (V : Arv Z h0 a1 k .byte (1 : Int32) [(.int y0)] (.int (0 : Int32))) :
    MetFree l (⟨"com/example/coxswain/coxswain/wire/StatusDetailsPinLaw", "same", "([BIBBB)Z"⟩ : MethodName) (head1 (Jvm.Cond.code (⟨"com/example/coxswain/coxswain/wire/StatusDetailsPinLaw", "same", "([BIBBB)Z"⟩ : MethodName) method_3_code 5 (some .boolean) :: ws) ({ frames := 0, cells := 0, slots := 0, locals := 0 } : Room)) (fun a U => a = #[(.ref a1), (.int (1 : Int32)), (.int y0), (.int y1), (.int y2)] ∧ Z.Warmed39 U.vm ∧ U.heap = h0) (fun _ _ _ _ _ => True) (fun _ U o U' => ∃ v L, o = .returned v ∧ own_pure (.int 1) h0 n0 v U'.heap L ∧ FrameEnd U o U' L ({ frames := 0, cells := 0, slots := 0, locals := 0 } : Room).cells ({ frames := 0, cells := 0, slots := 0, locals := 0 } : Room).slots) := by
  refine MetFree.of_bodySF (plainFor_of_name pn_com_example_coxswain_coxswain_wire_StatusDetailsPinLaw) hisR ?_
  intro p e s m args below meth c s₁ Bd hml0 hP hK
  obtain ⟨rfl, hZ, hh⟩ := hP
  have hx := Bd.exec
  have hby := Bd.bytes
  have hml : c.maxLocals = 5 := hml0
  have hown : s.vm.findClass "com/example/coxswain/coxswain/wire/StatusDetailsPinLaw" = some m.cls := findClass_of_methodNamed Bd.named
  have hnm := (name_of_methodNamed Bd.named Bd.method).1
  have X0 : Stand p l e ({ frames := 0, cells := 0, slots := 0, locals := 0 } : Room) s m #[(.ref a1), (.int (1 : Int32)), (.int y0), (.int y1), (.int y2)] below meth c s₁ [] 0 0 := Stand.of_body Bd
  have e0 : s₁.heap = h0 := by rw [← hh, Bd.state]; rfl
  have N0 := Fr.nil n0
  suffices own_main : own_End p e below s (own_pure (.int 1) h0 n0) ({ frames := 0, cells := 0, slots := 0, locals := 0 } : Room).cells ({ frames := 0, cells := 0, slots := 0, locals := 0 } : Room).slots s₁ (mkF m 0 #[.val (.ref a1), .val (.int (1 : Int32)), .val (.int y0), .val (.int y1), .val (.int y2)] []) by
    obtain ⟨s₂, o, k1, k2, k3, k4⟩ := own_main
    exact ⟨s₂, o, castTop (ef_rmM1 m a1 (1 : Int32) y0 y1 y2) k1, k2, k3, k4⟩
  show own_End _ _ _ _ _ _ _ s₁ (mkF m 0 #[.val (.ref a1), .val (.int (1 : Int32)), .val (.int y0), .val (.int y1), .val (.int y2)] [])
  refine own_go (fun t k => XS.aloadN X0.here hx rfl (hb hby d7_0) rfl rfl k) ?_
  show own_End _ _ _ _ _ _ _ s₁ (mkF m 1 #[.val (.ref a1), .val (.int (1 : Int32)), .val (.int y0), .val (.int y1), .val (.int y2)] [(.ref a1)])
  refine own_go (fun t k => XS.ifnullNo X0.here hx rfl (hb hby d7_1) rfl k) ?_
  show own_End _ _ _ _ _ _ _ s₁ (mkF m 4 #[.val (.ref a1), .val (.int (1 : Int32)), .val (.int y0), .val (.int y1), .val (.int y2)] [])
  refine own_go (fun t k => XS.aloadN X0.here hx rfl (hb hby d7_4) rfl rfl k) ?_
  show own_End _ _ _ _ _ _ _ s₁ (mkF m 5 #[.val (.ref a1), .val (.int (1 : Int32)), .val (.int y0), .val (.int y1), .val (.int y2)] [(.ref a1)])
  obtain ⟨cl29, Ar29, q29, S29, M29, H29, G29⟩ := id V
  refine own_go (fun t k => X0.arraylength hx (by rw [e0]; exact Ar29.1) (State.isArrayOf_alike hZ.alike Ar29.2.1) (g := (mkF m 5 #[.val (.ref a1), .val (.int (1 : Int32)), .val (.int y0), .val (.int y1), .val (.int y2)] [(.ref a1)])) rfl rfl (hb hby d7_5) t k) ?_
  rw [len_of S29 M29]
  show own_End _ _ _ _ _ _ _ s₁ (mkF m 6 #[.val (.ref a1), .val (.int (1 : Int32)), .val (.int y0), .val (.int y1), .val (.int y2)] [(.int (1 : Int32))])
  refine own_go (fun t k => XS.iloadN X0.here hx rfl (hb hby d7_6) rfl k) ?_
  show own_End _ _ _ _ _ _ _ s₁ (mkF m 7 #[.val (.ref a1), .val (.int (1 : Int32)), .val (.int y0), .val (.int y1), .val (.int y2)] [(.int (1 : Int32)), (.int (1 : Int32))])
  refine own_go (fun t k => XS.icmpYes X0.here hx rfl (pc0 := 7) (pc' := 12) rfl (hb hby d7_7) rfl (teq (by decide : (1 : Int32) = (1 : Int32))).1 (by decide) (by decide) k) ?_
  show own_End _ _ _ _ _ _ _ s₁ (mkF m 12 #[.val (.ref a1), .val (.int (1 : Int32)), .val (.int y0), .val (.int y1), .val (.int y2)] [])
  refine own_go (fun t k => XS.iloadN X0.here hx rfl (hb hby d7_12) rfl k) ?_
  show own_End _ _ _ _ _ _ _ s₁ (mkF m 13 #[.val (.ref a1), .val (.int (1 : Int32)), .val (.int y0), .val (.int y1), .val (.int y2)] [(.int (1 : Int32))])
  refine own_go (fun t k => XS.ifNo X0.here hx rfl (hb hby d7_13) rfl ((if0 _ _).trans (tlt (by decide : (0 : Int32) < (1 : Int32))).2.2.2) k) ?_
  show own_End _ _ _ _ _ _ _ s₁ (mkF m 16 #[.val (.ref a1), .val (.int (1 : Int32)), .val (.int y0), .val (.int y1), .val (.int y2)] [])
  refine own_go (fun t k => XS.aloadN X0.here hx rfl (hb hby d7_16) rfl rfl k) ?_
  show own_End _ _ _ _ _ _ _ s₁ (mkF m 17 #[.val (.ref a1), .val (.int (1 : Int32)), .val (.int y0), .val (.int y1), .val (.int y2)] [(.ref a1)])
  refine own_go (fun t k => XS.iconst X0.here hx rfl (hb hby d7_17) k) ?_
  show own_End _ _ _ _ _ _ _ s₁ (mkF m 18 #[.val (.ref a1), .val (.int (1 : Int32)), .val (.int y0), .val (.int y1), .val (.int y2)] [(.int (0 : Int32)), (.ref a1)])
  obtain ⟨cl30, Ar30, q30, S30, M30, H30, G30⟩ := id V
  refine own_go (fun t k => X0.baloadBytes hx (j := (0 : Int32)) (v := (.int y0)) (by rw [e0]; exact Ar30.1) (State.isArrayOf_alike hZ.alike Ar30.2.1) Ar30.2.2 (inb_of S30 ⟨by decide, by decide⟩) (H30.at (inb_of S30 ⟨by decide, by decide⟩) rfl) (g := (mkF m 18 #[.val (.ref a1), .val (.int (1 : Int32)), .val (.int y0), .val (.int y1), .val (.int y2)] [(.int (0 : Int32)), (.ref a1)])) rfl rfl (hb hby d7_18) t k) ?_
  show own_End _ _ _ _ _ _ _ s₁ (mkF m 19 #[.val (.ref a1), .val (.int (1 : Int32)), .val (.int y0), .val (.int y1), .val (.int y2)] [(.int y0)])
  refine own_go (fun t k => XS.iloadN X0.here hx rfl (hb hby d7_19) rfl k) ?_
  show own_End _ _ _ _ _ _ _ s₁ (mkF m 20 #[.val (.ref a1), .val (.int (1 : Int32)), .val (.int y0), .val (.int y1), .val (.int y2)] [(.int y0), (.int y0)])
  refine own_go (fun t k => XS.icmpYes X0.here hx rfl (pc0 := 20) (pc' := 25) rfl (hb hby d7_20) rfl (teq (rfl : y0 = y0)).1 (by decide) (by decide) k) ?_
  show own_End _ _ _ _ _ _ _ s₁ (mkF m 25 #[.val (.ref a1), .val (.int (1 : Int32)), .val (.int y0), .val (.int y1), .val (.int y2)] [])
  refine own_go (fun t k => XS.iloadN X0.here hx rfl (hb hby d7_25) rfl k) ?_
  show own_End _ _ _ _ _ _ _ s₁ (mkF m 26 #[.val (.ref a1), .val (.int (1 : Int32)), .val (.int y0), .val (.int y1), .val (.int y2)] [(.int (1 : Int32))])
  refine own_go (fun t k => XS.iconst X0.here hx rfl (hb hby d7_26) k) ?_
  show own_End _ _ _ _ _ _ _ s₁ (mkF m 27 #[.val (.ref a1), .val (.int (1 : Int32)), .val (.int y0), .val (.int y1), .val (.int y2)] [(.int (1 : Int32)), (.int (1 : Int32))])
  refine own_go (fun t k => XS.icmpYes X0.here hx rfl (pc0 := 27) (pc' := 39) rfl (hb hby d7_27) rfl (flt (by decide : ¬ ((1 : Int32) < (1 : Int32)))).2.2.2 (by decide) (by decide) k) ?_
  show own_End _ _ _ _ _ _ _ s₁ (mkF m 39 #[.val (.ref a1), .val (.int (1 : Int32)), .val (.int y0), .val (.int y1), .val (.int y2)] [])
  refine own_go (fun t k => XS.iloadN X0.here hx rfl (hb hby d7_39) rfl k) ?_
  show own_End _ _ _ _ _ _ _ s₁ (mkF m 40 #[.val (.ref a1), .val (.int (1 : Int32)), .val (.int y0), .val (.int y1), .val (.int y2)] [(.int (1 : Int32))])
  refine own_go (fun t k => XS.iconst X0.here hx rfl (hb hby d7_40) k) ?_
  show own_End _ _ _ _ _ _ _ s₁ (mkF m 41 #[.val (.ref a1), .val (.int (1 : Int32)), .val (.int y0), .val (.int y1), .val (.int y2)] [(.int (2 : Int32)), (.int (1 : Int32))])
  refine own_go (fun t k => XS.icmpYes X0.here hx rfl (pc0 := 41) (pc' := 54) rfl (hb hby d7_41) rfl (flt (by decide : ¬ ((2 : Int32) < (1 : Int32)))).2.2.2 (by decide) (by decide) k) ?_
  show own_End _ _ _ _ _ _ _ s₁ (mkF m 54 #[.val (.ref a1), .val (.int (1 : Int32)), .val (.int y0), .val (.int y1), .val (.int y2)] [])
  refine own_go (fun t k => XS.iconst X0.here hx rfl (hb hby d7_54) k) ?_
  show own_End _ _ _ _ _ _ _ s₁ (mkF m 55 #[.val (.ref a1), .val (.int (1 : Int32)), .val (.int y0), .val (.int y1), .val (.int y2)] [(.int (1 : Int32))])
  exact own_retW X0 hx Bd.returns Bd.notSynchronized rfl (Or.inl ⟨rfl, by simp, _, rfl⟩) (hb hby d7_55) ⟨rfl, N0, e0⟩ (by decide) (by decide)
theorem ef_rmM2 (m : MethodId) (x0 : Addr) (x1 : Int32) (x2 : Int32) (x3 : Int32) (x4 : Int32) : entryFrame m #[(.ref x0), (.int x1), (.int x2), (.int x3), (.int x4)] 5 = mkF m 0 #[.val (.ref x0), .val (.int x1), .val (.int x2), .val (.int x3), .val (.int x4)] [] := by first | (simp [entryFrame, mkF, argsToLocals, Value.category]; done) | rfl
theorem d7_30 : decode method_3_code 30 = .ok (.aload_n 0, 1) := by decide +kernel
theorem d7_31 : decode method_3_code 31 = .ok (.iconst 1, 1) := by decide +kernel
theorem d7_32 : decode method_3_code 32 = .ok (.baload, 1) := by decide +kernel
theorem d7_33 : decode method_3_code 33 = .ok (.iload_n 3, 1) := by decide +kernel
theorem d7_34 : decode method_3_code 34 = .ok (.if_icmp .eq 5, 3) := by decide +kernel
set_option maxRecDepth 65536 in
set_option maxHeartbeats 40000000 in
theorem rmM2 (l : Launch) (Z : State) (a0 : Array Value) (hw : ∀ d ∈ tables_1, d.before a0 Z = true) (ws : List Jvm.Cond) (a1 : Addr) (y0 y1 y2 : Int32) (k : ClassId) (h0 : Heap) (n0 : Nat) (Z0 : n0 ≤ h0.size) (V : Arv Z h0 a1 k .byte (2 : Int32) [(.int y0), (.int y1)] (.int (0 : Int32))) :
    MetFree l (⟨"com/example/coxswain/coxswain/wire/StatusDetailsPinLaw", "same", "([BIBBB)Z"⟩ : MethodName) (head1 (Jvm.Cond.code (⟨"com/example/coxswain/coxswain/wire/StatusDetailsPinLaw", "same", "([BIBBB)Z"⟩ : MethodName) method_3_code 5 (some .boolean) :: ws) ({ frames := 0, cells := 0, slots := 0, locals := 0 } : Room)) (fun a U => a = #[(.ref a1), (.int (2 : Int32)), (.int y0), (.int y1), (.int y2)] ∧ Z.Warmed39 U.vm ∧ U.heap = h0) (fun _ _ _ _ _ => True) (fun _ U o U' => ∃ v L, o = .returned v ∧ own_pure (.int 1) h0 n0 v U'.heap L ∧ FrameEnd U o U' L ({ frames := 0, cells := 0, slots := 0, locals := 0 } : Room).cells ({ frames := 0, cells := 0, slots := 0, locals := 0 } : Room).slots) := by
  refine MetFree.of_bodySF (plainFor_of_name pn_com_example_coxswain_coxswain_wire_StatusDetailsPinLaw) hisR ?_
  intro p e s m args below meth c s₁ Bd hml0 hP hK
  obtain ⟨rfl, hZ, hh⟩ := hP
  have hx := Bd.exec
  have hby := Bd.bytes
  have hml : c.maxLocals = 5 := hml0
  have hown : s.vm.findClass "com/example/coxswain/coxswain/wire/StatusDetailsPinLaw" = some m.cls := findClass_of_methodNamed Bd.named
  have hnm := (name_of_methodNamed Bd.named Bd.method).1
  have X0 : Stand p l e ({ frames := 0, cells := 0, slots := 0, locals := 0 } : Room) s m #[(.ref a1), (.int (2 : Int32)), (.int y0), (.int y1), (.int y2)] below meth c s₁ [] 0 0 := Stand.of_body Bd
  have e0 : s₁.heap = h0 := by rw [← hh, Bd.state]; rfl
  have N0 := Fr.nil n0
  suffices own_main : own_End p e below s (own_pure (.int 1) h0 n0) ({ frames := 0, cells := 0, slots := 0, locals := 0 } : Room).cells ({ frames := 0, cells := 0, slots := 0, locals := 0 } : Room).slots s₁ (mkF m 0 #[.val (.ref a1), .val (.int (2 : Int32)), .val (.int y0), .val (.int y1), .val (.int y2)] []) by
    obtain ⟨s₂, o, k1, k2, k3, k4⟩ := own_main
    exact ⟨s₂, o, castTop (ef_rmM2 m a1 (2 : Int32) y0 y1 y2) k1, k2, k3, k4⟩
  show own_End _ _ _ _ _ _ _ s₁ (mkF m 0 #[.val (.ref a1), .val (.int (2 : Int32)), .val (.int y0), .val (.int y1), .val (.int y2)] [])
  refine own_go (fun t k => XS.aloadN X0.here hx rfl (hb hby d7_0) rfl rfl k) ?_
  show own_End _ _ _ _ _ _ _ s₁ (mkF m 1 #[.val (.ref a1), .val (.int (2 : Int32)), .val (.int y0), .val (.int y1), .val (.int y2)] [(.ref a1)])
  refine own_go (fun t k => XS.ifnullNo X0.here hx rfl (hb hby d7_1) rfl k) ?_
  show own_End _ _ _ _ _ _ _ s₁ (mkF m 4 #[.val (.ref a1), .val (.int (2 : Int32)), .val (.int y0), .val (.int y1), .val (.int y2)] [])
  refine own_go (fun t k => XS.aloadN X0.here hx rfl (hb hby d7_4) rfl rfl k) ?_
  show own_End _ _ _ _ _ _ _ s₁ (mkF m 5 #[.val (.ref a1), .val (.int (2 : Int32)), .val (.int y0), .val (.int y1), .val (.int y2)] [(.ref a1)])
  obtain ⟨cl31, Ar31, q31, S31, M31, H31, G31⟩ := id V
  refine own_go (fun t k => X0.arraylength hx (by rw [e0]; exact Ar31.1) (State.isArrayOf_alike hZ.alike Ar31.2.1) (g := (mkF m 5 #[.val (.ref a1), .val (.int (2 : Int32)), .val (.int y0), .val (.int y1), .val (.int y2)] [(.ref a1)])) rfl rfl (hb hby d7_5) t k) ?_
  rw [len_of S31 M31]
  show own_End _ _ _ _ _ _ _ s₁ (mkF m 6 #[.val (.ref a1), .val (.int (2 : Int32)), .val (.int y0), .val (.int y1), .val (.int y2)] [(.int (2 : Int32))])
  refine own_go (fun t k => XS.iloadN X0.here hx rfl (hb hby d7_6) rfl k) ?_
  show own_End _ _ _ _ _ _ _ s₁ (mkF m 7 #[.val (.ref a1), .val (.int (2 : Int32)), .val (.int y0), .val (.int y1), .val (.int y2)] [(.int (2 : Int32)), (.int (2 : Int32))])
  refine own_go (fun t k => XS.icmpYes X0.here hx rfl (pc0 := 7) (pc' := 12) rfl (hb hby d7_7) rfl (teq (by decide : (2 : Int32) = (2 : Int32))).1 (by decide) (by decide) k) ?_
  show own_End _ _ _ _ _ _ _ s₁ (mkF m 12 #[.val (.ref a1), .val (.int (2 : Int32)), .val (.int y0), .val (.int y1), .val (.int y2)] [])
  refine own_go (fun t k => XS.iloadN X0.here hx rfl (hb hby d7_12) rfl k) ?_
  show own_End _ _ _ _ _ _ _ s₁ (mkF m 13 #[.val (.ref a1), .val (.int (2 : Int32)), .val (.int y0), .val (.int y1), .val (.int y2)] [(.int (2 : Int32))])
  refine own_go (fun t k => XS.ifNo X0.here hx rfl (hb hby d7_13) rfl ((if0 _ _).trans (tlt (by decide : (0 : Int32) < (2 : Int32))).2.2.2) k) ?_
  show own_End _ _ _ _ _ _ _ s₁ (mkF m 16 #[.val (.ref a1), .val (.int (2 : Int32)), .val (.int y0), .val (.int y1), .val (.int y2)] [])
  refine own_go (fun t k => XS.aloadN X0.here hx rfl (hb hby d7_16) rfl rfl k) ?_
  show own_End _ _ _ _ _ _ _ s₁ (mkF m 17 #[.val (.ref a1), .val (.int (2 : Int32)), .val (.int y0), .val (.int y1), .val (.int y2)] [(.ref a1)])
  refine own_go (fun t k => XS.iconst X0.here hx rfl (hb hby d7_17) k) ?_
  show own_End _ _ _ _ _ _ _ s₁ (mkF m 18 #[.val (.ref a1), .val (.int (2 : Int32)), .val (.int y0), .val (.int y1), .val (.int y2)] [(.int (0 : Int32)), (.ref a1)])
  obtain ⟨cl32, Ar32, q32, S32, M32, H32, G32⟩ := id V
  refine own_go (fun t k => X0.baloadBytes hx (j := (0 : Int32)) (v := (.int y0)) (by rw [e0]; exact Ar32.1) (State.isArrayOf_alike hZ.alike Ar32.2.1) Ar32.2.2 (inb_of S32 ⟨by decide, by decide⟩) (H32.at (inb_of S32 ⟨by decide, by decide⟩) rfl) (g := (mkF m 18 #[.val (.ref a1), .val (.int (2 : Int32)), .val (.int y0), .val (.int y1), .val (.int y2)] [(.int (0 : Int32)), (.ref a1)])) rfl rfl (hb hby d7_18) t k) ?_
  show own_End _ _ _ _ _ _ _ s₁ (mkF m 19 #[.val (.ref a1), .val (.int (2 : Int32)), .val (.int y0), .val (.int y1), .val (.int y2)] [(.int y0)])
  refine own_go (fun t k => XS.iloadN X0.here hx rfl (hb hby d7_19) rfl k) ?_
  show own_End _ _ _ _ _ _ _ s₁ (mkF m 20 #[.val (.ref a1), .val (.int (2 : Int32)), .val (.int y0), .val (.int y1), .val (.int y2)] [(.int y0), (.int y0)])
  refine own_go (fun t k => XS.icmpYes X0.here hx rfl (pc0 := 20) (pc' := 25) rfl (hb hby d7_20) rfl (teq (rfl : y0 = y0)).1 (by decide) (by decide) k) ?_
  show own_End _ _ _ _ _ _ _ s₁ (mkF m 25 #[.val (.ref a1), .val (.int (2 : Int32)), .val (.int y0), .val (.int y1), .val (.int y2)] [])
  refine own_go (fun t k => XS.iloadN X0.here hx rfl (hb hby d7_25) rfl k) ?_
  show own_End _ _ _ _ _ _ _ s₁ (mkF m 26 #[.val (.ref a1), .val (.int (2 : Int32)), .val (.int y0), .val (.int y1), .val (.int y2)] [(.int (2 : Int32))])
  refine own_go (fun t k => XS.iconst X0.here hx rfl (hb hby d7_26) k) ?_
  show own_End _ _ _ _ _ _ _ s₁ (mkF m 27 #[.val (.ref a1), .val (.int (2 : Int32)), .val (.int y0), .val (.int y1), .val (.int y2)] [(.int (1 : Int32)), (.int (2 : Int32))])
  refine own_go (fun t k => XS.icmpNo X0.here hx rfl (hb hby d7_27) rfl (tlt (by decide : (1 : Int32) < (2 : Int32))).2.2.2 k) ?_
  show own_End _ _ _ _ _ _ _ s₁ (mkF m 30 #[.val (.ref a1), .val (.int (2 : Int32)), .val (.int y0), .val (.int y1), .val (.int y2)] [])
  refine own_go (fun t k => XS.aloadN X0.here hx rfl (hb hby d7_30) rfl rfl k) ?_
  show own_End _ _ _ _ _ _ _ s₁ (mkF m 31 #[.val (.ref a1), .val (.int (2 : Int32)), .val (.int y0), .val (.int y1), .val (.int y2)] [(.ref a1)])
  refine own_go (fun t k => XS.iconst X0.here hx rfl (hb hby d7_31) k) ?_
  show own_End _ _ _ _ _ _ _ s₁ (mkF m 32 #[.val (.ref a1), .val (.int (2 : Int32)), .val (.int y0), .val (.int y1), .val (.int y2)] [(.int (1 : Int32)), (.ref a1)])
  obtain ⟨cl33, Ar33, q33, S33, M33, H33, G33⟩ := id V
  refine own_go (fun t k => X0.baloadBytes hx (j := (1 : Int32)) (v := (.int y1)) (by rw [e0]; exact Ar33.1) (State.isArrayOf_alike hZ.alike Ar33.2.1) Ar33.2.2 (inb_of S33 ⟨by decide, by decide⟩) (H33.at (inb_of S33 ⟨by decide, by decide⟩) rfl) (g := (mkF m 32 #[.val (.ref a1), .val (.int (2 : Int32)), .val (.int y0), .val (.int y1), .val (.int y2)] [(.int (1 : Int32)), (.ref a1)])) rfl rfl (hb hby d7_32) t k) ?_
  show own_End _ _ _ _ _ _ _ s₁ (mkF m 33 #[.val (.ref a1), .val (.int (2 : Int32)), .val (.int y0), .val (.int y1), .val (.int y2)] [(.int y1)])
  refine own_go (fun t k => XS.iloadN X0.here hx rfl (hb hby d7_33) rfl k) ?_
  show own_End _ _ _ _ _ _ _ s₁ (mkF m 34 #[.val (.ref a1), .val (.int (2 : Int32)), .val (.int y0), .val (.int y1), .val (.int y2)] [(.int y1), (.int y1)])
  refine own_go (fun t k => XS.icmpYes X0.here hx rfl (pc0 := 34) (pc' := 39) rfl (hb hby d7_34) rfl (teq (rfl : y1 = y1)).1 (by decide) (by decide) k) ?_
  show own_End _ _ _ _ _ _ _ s₁ (mkF m 39 #[.val (.ref a1), .val (.int (2 : Int32)), .val (.int y0), .val (.int y1), .val (.int y2)] [])
  refine own_go (fun t k => XS.iloadN X0.here hx rfl (hb hby d7_39) rfl k) ?_
  show own_End _ _ _ _ _ _ _ s₁ (mkF m 40 #[.val (.ref a1), .val (.int (2 : Int32)), .val (.int y0), .val (.int y1), .val (.int y2)] [(.int (2 : Int32))])
  refine own_go (fun t k => XS.iconst X0.here hx rfl (hb hby d7_40) k) ?_
  show own_End _ _ _ _ _ _ _ s₁ (mkF m 41 #[.val (.ref a1), .val (.int (2 : Int32)), .val (.int y0), .val (.int y1), .val (.int y2)] [(.int (2 : Int32)), (.int (2 : Int32))])
  refine own_go (fun t k => XS.icmpYes X0.here hx rfl (pc0 := 41) (pc' := 54) rfl (hb hby d7_41) rfl (flt (by decide : ¬ ((2 : Int32) < (2 : Int32)))).2.2.2 (by decide) (by decide) k) ?_
  show own_End _ _ _ _ _ _ _ s₁ (mkF m 54 #[.val (.ref a1), .val (.int (2 : Int32)), .val (.int y0), .val (.int y1), .val (.int y2)] [])
  refine own_go (fun t k => XS.iconst X0.here hx rfl (hb hby d7_54) k) ?_
  show own_End _ _ _ _ _ _ _ s₁ (mkF m 55 #[.val (.ref a1), .val (.int (2 : Int32)), .val (.int y0), .val (.int y1), .val (.int y2)] [(.int (1 : Int32))])
  exact own_retW X0 hx Bd.returns Bd.notSynchronized rfl (Or.inl ⟨rfl, by simp, _, rfl⟩) (hb hby d7_55) ⟨rfl, N0, e0⟩ (by decide) (by decide)
theorem ef_rmM3 (m : MethodId) (x0 : Addr) (x1 : Int32) (x2 : Int32) (x3 : Int32) (x4 : Int32) : entryFrame m #[(.ref x0), (.int x1), (.int x2), (.int x3), (.int x4)] 5 = mkF m 0 #[.val (.ref x0), .val (.int x1), .val (.int x2), .val (.int x3), .val (.int x4)] [] := by first | (simp [entryFrame, mkF, argsToLocals, Value.category]; done) | rfl
theorem d7_44 : decode method_3_code 44 = .ok (.aload_n 0, 1) := by decide +kernel
theorem d7_45 : decode method_3_code 45 = .ok (.iconst 2, 1) := by decide +kernel
theorem d7_46 : decode method_3_code 46 = .ok (.baload, 1) := by decide +kernel
theorem d7_47 : decode method_3_code 47 = .ok (.iload 4, 2) := by decide +kernel
theorem d7_49 : decode method_3_code 49 = .ok (.if_icmp .eq 5, 3) := by decide +kernel
set_option maxRecDepth 65536 in
set_option maxHeartbeats 40000000 in
theorem rmM3 (l : Launch) (Z : State) (a0 : Array Value) (hw : ∀ d ∈ tables_1, d.before a0 Z = true) (ws : List Jvm.Cond) (a1 : Addr) (y0 y1 y2 : Int32) (k : ClassId) (h0 : Heap) (n0 : Nat) (Z0 : n0 ≤ h0.size) (V : Arv Z h0 a1 k .byte (3 : Int32) [(.int y0), (.int y1), (.int y2)] (.int (0 : Int32))) :
    MetFree l (⟨"com/example/coxswain/coxswain/wire/StatusDetailsPinLaw", "same", "([BIBBB)Z"⟩ : MethodName) (head1 (Jvm.Cond.code (⟨"com/example/coxswain/coxswain/wire/StatusDetailsPinLaw", "same", "([BIBBB)Z"⟩ : MethodName) method_3_code 5 (some .boolean) :: ws) ({ frames := 0, cells := 0, slots := 0, locals := 0 } : Room)) (fun a U => a = #[(.ref a1), (.int (3 : Int32)), (.int y0), (.int y1), (.int y2)] ∧ Z.Warmed39 U.vm ∧ U.heap = h0) (fun _ _ _ _ _ => True) (fun _ U o U' => ∃ v L, o = .returned v ∧ own_pure (.int 1) h0 n0 v U'.heap L ∧ FrameEnd U o U' L ({ frames := 0, cells := 0, slots := 0, locals := 0 } : Room).cells ({ frames := 0, cells := 0, slots := 0, locals := 0 } : Room).slots) := by
  refine MetFree.of_bodySF (plainFor_of_name pn_com_example_coxswain_coxswain_wire_StatusDetailsPinLaw) hisR ?_
  intro p e s m args below meth c s₁ Bd hml0 hP hK
  obtain ⟨rfl, hZ, hh⟩ := hP
  have hx := Bd.exec
  have hby := Bd.bytes
  have hml : c.maxLocals = 5 := hml0
  have hown : s.vm.findClass "com/example/coxswain/coxswain/wire/StatusDetailsPinLaw" = some m.cls := findClass_of_methodNamed Bd.named
  have hnm := (name_of_methodNamed Bd.named Bd.method).1
  have X0 : Stand p l e ({ frames := 0, cells := 0, slots := 0, locals := 0 } : Room) s m #[(.ref a1), (.int (3 : Int32)), (.int y0), (.int y1), (.int y2)] below meth c s₁ [] 0 0 := Stand.of_body Bd
  have e0 : s₁.heap = h0 := by rw [← hh, Bd.state]; rfl
  have N0 := Fr.nil n0
  suffices own_main : own_End p e below s (own_pure (.int 1) h0 n0) ({ frames := 0, cells := 0, slots := 0, locals := 0 } : Room).cells ({ frames := 0, cells := 0, slots := 0, locals := 0 } : Room).slots s₁ (mkF m 0 #[.val (.ref a1), .val (.int (3 : Int32)), .val (.int y0), .val (.int y1), .val (.int y2)] []) by
    obtain ⟨s₂, o, k1, k2, k3, k4⟩ := own_main
    exact ⟨s₂, o, castTop (ef_rmM3 m a1 (3 : Int32) y0 y1 y2) k1, k2, k3, k4⟩
  show own_End _ _ _ _ _ _ _ s₁ (mkF m 0 #[.val (.ref a1), .val (.int (3 : Int32)), .val (.int y0), .val (.int y1), .val (.int y2)] [])
  refine own_go (fun t k => XS.aloadN X0.here hx rfl (hb hby d7_0) rfl rfl k) ?_
  show own_End _ _ _ _ _ _ _ s₁ (mkF m 1 #[.val (.ref a1), .val (.int (3 : Int32)), .val (.int y0), .val (.int y1), .val (.int y2)] [(.ref a1)])
  refine own_go (fun t k => XS.ifnullNo X0.here hx rfl (hb hby d7_1) rfl k) ?_
  show own_End _ _ _ _ _ _ _ s₁ (mkF m 4 #[.val (.ref a1), .val (.int (3 : Int32)), .val (.int y0), .val (.int y1), .val (.int y2)] [])
  refine own_go (fun t k => XS.aloadN X0.here hx rfl (hb hby d7_4) rfl rfl k) ?_
  show own_End _ _ _ _ _ _ _ s₁ (mkF m 5 #[.val (.ref a1), .val (.int (3 : Int32)), .val (.int y0), .val (.int y1), .val (.int y2)] [(.ref a1)])
  obtain ⟨cl34, Ar34, q34, S34, M34, H34, G34⟩ := id V
  refine own_go (fun t k => X0.arraylength hx (by rw [e0]; exact Ar34.1) (State.isArrayOf_alike hZ.alike Ar34.2.1) (g := (mkF m 5 #[.val (.ref a1), .val (.int (3 : Int32)), .val (.int y0), .val (.int y1), .val (.int y2)] [(.ref a1)])) rfl rfl (hb hby d7_5) t k) ?_
  rw [len_of S34 M34]
  show own_End _ _ _ _ _ _ _ s₁ (mkF m 6 #[.val (.ref a1), .val (.int (3 : Int32)), .val (.int y0), .val (.int y1), .val (.int y2)] [(.int (3 : Int32))])
  refine own_go (fun t k => XS.iloadN X0.here hx rfl (hb hby d7_6) rfl k) ?_
  show own_End _ _ _ _ _ _ _ s₁ (mkF m 7 #[.val (.ref a1), .val (.int (3 : Int32)), .val (.int y0), .val (.int y1), .val (.int y2)] [(.int (3 : Int32)), (.int (3 : Int32))])
  refine own_go (fun t k => XS.icmpYes X0.here hx rfl (pc0 := 7) (pc' := 12) rfl (hb hby d7_7) rfl (teq (by decide : (3 : Int32) = (3 : Int32))).1 (by decide) (by decide) k) ?_
  show own_End _ _ _ _ _ _ _ s₁ (mkF m 12 #[.val (.ref a1), .val (.int (3 : Int32)), .val (.int y0), .val (.int y1), .val (.int y2)] [])
  refine own_go (fun t k => XS.iloadN X0.here hx rfl (hb hby d7_12) rfl k) ?_
  show own_End _ _ _ _ _ _ _ s₁ (mkF m 13 #[.val (.ref a1), .val (.int (3 : Int32)), .val (.int y0), .val (.int y1), .val (.int y2)] [(.int (3 : Int32))])
  refine own_go (fun t k => XS.ifNo X0.here hx rfl (hb hby d7_13) rfl ((if0 _ _).trans (tlt (by decide : (0 : Int32) < (3 : Int32))).2.2.2) k) ?_
  show own_End _ _ _ _ _ _ _ s₁ (mkF m 16 #[.val (.ref a1), .val (.int (3 : Int32)), .val (.int y0), .val (.int y1), .val (.int y2)] [])
  refine own_go (fun t k => XS.aloadN X0.here hx rfl (hb hby d7_16) rfl rfl k) ?_
  show own_End _ _ _ _ _ _ _ s₁ (mkF m 17 #[.val (.ref a1), .val (.int (3 : Int32)), .val (.int y0), .val (.int y1), .val (.int y2)] [(.ref a1)])
  refine own_go (fun t k => XS.iconst X0.here hx rfl (hb hby d7_17) k) ?_
  show own_End _ _ _ _ _ _ _ s₁ (mkF m 18 #[.val (.ref a1), .val (.int (3 : Int32)), .val (.int y0), .val (.int y1), .val (.int y2)] [(.int (0 : Int32)), (.ref a1)])
  obtain ⟨cl35, Ar35, q35, S35, M35, H35, G35⟩ := id V
  refine own_go (fun t k => X0.baloadBytes hx (j := (0 : Int32)) (v := (.int y0)) (by rw [e0]; exact Ar35.1) (State.isArrayOf_alike hZ.alike Ar35.2.1) Ar35.2.2 (inb_of S35 ⟨by decide, by decide⟩) (H35.at (inb_of S35 ⟨by decide, by decide⟩) rfl) (g := (mkF m 18 #[.val (.ref a1), .val (.int (3 : Int32)), .val (.int y0), .val (.int y1), .val (.int y2)] [(.int (0 : Int32)), (.ref a1)])) rfl rfl (hb hby d7_18) t k) ?_
  show own_End _ _ _ _ _ _ _ s₁ (mkF m 19 #[.val (.ref a1), .val (.int (3 : Int32)), .val (.int y0), .val (.int y1), .val (.int y2)] [(.int y0)])
  refine own_go (fun t k => XS.iloadN X0.here hx rfl (hb hby d7_19) rfl k) ?_
  show own_End _ _ _ _ _ _ _ s₁ (mkF m 20 #[.val (.ref a1), .val (.int (3 : Int32)), .val (.int y0), .val (.int y1), .val (.int y2)] [(.int y0), (.int y0)])
  refine own_go (fun t k => XS.icmpYes X0.here hx rfl (pc0 := 20) (pc' := 25) rfl (hb hby d7_20) rfl (teq (rfl : y0 = y0)).1 (by decide) (by decide) k) ?_
  show own_End _ _ _ _ _ _ _ s₁ (mkF m 25 #[.val (.ref a1), .val (.int (3 : Int32)), .val (.int y0), .val (.int y1), .val (.int y2)] [])
  refine own_go (fun t k => XS.iloadN X0.here hx rfl (hb hby d7_25) rfl k) ?_
  show own_End _ _ _ _ _ _ _ s₁ (mkF m 26 #[.val (.ref a1), .val (.int (3 : Int32)), .val (.int y0), .val (.int y1), .val (.int y2)] [(.int (3 : Int32))])
  refine own_go (fun t k => XS.iconst X0.here hx rfl (hb hby d7_26) k) ?_
  show own_End _ _ _ _ _ _ _ s₁ (mkF m 27 #[.val (.ref a1), .val (.int (3 : Int32)), .val (.int y0), .val (.int y1), .val (.int y2)] [(.int (1 : Int32)), (.int (3 : Int32))])
  refine own_go (fun t k => XS.icmpNo X0.here hx rfl (hb hby d7_27) rfl (tlt (by decide : (1 : Int32) < (3 : Int32))).2.2.2 k) ?_
  show own_End _ _ _ _ _ _ _ s₁ (mkF m 30 #[.val (.ref a1), .val (.int (3 : Int32)), .val (.int y0), .val (.int y1), .val (.int y2)] [])
  refine own_go (fun t k => XS.aloadN X0.here hx rfl (hb hby d7_30) rfl rfl k) ?_
  show own_End _ _ _ _ _ _ _ s₁ (mkF m 31 #[.val (.ref a1), .val (.int (3 : Int32)), .val (.int y0), .val (.int y1), .val (.int y2)] [(.ref a1)])
  refine own_go (fun t k => XS.iconst X0.here hx rfl (hb hby d7_31) k) ?_
  show own_End _ _ _ _ _ _ _ s₁ (mkF m 32 #[.val (.ref a1), .val (.int (3 : Int32)), .val (.int y0), .val (.int y1), .val (.int y2)] [(.int (1 : Int32)), (.ref a1)])
  obtain ⟨cl36, Ar36, q36, S36, M36, H36, G36⟩ := id V
  refine own_go (fun t k => X0.baloadBytes hx (j := (1 : Int32)) (v := (.int y1)) (by rw [e0]; exact Ar36.1) (State.isArrayOf_alike hZ.alike Ar36.2.1) Ar36.2.2 (inb_of S36 ⟨by decide, by decide⟩) (H36.at (inb_of S36 ⟨by decide, by decide⟩) rfl) (g := (mkF m 32 #[.val (.ref a1), .val (.int (3 : Int32)), .val (.int y0), .val (.int y1), .val (.int y2)] [(.int (1 : Int32)), (.ref a1)])) rfl rfl (hb hby d7_32) t k) ?_
  show own_End _ _ _ _ _ _ _ s₁ (mkF m 33 #[.val (.ref a1), .val (.int (3 : Int32)), .val (.int y0), .val (.int y1), .val (.int y2)] [(.int y1)])
  refine own_go (fun t k => XS.iloadN X0.here hx rfl (hb hby d7_33) rfl k) ?_
  show own_End _ _ _ _ _ _ _ s₁ (mkF m 34 #[.val (.ref a1), .val (.int (3 : Int32)), .val (.int y0), .val (.int y1), .val (.int y2)] [(.int y1), (.int y1)])
  refine own_go (fun t k => XS.icmpYes X0.here hx rfl (pc0 := 34) (pc' := 39) rfl (hb hby d7_34) rfl (teq (rfl : y1 = y1)).1 (by decide) (by decide) k) ?_
  show own_End _ _ _ _ _ _ _ s₁ (mkF m 39 #[.val (.ref a1), .val (.int (3 : Int32)), .val (.int y0), .val (.int y1), .val (.int y2)] [])
  refine own_go (fun t k => XS.iloadN X0.here hx rfl (hb hby d7_39) rfl k) ?_
  show own_End _ _ _ _ _ _ _ s₁ (mkF m 40 #[.val (.ref a1), .val (.int (3 : Int32)), .val (.int y0), .val (.int y1), .val (.int y2)] [(.int (3 : Int32))])
  refine own_go (fun t k => XS.iconst X0.here hx rfl (hb hby d7_40) k) ?_
  show own_End _ _ _ _ _ _ _ s₁ (mkF m 41 #[.val (.ref a1), .val (.int (3 : Int32)), .val (.int y0), .val (.int y1), .val (.int y2)] [(.int (2 : Int32)), (.int (3 : Int32))])
  refine own_go (fun t k => XS.icmpNo X0.here hx rfl (hb hby d7_41) rfl (tlt (by decide : (2 : Int32) < (3 : Int32))).2.2.2 k) ?_
  show own_End _ _ _ _ _ _ _ s₁ (mkF m 44 #[.val (.ref a1), .val (.int (3 : Int32)), .val (.int y0), .val (.int y1), .val (.int y2)] [])
  refine own_go (fun t k => XS.aloadN X0.here hx rfl (hb hby d7_44) rfl rfl k) ?_
  show own_End _ _ _ _ _ _ _ s₁ (mkF m 45 #[.val (.ref a1), .val (.int (3 : Int32)), .val (.int y0), .val (.int y1), .val (.int y2)] [(.ref a1)])
  refine own_go (fun t k => XS.iconst X0.here hx rfl (hb hby d7_45) k) ?_
  show own_End _ _ _ _ _ _ _ s₁ (mkF m 46 #[.val (.ref a1), .val (.int (3 : Int32)), .val (.int y0), .val (.int y1), .val (.int y2)] [(.int (2 : Int32)), (.ref a1)])
  obtain ⟨cl37, Ar37, q37, S37, M37, H37, G37⟩ := id V
  refine own_go (fun t k => X0.baloadBytes hx (j := (2 : Int32)) (v := (.int y2)) (by rw [e0]; exact Ar37.1) (State.isArrayOf_alike hZ.alike Ar37.2.1) Ar37.2.2 (inb_of S37 ⟨by decide, by decide⟩) (H37.at (inb_of S37 ⟨by decide, by decide⟩) rfl) (g := (mkF m 46 #[.val (.ref a1), .val (.int (3 : Int32)), .val (.int y0), .val (.int y1), .val (.int y2)] [(.int (2 : Int32)), (.ref a1)])) rfl rfl (hb hby d7_46) t k) ?_
  show own_End _ _ _ _ _ _ _ s₁ (mkF m 47 #[.val (.ref a1), .val (.int (3 : Int32)), .val (.int y0), .val (.int y1), .val (.int y2)] [(.int y2)])
  refine own_go (fun t k => XS.iload X0.here hx rfl (hb hby d7_47) rfl k) ?_
  show own_End _ _ _ _ _ _ _ s₁ (mkF m 49 #[.val (.ref a1), .val (.int (3 : Int32)), .val (.int y0), .val (.int y1), .val (.int y2)] [(.int y2), (.int y2)])
  refine own_go (fun t k => XS.icmpYes X0.here hx rfl (pc0 := 49) (pc' := 54) rfl (hb hby d7_49) rfl (teq (rfl : y2 = y2)).1 (by decide) (by decide) k) ?_
  show own_End _ _ _ _ _ _ _ s₁ (mkF m 54 #[.val (.ref a1), .val (.int (3 : Int32)), .val (.int y0), .val (.int y1), .val (.int y2)] [])
  refine own_go (fun t k => XS.iconst X0.here hx rfl (hb hby d7_54) k) ?_
  show own_End _ _ _ _ _ _ _ s₁ (mkF m 55 #[.val (.ref a1), .val (.int (3 : Int32)), .val (.int y0), .val (.int y1), .val (.int y2)] [(.int (1 : Int32))])
  exact own_retW X0 hx Bd.returns Bd.notSynchronized rfl (Or.inl ⟨rfl, by simp, _, rfl⟩) (hb hby d7_55) ⟨rfl, N0, e0⟩ (by decide) (by decide)
theorem ef_rmT0 (m : MethodId) (x0 : Addr) : entryFrame m #[(.ref x0)] 1 = mkF m 0 #[.val (.ref x0)] [] := by first | (simp [entryFrame, mkF, argsToLocals, Value.category]; done) | rfl
theorem pn_com_example_coxswain_coxswain_wire_Status : plainName "com/example/coxswain/coxswain/wire/Status" = true := by first | (simp [plainName, overriddenIn]; done) | decide +kernel
theorem d6_0 : decode prog_40_method_4_code 0 = .ok (.aload_n 0, 1) := by decide +kernel
theorem d6_1 : decode prog_40_method_4_code 1 = .ok (.getfield 35, 3) := by decide +kernel
theorem d6_4 : decode prog_40_method_4_code 4 = .ok (.arraylength, 1) := by decide +kernel
theorem d6_5 : decode prog_40_method_4_code 5 = .ok (.ifCond .ne 9, 3) := by decide +kernel
theorem d6_8 : decode prog_40_method_4_code 8 = .ok (.getstatic 17, 3) := by decide +kernel
theorem d6_11 : decode prog_40_method_4_code 11 = .ok (.goto 13, 3) := by decide +kernel
theorem d6_24 : decode prog_40_method_4_code 24 = .ok (.areturn, 1) := by decide +kernel
set_option maxRecDepth 65536 in
set_option maxHeartbeats 40000000 in
theorem rmT0 (l : Launch) (Z : State) (a0 : Array Value) (hw : ∀ d ∈ tables_1, d.before a0 Z = true) (ws : List Jvm.Cond) (a1 wN : Addr) (cl : Cell) (h0 : Heap) (n0 : Nat) (Z0 : n0 ≤ h0.size) (F : Fld Z h0 a1 "com/example/coxswain/coxswain/wire/Status" "details" "[B" (.ref wN)) (SN : Sta Z h0 "com/example/coxswain/coxswain/wire/Status" "NO_DETAILS" "[B" (.ref wN)) (Ar : Arr Z h0 wN cl .byte) (Sz : cl.slots.size = (0 : Int32).toNatClampNeg) :
    MetFree l (⟨"com/example/coxswain/coxswain/wire/Status", "details", "()[B"⟩ : MethodName) (head1 (Jvm.Cond.code (⟨"com/example/coxswain/coxswain/wire/Status", "details", "()[B"⟩ : MethodName) prog_40_method_4_code 1 (some (.array .byte)) :: ws) ({ frames := 0, cells := 0, slots := 0, locals := 0 } : Room)) (fun a U => a = #[(.ref a1)] ∧ Z.Warmed39 U.vm ∧ U.heap = h0) (fun _ _ _ _ _ => True) (fun _ U o U' => ∃ v L, o = .returned v ∧ own_pure (.ref wN) h0 n0 v U'.heap L ∧ FrameEnd U o U' L ({ frames := 0, cells := 0, slots := 0, locals := 0 } : Room).cells ({ frames := 0, cells := 0, slots := 0, locals := 0 } : Room).slots) := by
  refine MetFree.of_bodySF (plainFor_of_name pn_com_example_coxswain_coxswain_wire_Status) hisR ?_
  intro p e s m args below meth c s₁ Bd hml0 hP hK
  obtain ⟨rfl, hZ, hh⟩ := hP
  have hx := Bd.exec
  have hby := Bd.bytes
  have hml : c.maxLocals = 1 := hml0
  have hown : s.vm.findClass "com/example/coxswain/coxswain/wire/Status" = some m.cls := findClass_of_methodNamed Bd.named
  have hnm := (name_of_methodNamed Bd.named Bd.method).1
  have X0 : Stand p l e ({ frames := 0, cells := 0, slots := 0, locals := 0 } : Room) s m #[(.ref a1)] below meth c s₁ [] 0 0 := Stand.of_body Bd
  have e0 : s₁.heap = h0 := by rw [← hh, Bd.state]; rfl
  have N0 := Fr.nil n0
  suffices own_main : own_End p e below s (own_pure (.ref wN) h0 n0) ({ frames := 0, cells := 0, slots := 0, locals := 0 } : Room).cells ({ frames := 0, cells := 0, slots := 0, locals := 0 } : Room).slots s₁ (mkF m 0 #[.val (.ref a1)] []) by
    obtain ⟨s₂, o, k1, k2, k3, k4⟩ := own_main
    exact ⟨s₂, o, castTop (ef_rmT0 m a1) k1, k2, k3, k4⟩
  show own_End _ _ _ _ _ _ _ s₁ (mkF m 0 #[.val (.ref a1)] [])
  refine own_go (fun t k => XS.aloadN X0.here hx rfl (hb hby d6_0) rfl rfl k) ?_
  show own_End _ _ _ _ _ _ _ s₁ (mkF m 1 #[.val (.ref a1)] [(.ref a1)])
  obtain ⟨T38, X38, e38, st38⟩ := getF X0 hx hZ hown (host := "") (Or.inl (hw _ (List.mem_of_getElem? (i := 36) rfl))) Via.refl e0 F (g := (mkF m 1 #[.val (.ref a1)] [(.ref a1)])) rfl rfl (hb hby d6_1)
  refine own_go st38 ?_
  show own_End _ _ _ _ _ _ _ T38 (mkF m 4 #[.val (.ref a1)] [(.ref wN)])
  refine own_go (fun t k => X38.arraylength hx (by rw [e38]; exact Ar.1) (State.isArrayOf_alike hZ.alike Ar.2.1) (g := (mkF m 4 #[.val (.ref a1)] [(.ref wN)])) rfl rfl (hb hby d6_4) t k) ?_
  rw [len_of Sz (by decide : ¬ (0 : Int32) < 0)]
  show own_End _ _ _ _ _ _ _ T38 (mkF m 5 #[.val (.ref a1)] [(.int (0 : Int32))])
  refine own_go (fun t k => XS.ifNo X38.here hx rfl (hb hby d6_5) rfl ((if0 _ _).trans (teq (by decide : (0 : Int32) = (0 : Int32))).2) k) ?_
  show own_End _ _ _ _ _ _ _ T38 (mkF m 8 #[.val (.ref a1)] [])
  obtain ⟨T39, X39, e39, st39⟩ := getS2 X38 hx hZ hown (host := "") (Or.inl (hw _ (List.mem_of_getElem? (i := 30) rfl))) Via.refl e38 SN (g := (mkF m 8 #[.val (.ref a1)] [])) rfl (hb hby d6_8)
  refine own_go st39 ?_
  show own_End _ _ _ _ _ _ _ T39 (mkF m 11 #[.val (.ref a1)] [(.ref wN)])
  refine own_go (fun t k => XS.goto X39.here hx rfl (pc0 := 11) (pc' := 24) rfl (hb hby d6_11) (by decide) (by decide) k) ?_
  show own_End _ _ _ _ _ _ _ T39 (mkF m 24 #[.val (.ref a1)] [(.ref wN)])
  exact own_retW X39 hx Bd.returns Bd.notSynchronized rfl (Or.inr (Or.inr (Or.inr (Or.inr ⟨rfl, rfl, rfl⟩)))) (hb hby d6_24) ⟨rfl, N0, e39⟩ (by decide) (by decide)
def Q_rmT1 (Z : State) (a1 d : Addr) (k : ClassId) (u0 : Int32) (h0 : Heap) (n0 : Nat) (v : Option Value) (h : Heap) (L : List Loc) : Prop := ∃ b : Addr, v = some (.ref b) ∧ Fr n0 L ∧ Keep h0 h [] ∧ n0 ≤ b ∧ h0.size ≤ b ∧ Arv Z h b k .byte (1 : Int32) [(.int u0)] (.int (0 : Int32))
theorem ef_rmT1 (m : MethodId) (x0 : Addr) : entryFrame m #[(.ref x0)] 1 = mkF m 0 #[.val (.ref x0)] [] := by first | (simp [entryFrame, mkF, argsToLocals, Value.category]; done) | rfl
theorem d6_14 : decode prog_40_method_4_code 14 = .ok (.aload_n 0, 1) := by decide +kernel
theorem d6_15 : decode prog_40_method_4_code 15 = .ok (.getfield 35, 3) := by decide +kernel
theorem d6_18 : decode prog_40_method_4_code 18 = .ok (.invokevirtual 23, 3) := by decide +kernel
theorem d6_21 : decode prog_40_method_4_code 21 = .ok (.checkcast 24, 3) := by decide +kernel
set_option maxRecDepth 65536 in
set_option maxHeartbeats 40000000 in
theorem rmT1 (l : Launch) (Z : State) (a0 : Array Value) (hw : ∀ d ∈ tables_1, d.before a0 Z = true) (ws : List Jvm.Cond) (a1 d : Addr) (k : ClassId) (u0 : Int32) (h0 : Heap) (n0 : Nat) (Z0 : n0 ≤ h0.size) (F : Fld Z h0 a1 "com/example/coxswain/coxswain/wire/Status" "details" "[B" (.ref d)) (V : Arv Z h0 d k .byte (1 : Int32) [(.int u0)] (.int (0 : Int32))) (Ed : Exa Z h0 d "[B") :
    MetFree l (⟨"com/example/coxswain/coxswain/wire/Status", "details", "()[B"⟩ : MethodName) (head1 (Jvm.Cond.code (⟨"com/example/coxswain/coxswain/wire/Status", "details", "()[B"⟩ : MethodName) prog_40_method_4_code 1 (some (.array .byte)) :: ws) ({ frames := 1, cells := 1, slots := 1, locals := 14 } : Room)) (fun a U => a = #[(.ref a1)] ∧ Z.Warmed39 U.vm ∧ U.heap = h0) (fun _ _ _ _ _ => True) (fun _ U o U' => ∃ v L, o = .returned v ∧ Q_rmT1 Z a1 d k u0 h0 n0 v U'.heap L ∧ FrameEnd U o U' L ({ frames := 1, cells := 1, slots := 1, locals := 14 } : Room).cells ({ frames := 1, cells := 1, slots := 1, locals := 14 } : Room).slots) := by
  refine MetFree.of_bodySF (plainFor_of_name pn_com_example_coxswain_coxswain_wire_Status) hisR ?_
  intro p e s m args below meth c s₁ Bd hml0 hP hK
  obtain ⟨rfl, hZ, hh⟩ := hP
  have hx := Bd.exec
  have hby := Bd.bytes
  have hml : c.maxLocals = 1 := hml0
  have hown : s.vm.findClass "com/example/coxswain/coxswain/wire/Status" = some m.cls := findClass_of_methodNamed Bd.named
  have hnm := (name_of_methodNamed Bd.named Bd.method).1
  have X0 : Stand p l e ({ frames := 1, cells := 1, slots := 1, locals := 14 } : Room) s m #[(.ref a1)] below meth c s₁ [] 0 0 := Stand.of_body Bd
  have e0 : s₁.heap = h0 := by rw [← hh, Bd.state]; rfl
  have N0 := Fr.nil n0
  suffices own_main : own_End p e below s (Q_rmT1 Z a1 d k u0 h0 n0) ({ frames := 1, cells := 1, slots := 1, locals := 14 } : Room).cells ({ frames := 1, cells := 1, slots := 1, locals := 14 } : Room).slots s₁ (mkF m 0 #[.val (.ref a1)] []) by
    obtain ⟨s₂, o, k1, k2, k3, k4⟩ := own_main
    exact ⟨s₂, o, castTop (ef_rmT1 m a1) k1, k2, k3, k4⟩
  show own_End _ _ _ _ _ _ _ s₁ (mkF m 0 #[.val (.ref a1)] [])
  refine own_go (fun t k => XS.aloadN X0.here hx rfl (hb hby d6_0) rfl rfl k) ?_
  show own_End _ _ _ _ _ _ _ s₁ (mkF m 1 #[.val (.ref a1)] [(.ref a1)])
  obtain ⟨T40, X40, e40, st40⟩ := getF X0 hx hZ hown (host := "") (Or.inl (hw _ (List.mem_of_getElem? (i := 36) rfl))) Via.refl e0 F (g := (mkF m 1 #[.val (.ref a1)] [(.ref a1)])) rfl rfl (hb hby d6_1)
  refine own_go st40 ?_
  show own_End _ _ _ _ _ _ _ T40 (mkF m 4 #[.val (.ref a1)] [(.ref d)])
  obtain ⟨cl41, Ar41, q41, S41, M41, H41, G41⟩ := id V
  refine own_go (fun t k => X40.arraylength hx (by rw [e40]; exact Ar41.1) (State.isArrayOf_alike hZ.alike Ar41.2.1) (g := (mkF m 4 #[.val (.ref a1)] [(.ref d)])) rfl rfl (hb hby d6_4) t k) ?_
  rw [len_of S41 M41]
  show own_End _ _ _ _ _ _ _ T40 (mkF m 5 #[.val (.ref a1)] [(.int (1 : Int32))])
  refine own_go (fun t k => XS.ifYes X40.here hx rfl (pc0 := 5) (pc' := 14) rfl (hb hby d6_5) rfl ((if0 _ _).trans (feq (by decide : ¬ ((1 : Int32) = (0 : Int32)))).2) (by decide) (by decide) k) ?_
  show own_End _ _ _ _ _ _ _ T40 (mkF m 14 #[.val (.ref a1)] [])
  refine own_go (fun t k => XS.aloadN X40.here hx rfl (hb hby d6_14) rfl rfl k) ?_
  show own_End _ _ _ _ _ _ _ T40 (mkF m 15 #[.val (.ref a1)] [(.ref a1)])
  obtain ⟨T42, X42, e42, st42⟩ := getF X40 hx hZ hown (host := "") (Or.inl (hw _ (List.mem_of_getElem? (i := 36) rfl))) Via.refl e40 F (g := (mkF m 15 #[.val (.ref a1)] [(.ref a1)])) rfl rfl (hb hby d6_15)
  refine own_go st42 ?_
  show own_End _ _ _ _ _ _ _ T42 (mkF m 18 #[.val (.ref a1)] [(.ref d)])
  obtain ⟨T43, h43, X43, e43, E43, V43, A43, st43⟩ := cloneH X42 hx hZ hown (hw _ (List.mem_of_getElem? (i := 50) rfl)) (hw _ (List.mem_of_getElem? (i := 51) rfl)) (hw _ (List.mem_of_getElem? (i := 55) rfl)) (hw _ (List.mem_of_getElem? (i := 53) rfl)) (hw _ (List.mem_of_getElem? (i := 54) rfl)) (hw _ (List.mem_of_getElem? (i := 56) rfl)) e42 (Arv.arh V) Ed (g := (mkF m 18 #[.val (.ref a1)] [(.ref d)])) rfl (by rw [hml]; rfl) rfl (hb hby d6_18) (by decide) (W := 0) (cap := 1) (by show 2 * 0 + _ ≤ _; exact Nat.le_of_eq rfl) (by decide) (by decide) (by decide) (by decide)
  obtain ⟨b43, g43⟩ : ∃ z, z = h0.size := ⟨_, rfl⟩
  rw [← g43] at V43 A43 st43
  have ne_d_b43 : d ≠ b43 := Nat.ne_of_lt (Nat.lt_of_lt_of_le V.lt (Nat.le_of_eq g43.symm))
  have g_b43 : n0 ≤ b43 := Nat.le_trans Z0 (Nat.le_of_eq g43.symm)
  have sz_b43 : h0.size ≤ b43 := Nat.le_trans (Keep.refl h0 []).1 (Nat.le_of_eq g43.symm)
  have Vc43 : Arv Z h43 b43 k .byte (1 : Int32) [(.int u0)] (.int (0 : Int32)) := V43
  have K44 : Keep h0 h43 [] := (Keep.refl h0 []).ext E43
  refine own_go st43 ?_
  show own_End _ _ _ _ _ _ _ T43 (mkF m 21 #[.val (.ref a1)] [(.ref b43)])
  obtain ⟨T45, X45, e45, st45⟩ := castY X43 hx hZ hown (hw _ (List.mem_of_getElem? (i := 57) rfl)) e43 (Ins.self A43) (g := (mkF m 21 #[.val (.ref a1)] [(.ref b43)])) rfl rfl (hb hby d6_21)
  refine own_go st45 ?_
  show own_End _ _ _ _ _ _ _ T45 (mkF m 24 #[.val (.ref a1)] [(.ref b43)])
  exact own_retW X45 hx Bd.returns Bd.notSynchronized rfl (Or.inr (Or.inr (Or.inr (Or.inr ⟨rfl, rfl, rfl⟩)))) (hb hby d6_24) ⟨b43, rfl, N0, by rw [e45]; exact K44, g_b43, sz_b43, by rw [e45]; exact Vc43⟩ (by decide) (by decide)
def Q_rmT2 (Z : State) (a1 d : Addr) (k : ClassId) (u0 u1 : Int32) (h0 : Heap) (n0 : Nat) (v : Option Value) (h : Heap) (L : List Loc) : Prop := ∃ b : Addr, v = some (.ref b) ∧ Fr n0 L ∧ Keep h0 h [] ∧ n0 ≤ b ∧ h0.size ≤ b ∧ Arv Z h b k .byte (2 : Int32) [(.int u0), (.int u1)] (.int (0 : Int32))
theorem ef_rmT2 (m : MethodId) (x0 : Addr) : entryFrame m #[(.ref x0)] 1 = mkF m 0 #[.val (.ref x0)] [] := by first | (simp [entryFrame, mkF, argsToLocals, Value.category]; done) | rfl
set_option maxRecDepth 65536 in
set_option maxHeartbeats 40000000 in
theorem rmT2 (l : Launch) (Z : State) (a0 : Array Value) (hw : ∀ d ∈ tables_1, d.before a0 Z = true) (ws : List Jvm.Cond) (a1 d : Addr) (k : ClassId) (u0 u1 : Int32) (h0 : Heap) (n0 : Nat) (Z0 : n0 ≤ h0.size) (F : Fld Z h0 a1 "com/example/coxswain/coxswain/wire/Status" "details" "[B" (.ref d)) (V : Arv Z h0 d k .byte (2 : Int32) [(.int u0), (.int u1)] (.int (0 : Int32))) (Ed : Exa Z h0 d "[B") :
    MetFree l (⟨"com/example/coxswain/coxswain/wire/Status", "details", "()[B"⟩ : MethodName) (head1 (Jvm.Cond.code (⟨"com/example/coxswain/coxswain/wire/Status", "details", "()[B"⟩ : MethodName) prog_40_method_4_code 1 (some (.array .byte)) :: ws) ({ frames := 1, cells := 1, slots := 2, locals := 14 } : Room)) (fun a U => a = #[(.ref a1)] ∧ Z.Warmed39 U.vm ∧ U.heap = h0) (fun _ _ _ _ _ => True) (fun _ U o U' => ∃ v L, o = .returned v ∧ Q_rmT2 Z a1 d k u0 u1 h0 n0 v U'.heap L ∧ FrameEnd U o U' L ({ frames := 1, cells := 1, slots := 2, locals := 14 } : Room).cells ({ frames := 1, cells := 1, slots := 2, locals := 14 } : Room).slots) := by
  refine MetFree.of_bodySF (plainFor_of_name pn_com_example_coxswain_coxswain_wire_Status) hisR ?_
  intro p e s m args below meth c s₁ Bd hml0 hP hK
  obtain ⟨rfl, hZ, hh⟩ := hP
  have hx := Bd.exec
  have hby := Bd.bytes
  have hml : c.maxLocals = 1 := hml0
  have hown : s.vm.findClass "com/example/coxswain/coxswain/wire/Status" = some m.cls := findClass_of_methodNamed Bd.named
  have hnm := (name_of_methodNamed Bd.named Bd.method).1
  have X0 : Stand p l e ({ frames := 1, cells := 1, slots := 2, locals := 14 } : Room) s m #[(.ref a1)] below meth c s₁ [] 0 0 := Stand.of_body Bd
  have e0 : s₁.heap = h0 := by rw [← hh, Bd.state]; rfl
  have N0 := Fr.nil n0
  suffices own_main : own_End p e below s (Q_rmT2 Z a1 d k u0 u1 h0 n0) ({ frames := 1, cells := 1, slots := 2, locals := 14 } : Room).cells ({ frames := 1, cells := 1, slots := 2, locals := 14 } : Room).slots s₁ (mkF m 0 #[.val (.ref a1)] []) by
    obtain ⟨s₂, o, k1, k2, k3, k4⟩ := own_main
    exact ⟨s₂, o, castTop (ef_rmT2 m a1) k1, k2, k3, k4⟩
  show own_End _ _ _ _ _ _ _ s₁ (mkF m 0 #[.val (.ref a1)] [])
  refine own_go (fun t k => XS.aloadN X0.here hx rfl (hb hby d6_0) rfl rfl k) ?_
  show own_End _ _ _ _ _ _ _ s₁ (mkF m 1 #[.val (.ref a1)] [(.ref a1)])
  obtain ⟨T46, X46, e46, st46⟩ := getF X0 hx hZ hown (host := "") (Or.inl (hw _ (List.mem_of_getElem? (i := 36) rfl))) Via.refl e0 F (g := (mkF m 1 #[.val (.ref a1)] [(.ref a1)])) rfl rfl (hb hby d6_1)
  refine own_go st46 ?_
  show own_End _ _ _ _ _ _ _ T46 (mkF m 4 #[.val (.ref a1)] [(.ref d)])
  obtain ⟨cl47, Ar47, q47, S47, M47, H47, G47⟩ := id V
  refine own_go (fun t k => X46.arraylength hx (by rw [e46]; exact Ar47.1) (State.isArrayOf_alike hZ.alike Ar47.2.1) (g := (mkF m 4 #[.val (.ref a1)] [(.ref d)])) rfl rfl (hb hby d6_4) t k) ?_
  rw [len_of S47 M47]
  show own_End _ _ _ _ _ _ _ T46 (mkF m 5 #[.val (.ref a1)] [(.int (2 : Int32))])
  refine own_go (fun t k => XS.ifYes X46.here hx rfl (pc0 := 5) (pc' := 14) rfl (hb hby d6_5) rfl ((if0 _ _).trans (feq (by decide : ¬ ((2 : Int32) = (0 : Int32)))).2) (by decide) (by decide) k) ?_
  show own_End _ _ _ _ _ _ _ T46 (mkF m 14 #[.val (.ref a1)] [])
  refine own_go (fun t k => XS.aloadN X46.here hx rfl (hb hby d6_14) rfl rfl k) ?_
  show own_End _ _ _ _ _ _ _ T46 (mkF m 15 #[.val (.ref a1)] [(.ref a1)])
  obtain ⟨T48, X48, e48, st48⟩ := getF X46 hx hZ hown (host := "") (Or.inl (hw _ (List.mem_of_getElem? (i := 36) rfl))) Via.refl e46 F (g := (mkF m 15 #[.val (.ref a1)] [(.ref a1)])) rfl rfl (hb hby d6_15)
  refine own_go st48 ?_
  show own_End _ _ _ _ _ _ _ T48 (mkF m 18 #[.val (.ref a1)] [(.ref d)])
  obtain ⟨T49, h49, X49, e49, E49, V49, A49, st49⟩ := cloneH X48 hx hZ hown (hw _ (List.mem_of_getElem? (i := 50) rfl)) (hw _ (List.mem_of_getElem? (i := 51) rfl)) (hw _ (List.mem_of_getElem? (i := 55) rfl)) (hw _ (List.mem_of_getElem? (i := 53) rfl)) (hw _ (List.mem_of_getElem? (i := 54) rfl)) (hw _ (List.mem_of_getElem? (i := 56) rfl)) e48 (Arv.arh V) Ed (g := (mkF m 18 #[.val (.ref a1)] [(.ref d)])) rfl (by rw [hml]; rfl) rfl (hb hby d6_18) (by decide) (W := 0) (cap := 2) (by show 2 * 0 + _ ≤ _; exact Nat.le_of_eq rfl) (by decide) (by decide) (by decide) (by decide)
  obtain ⟨b49, g49⟩ : ∃ z, z = h0.size := ⟨_, rfl⟩
  rw [← g49] at V49 A49 st49
  have ne_d_b49 : d ≠ b49 := Nat.ne_of_lt (Nat.lt_of_lt_of_le V.lt (Nat.le_of_eq g49.symm))
  have g_b49 : n0 ≤ b49 := Nat.le_trans Z0 (Nat.le_of_eq g49.symm)
  have sz_b49 : h0.size ≤ b49 := Nat.le_trans (Keep.refl h0 []).1 (Nat.le_of_eq g49.symm)
  have Vc49 : Arv Z h49 b49 k .byte (2 : Int32) [(.int u0), (.int u1)] (.int (0 : Int32)) := V49
  have K50 : Keep h0 h49 [] := (Keep.refl h0 []).ext E49
  refine own_go st49 ?_
  show own_End _ _ _ _ _ _ _ T49 (mkF m 21 #[.val (.ref a1)] [(.ref b49)])
  obtain ⟨T51, X51, e51, st51⟩ := castY X49 hx hZ hown (hw _ (List.mem_of_getElem? (i := 57) rfl)) e49 (Ins.self A49) (g := (mkF m 21 #[.val (.ref a1)] [(.ref b49)])) rfl rfl (hb hby d6_21)
  refine own_go st51 ?_
  show own_End _ _ _ _ _ _ _ T51 (mkF m 24 #[.val (.ref a1)] [(.ref b49)])
  exact own_retW X51 hx Bd.returns Bd.notSynchronized rfl (Or.inr (Or.inr (Or.inr (Or.inr ⟨rfl, rfl, rfl⟩)))) (hb hby d6_24) ⟨b49, rfl, N0, by rw [e51]; exact K50, g_b49, sz_b49, by rw [e51]; exact Vc49⟩ (by decide) (by decide)
def Q_rmT3 (Z : State) (a1 d : Addr) (k : ClassId) (u0 u1 u2 : Int32) (h0 : Heap) (n0 : Nat) (v : Option Value) (h : Heap) (L : List Loc) : Prop := ∃ b : Addr, v = some (.ref b) ∧ Fr n0 L ∧ Keep h0 h [] ∧ n0 ≤ b ∧ h0.size ≤ b ∧ Arv Z h b k .byte (3 : Int32) [(.int u0), (.int u1), (.int u2)] (.int (0 : Int32))
theorem ef_rmT3 (m : MethodId) (x0 : Addr) : entryFrame m #[(.ref x0)] 1 = mkF m 0 #[.val (.ref x0)] [] := by first | (simp [entryFrame, mkF, argsToLocals, Value.category]; done) | rfl
set_option maxRecDepth 65536 in
set_option maxHeartbeats 40000000 in
theorem rmT3 (l : Launch) (Z : State) (a0 : Array Value) (hw : ∀ d ∈ tables_1, d.before a0 Z = true) (ws : List Jvm.Cond) (a1 d : Addr) (k : ClassId) (u0 u1 u2 : Int32) (h0 : Heap) (n0 : Nat) (Z0 : n0 ≤ h0.size) (F : Fld Z h0 a1 "com/example/coxswain/coxswain/wire/Status" "details" "[B" (.ref d)) (V : Arv Z h0 d k .byte (3 : Int32) [(.int u0), (.int u1), (.int u2)] (.int (0 : Int32))) (Ed : Exa Z h0 d "[B") :
    MetFree l (⟨"com/example/coxswain/coxswain/wire/Status", "details", "()[B"⟩ : MethodName) (head1 (Jvm.Cond.code (⟨"com/example/coxswain/coxswain/wire/Status", "details", "()[B"⟩ : MethodName) prog_40_method_4_code 1 (some (.array .byte)) :: ws) ({ frames := 1, cells := 1, slots := 3, locals := 14 } : Room)) (fun a U => a = #[(.ref a1)] ∧ Z.Warmed39 U.vm ∧ U.heap = h0) (fun _ _ _ _ _ => True) (fun _ U o U' => ∃ v L, o = .returned v ∧ Q_rmT3 Z a1 d k u0 u1 u2 h0 n0 v U'.heap L ∧ FrameEnd U o U' L ({ frames := 1, cells := 1, slots := 3, locals := 14 } : Room).cells ({ frames := 1, cells := 1, slots := 3, locals := 14 } : Room).slots) := by
  refine MetFree.of_bodySF (plainFor_of_name pn_com_example_coxswain_coxswain_wire_Status) hisR ?_
  intro p e s m args below meth c s₁ Bd hml0 hP hK
  obtain ⟨rfl, hZ, hh⟩ := hP
  have hx := Bd.exec
  have hby := Bd.bytes
  have hml : c.maxLocals = 1 := hml0
  have hown : s.vm.findClass "com/example/coxswain/coxswain/wire/Status" = some m.cls := findClass_of_methodNamed Bd.named
  have hnm := (name_of_methodNamed Bd.named Bd.method).1
  have X0 : Stand p l e ({ frames := 1, cells := 1, slots := 3, locals := 14 } : Room) s m #[(.ref a1)] below meth c s₁ [] 0 0 := Stand.of_body Bd
  have e0 : s₁.heap = h0 := by rw [← hh, Bd.state]; rfl
  have N0 := Fr.nil n0
  suffices own_main : own_End p e below s (Q_rmT3 Z a1 d k u0 u1 u2 h0 n0) ({ frames := 1, cells := 1, slots := 3, locals := 14 } : Room).cells ({ frames := 1, cells := 1, slots := 3, locals := 14 } : Room).slots s₁ (mkF m 0 #[.val (.ref a1)] []) by
    obtain ⟨s₂, o, k1, k2, k3, k4⟩ := own_main
    exact ⟨s₂, o, castTop (ef_rmT3 m a1) k1, k2, k3, k4⟩
  show own_End _ _ _ _ _ _ _ s₁ (mkF m 0 #[.val (.ref a1)] [])
  refine own_go (fun t k => XS.aloadN X0.here hx rfl (hb hby d6_0) rfl rfl k) ?_
  show own_End _ _ _ _ _ _ _ s₁ (mkF m 1 #[.val (.ref a1)] [(.ref a1)])
  obtain ⟨T52, X52, e52, st52⟩ := getF X0 hx hZ hown (host := "") (Or.inl (hw _ (List.mem_of_getElem? (i := 36) rfl))) Via.refl e0 F (g := (mkF m 1 #[.val (.ref a1)] [(.ref a1)])) rfl rfl (hb hby d6_1)
  refine own_go st52 ?_
  show own_End _ _ _ _ _ _ _ T52 (mkF m 4 #[.val (.ref a1)] [(.ref d)])
  obtain ⟨cl53, Ar53, q53, S53, M53, H53, G53⟩ := id V
  refine own_go (fun t k => X52.arraylength hx (by rw [e52]; exact Ar53.1) (State.isArrayOf_alike hZ.alike Ar53.2.1) (g := (mkF m 4 #[.val (.ref a1)] [(.ref d)])) rfl rfl (hb hby d6_4) t k) ?_
  rw [len_of S53 M53]
  show own_End _ _ _ _ _ _ _ T52 (mkF m 5 #[.val (.ref a1)] [(.int (3 : Int32))])
  refine own_go (fun t k => XS.ifYes X52.here hx rfl (pc0 := 5) (pc' := 14) rfl (hb hby d6_5) rfl ((if0 _ _).trans (feq (by decide : ¬ ((3 : Int32) = (0 : Int32)))).2) (by decide) (by decide) k) ?_
  show own_End _ _ _ _ _ _ _ T52 (mkF m 14 #[.val (.ref a1)] [])
  refine own_go (fun t k => XS.aloadN X52.here hx rfl (hb hby d6_14) rfl rfl k) ?_
  show own_End _ _ _ _ _ _ _ T52 (mkF m 15 #[.val (.ref a1)] [(.ref a1)])
  obtain ⟨T54, X54, e54, st54⟩ := getF X52 hx hZ hown (host := "") (Or.inl (hw _ (List.mem_of_getElem? (i := 36) rfl))) Via.refl e52 F (g := (mkF m 15 #[.val (.ref a1)] [(.ref a1)])) rfl rfl (hb hby d6_15)
  refine own_go st54 ?_
  show own_End _ _ _ _ _ _ _ T54 (mkF m 18 #[.val (.ref a1)] [(.ref d)])
  obtain ⟨T55, h55, X55, e55, E55, V55, A55, st55⟩ := cloneH X54 hx hZ hown (hw _ (List.mem_of_getElem? (i := 50) rfl)) (hw _ (List.mem_of_getElem? (i := 51) rfl)) (hw _ (List.mem_of_getElem? (i := 55) rfl)) (hw _ (List.mem_of_getElem? (i := 53) rfl)) (hw _ (List.mem_of_getElem? (i := 54) rfl)) (hw _ (List.mem_of_getElem? (i := 56) rfl)) e54 (Arv.arh V) Ed (g := (mkF m 18 #[.val (.ref a1)] [(.ref d)])) rfl (by rw [hml]; rfl) rfl (hb hby d6_18) (by decide) (W := 0) (cap := 3) (by show 2 * 0 + _ ≤ _; exact Nat.le_of_eq rfl) (by decide) (by decide) (by decide) (by decide)
  obtain ⟨b55, g55⟩ : ∃ z, z = h0.size := ⟨_, rfl⟩
  rw [← g55] at V55 A55 st55
  have ne_d_b55 : d ≠ b55 := Nat.ne_of_lt (Nat.lt_of_lt_of_le V.lt (Nat.le_of_eq g55.symm))
  have g_b55 : n0 ≤ b55 := Nat.le_trans Z0 (Nat.le_of_eq g55.symm)
  have sz_b55 : h0.size ≤ b55 := Nat.le_trans (Keep.refl h0 []).1 (Nat.le_of_eq g55.symm)
  have Vc55 : Arv Z h55 b55 k .byte (3 : Int32) [(.int u0), (.int u1), (.int u2)] (.int (0 : Int32)) := V55
  have K56 : Keep h0 h55 [] := (Keep.refl h0 []).ext E55
  refine own_go st55 ?_
  show own_End _ _ _ _ _ _ _ T55 (mkF m 21 #[.val (.ref a1)] [(.ref b55)])
  obtain ⟨T57, X57, e57, st57⟩ := castY X55 hx hZ hown (hw _ (List.mem_of_getElem? (i := 57) rfl)) e55 (Ins.self A55) (g := (mkF m 21 #[.val (.ref a1)] [(.ref b55)])) rfl rfl (hb hby d6_21)
  refine own_go st57 ?_
  show own_End _ _ _ _ _ _ _ T57 (mkF m 24 #[.val (.ref a1)] [(.ref b55)])
  exact own_retW X57 hx Bd.returns Bd.notSynchronized rfl (Or.inr (Or.inr (Or.inr (Or.inr ⟨rfl, rfl, rfl⟩)))) (hb hby d6_24) ⟨b55, rfl, N0, by rw [e57]; exact K56, g_b55, sz_b55, by rw [e57]; exact Vc55⟩ (by decide) (by decide)
def Q_rmIN (Z : State) (a1 a2 wN : Addr) (h0 : Heap) (n0 : Nat) (v : Option Value) (h : Heap) (L : List Loc) : Prop := v = none ∧ Fr n0 L ∧ Keep h0 h [a1] ∧ Exa Z h a1 "com/example/coxswain/coxswain/wire/Status" ∧ Fld Z h a1 "com/example/coxswain/coxswain/wire/Status" "details" "[B" (.ref wN)
theorem ef_rmIN (m : MethodId) (x0 : Addr) (x1 : Addr) : entryFrame m #[(.ref x0), (.ref x1), .null, .null] 4 = mkF m 0 #[.val (.ref x0), .val (.ref x1), .val .null, .val .null] [] := by first | (simp [entryFrame, mkF, argsToLocals, Value.category]; done) | rfl
theorem d1_0 : decode prog_40_method_1_code 0 = .ok (.aload_n 0, 1) := by decide +kernel
theorem d1_1 : decode prog_40_method_1_code 1 = .ok (.invokespecial 1, 3) := by decide +kernel
theorem pd___V : parseMethodDescriptor "()V" = some ⟨[], none⟩ := by decide +kernel
theorem d1_4 : decode prog_40_method_1_code 4 = .ok (.aload_n 1, 1) := by decide +kernel
theorem d1_5 : decode prog_40_method_1_code 5 = .ok (.ldc 7, 2) := by decide +kernel
theorem d1_7 : decode prog_40_method_1_code 7 = .ok (.invokestatic 9, 3) := by decide +kernel
theorem pd__Ljava_lang_Object_Ljava_lang_String__Ljava_lang_Object_ : parseMethodDescriptor "(Ljava/lang/Object;Ljava/lang/String;)Ljava/lang/Object;" = some ⟨[(.object "java/lang/Object"), (.object "java/lang/String")], some (.object "java/lang/Object")⟩ := by decide +kernel
theorem d1_10 : decode prog_40_method_1_code 10 = .ok (.pop, 1) := by decide +kernel
theorem d1_11 : decode prog_40_method_1_code 11 = .ok (.aload_n 2, 1) := by decide +kernel
theorem d1_12 : decode prog_40_method_1_code 12 = .ok (.ifnonnull 8, 3) := by decide +kernel
theorem d1_15 : decode prog_40_method_1_code 15 = .ok (.ldc 15, 2) := by decide +kernel
theorem d1_17 : decode prog_40_method_1_code 17 = .ok (.goto 4, 3) := by decide +kernel
theorem d1_21 : decode prog_40_method_1_code 21 = .ok (.astore_n 2, 1) := by decide +kernel
theorem d1_22 : decode prog_40_method_1_code 22 = .ok (.aload_n 3, 1) := by decide +kernel
theorem d1_23 : decode prog_40_method_1_code 23 = .ok (.ifnull 8, 3) := by decide +kernel
theorem d1_31 : decode prog_40_method_1_code 31 = .ok (.getstatic 17, 3) := by decide +kernel
theorem d1_34 : decode prog_40_method_1_code 34 = .ok (.goto 10, 3) := by decide +kernel
theorem d1_44 : decode prog_40_method_1_code 44 = .ok (.astore_n 3, 1) := by decide +kernel
theorem d1_45 : decode prog_40_method_1_code 45 = .ok (.aload_n 0, 1) := by decide +kernel
theorem d1_46 : decode prog_40_method_1_code 46 = .ok (.aload_n 1, 1) := by decide +kernel
theorem d1_47 : decode prog_40_method_1_code 47 = .ok (.putfield 28, 3) := by decide +kernel
theorem d1_50 : decode prog_40_method_1_code 50 = .ok (.aload_n 0, 1) := by decide +kernel
theorem d1_51 : decode prog_40_method_1_code 51 = .ok (.aload_n 2, 1) := by decide +kernel
theorem d1_52 : decode prog_40_method_1_code 52 = .ok (.putfield 31, 3) := by decide +kernel
theorem d1_55 : decode prog_40_method_1_code 55 = .ok (.aload_n 0, 1) := by decide +kernel
theorem d1_56 : decode prog_40_method_1_code 56 = .ok (.aload_n 3, 1) := by decide +kernel
theorem d1_57 : decode prog_40_method_1_code 57 = .ok (.putfield 35, 3) := by decide +kernel
theorem d1_60 : decode prog_40_method_1_code 60 = .ok (.return_, 1) := by decide +kernel
set_option maxRecDepth 65536 in
set_option maxHeartbeats 40000000 in
theorem rmIN (l : Launch) (Z : State) (a0 : Array Value) (hw : ∀ d ∈ tables_1, d.before a0 Z = true) (ws : List Jvm.Cond) (a1 a2 wN : Addr) (h0 : Heap) (n0 : Nat) (Z0 : n0 ≤ h0.size) (E1 : Exa Z h0 a1 "com/example/coxswain/coxswain/wire/Status") (g1 : n0 ≤ a1) (F0 : Fld Z h0 a1 "com/example/coxswain/coxswain/wire/Status" "code" "Lcom/example/coxswain/coxswain/wire/StatusCode;" .null) (F1 : Fld Z h0 a1 "com/example/coxswain/coxswain/wire/Status" "description" "Ljava/lang/String;" .null) (F2 : Fld Z h0 a1 "com/example/coxswain/coxswain/wire/Status" "details" "[B" .null) (SN : Sta Z h0 "com/example/coxswain/coxswain/wire/Status" "NO_DETAILS" "[B" (.ref wN)) :
    MetFree l (⟨"com/example/coxswain/coxswain/wire/Status", "<init>", "(Lcom/example/coxswain/coxswain/wire/StatusCode;Ljava/lang/String;[B)V"⟩ : MethodName) (head1 (Jvm.Cond.code (⟨"com/example/coxswain/coxswain/wire/Status", "<init>", "(Lcom/example/coxswain/coxswain/wire/StatusCode;Ljava/lang/String;[B)V"⟩ : MethodName) prog_40_method_1_code 4 none :: ws) ({ frames := 2, cells := 5, slots := 24, locals := 24 } : Room)) (fun a U => a = #[(.ref a1), (.ref a2), .null, .null] ∧ Z.Warmed39 U.vm ∧ U.heap = h0) (fun _ _ _ _ _ => True) (fun _ U o U' => ∃ v L, o = .returned v ∧ Q_rmIN Z a1 a2 wN h0 n0 v U'.heap L ∧ ReturnedEndW U o U' L ({ frames := 2, cells := 5, slots := 24, locals := 24 } : Room).cells ({ frames := 2, cells := 5, slots := 24, locals := 24 } : Room).slots) := by
  refine MetFree.of_bodySF (plainFor_of_name pn_com_example_coxswain_coxswain_wire_Status) hisR ?_
  intro p e s m args below meth c s₁ Bd hml0 hP hK
  obtain ⟨rfl, hZ, hh⟩ := hP
  have hx := Bd.exec
  have hby := Bd.bytes
  have hml : c.maxLocals = 4 := hml0
  have hown : s.vm.findClass "com/example/coxswain/coxswain/wire/Status" = some m.cls := findClass_of_methodNamed Bd.named
  have hnm := (name_of_methodNamed Bd.named Bd.method).1
  have X0 : Stand p l e ({ frames := 2, cells := 5, slots := 24, locals := 24 } : Room) (s.setVm s.vm) m #[(.ref a1), (.ref a2), .null, .null] below meth c s₁ [] 0 0 := Stand.of_body Bd
  have e0 : s₁.heap = h0 := by rw [← hh, Bd.state]; rfl
  have N0 := Fr.nil n0
  suffices own_main : own_EndW p e below s (Q_rmIN Z a1 a2 wN h0 n0) ({ frames := 2, cells := 5, slots := 24, locals := 24 } : Room).cells ({ frames := 2, cells := 5, slots := 24, locals := 24 } : Room).slots s₁ (mkF m 0 #[.val (.ref a1), .val (.ref a2), .val .null, .val .null] []) by
    obtain ⟨s₂, o, k1, k2, k3, k4⟩ := own_main
    exact ⟨s₂, o, castTop (ef_rmIN m a1 a2) k1, k2, k3, k4⟩
  have hS0 : s.Since s.vm h0.size := (State.WarmedH.refl s).since _
  have hk0 : h0.size ≤ h0.size := Nat.le_refl _
  show own_EndW _ _ _ _ _ _ _ s₁ (mkF m 0 #[.val (.ref a1), .val (.ref a2), .val .null, .val .null] [])
  refine own_goW (fun t k => XS.aloadN X0.here hx rfl (hb hby d1_0) rfl rfl k) ?_
  show own_EndW _ _ _ _ _ _ _ s₁ (mkF m 1 #[.val (.ref a1), .val (.ref a2), .val .null, .val .null] [(.ref a1)])
  obtain ⟨v58, T58, L58, X58, hQ58, st58⟩ := own_callN (y := (⟨"java/lang/Record", "<init>", "()V"⟩ : MethodName)) X0 hx hZ hown (hw _ (List.mem_of_getElem? (i := 10) rfl)) (hw _ (List.mem_of_getElem? (i := 11) rfl)) (hw _ (List.mem_of_getElem? (i := 14) rfl)) (by decide) (hw _ (List.mem_of_getElem? (i := 13) rfl)) (rmR l Z a0 hw [] a1 h0 n0 Z0) e0 (W := 0) (by decide) (by decide) (g := (mkF m 1 #[.val (.ref a1), .val (.ref a2), .val .null, .val .null] [(.ref a1)])) rfl (by rw [hml]; rfl) (argsL := []) (rest := []) (a := a1) rfl rfl (lenOf pd___V rfl) rfl (by show 2 * 0 + _ ≤ _; exact Nat.le_of_eq rfl) (hb hby d1_1) (by decide) (by decide)
  obtain ⟨rfl, N58q, e58⟩ := hQ58
  have N58 := Fr.app N0 N58q
  refine own_goW st58 ?_
  show own_EndW _ _ _ _ _ _ _ T58 (mkF m 4 #[.val (.ref a1), .val (.ref a2), .val .null, .val .null] [])
  refine own_goW (fun t k => XS.aloadN X58.here hx rfl (hb hby d1_4) rfl rfl k) ?_
  show own_EndW _ _ _ _ _ _ _ T58 (mkF m 5 #[.val (.ref a1), .val (.ref a2), .val .null, .val .null] [(.ref a2)])
  obtain ⟨sa59, T59, h59, kk59, X59, e59, E59, hS59, hk59, hZ, hown, st59⟩ := ldcS X58 hx hZ hown (hw _ (List.mem_of_getElem? (i := 18) rfl)) (own_wS hw) e58 hS0 hk0 (g := (mkF m 5 #[.val (.ref a1), .val (.ref a2), .val .null, .val .null] [(.ref a2)])) rfl (hb hby d1_5) (n := 16) (by decide) (by decide) (by decide) (by decide)
  have K60 : Keep h0 h59 [a1] := (Keep.refl h0 [a1]).ext E59
  refine own_goW st59 ?_
  show own_EndW _ _ _ _ _ _ _ T59 (mkF m 7 #[.val (.ref a1), .val (.ref a2), .val .null, .val .null] [(.ref sa59), (.ref a2)])
  obtain ⟨v61, T61, L61, X61, hQ61, st61⟩ := own_callS (y := (⟨"java/util/Objects", "requireNonNull", "(Ljava/lang/Object;Ljava/lang/String;)Ljava/lang/Object;"⟩ : MethodName)) X59 hx hZ hown (hw _ (List.mem_of_getElem? (i := 25) rfl)) (hw _ (List.mem_of_getElem? (i := 26) rfl)) (hw _ (List.mem_of_getElem? (i := 28) rfl)) (by decide) (hw _ (List.mem_of_getElem? (i := 27) rfl)) (rmQ l Z a0 hw [] a2 sa59 h59 n0 (Nat.le_trans Z0 E59.1)) e59 (W := 0) (by decide) (by decide) (g := (mkF m 7 #[.val (.ref a1), .val (.ref a2), .val .null, .val .null] [(.ref sa59), (.ref a2)])) rfl (by rw [hml]; rfl) (argsL := [(.ref a2), (.ref sa59)]) (rest := []) rfl (lenOf pd__Ljava_lang_Object_Ljava_lang_String__Ljava_lang_Object_ rfl) rfl (by show 2 * 0 + _ ≤ _; exact Nat.le_of_eq rfl) (hb hby d1_7) (by decide) (by decide)
  obtain ⟨rfl, N61q, e61⟩ := hQ61
  have N61 := Fr.app N58 N61q
  refine own_goW st61 ?_
  show own_EndW _ _ _ _ _ _ _ T61 (mkF m 10 #[.val (.ref a1), .val (.ref a2), .val .null, .val .null] [(.ref a2)])
  refine own_goW (fun t k => XS.pop X61.here hx rfl (hb hby d1_10) rfl rfl k) ?_
  show own_EndW _ _ _ _ _ _ _ T61 (mkF m 11 #[.val (.ref a1), .val (.ref a2), .val .null, .val .null] [])
  refine own_goW (fun t k => XS.aloadN X61.here hx rfl (hb hby d1_11) rfl rfl k) ?_
  show own_EndW _ _ _ _ _ _ _ T61 (mkF m 12 #[.val (.ref a1), .val (.ref a2), .val .null, .val .null] [.null])
  refine own_goW (fun t k => XS.ifnonnullNo X61.here hx rfl (hb hby d1_12) rfl k) ?_
  show own_EndW _ _ _ _ _ _ _ T61 (mkF m 15 #[.val (.ref a1), .val (.ref a2), .val .null, .val .null] [])
  obtain ⟨sa62, T62, h62, kk62, X62, e62, E62, hS62, hk62, hZ, hown, st62⟩ := ldcS X61 hx hZ hown (hw _ (List.mem_of_getElem? (i := 29) rfl)) (own_wS hw) e61 hS59 hk59 (g := (mkF m 15 #[.val (.ref a1), .val (.ref a2), .val .null, .val .null] [])) rfl (hb hby d1_15) (n := 0) (by decide) (by decide) (by decide) (by decide)
  have K63 : Keep h0 h62 [a1] := K60.ext E62
  refine own_goW st62 ?_
  show own_EndW _ _ _ _ _ _ _ T62 (mkF m 17 #[.val (.ref a1), .val (.ref a2), .val .null, .val .null] [(.ref sa62)])
  refine own_goW (fun t k => XS.goto X62.here hx rfl (pc0 := 17) (pc' := 21) rfl (hb hby d1_17) (by decide) (by decide) k) ?_
  show own_EndW _ _ _ _ _ _ _ T62 (mkF m 21 #[.val (.ref a1), .val (.ref a2), .val .null, .val .null] [(.ref sa62)])
  refine own_goW (fun t k => XS.astoreN X62.here hx rfl (hb hby d1_21) rfl rfl (l' := #[.val (.ref a1), .val (.ref a2), .val (.ref sa62), .val .null]) rfl k) ?_
  show own_EndW _ _ _ _ _ _ _ T62 (mkF m 22 #[.val (.ref a1), .val (.ref a2), .val (.ref sa62), .val .null] [])
  refine own_goW (fun t k => XS.aloadN X62.here hx rfl (hb hby d1_22) rfl rfl k) ?_
  show own_EndW _ _ _ _ _ _ _ T62 (mkF m 23 #[.val (.ref a1), .val (.ref a2), .val (.ref sa62), .val .null] [.null])
  refine own_goW (fun t k => XS.ifnullYes X62.here hx rfl (pc0 := 23) (pc' := 31) rfl (hb hby d1_23) rfl (by decide) (by decide) k) ?_
  show own_EndW _ _ _ _ _ _ _ T62 (mkF m 31 #[.val (.ref a1), .val (.ref a2), .val (.ref sa62), .val .null] [])
  obtain ⟨T64, X64, e64, st64⟩ := getS2 X62 hx hZ hown (host := "") (Or.inl (hw _ (List.mem_of_getElem? (i := 30) rfl))) Via.refl e62 ((SN.ext E59).ext E62) (g := (mkF m 31 #[.val (.ref a1), .val (.ref a2), .val (.ref sa62), .val .null] [])) rfl (hb hby d1_31)
  refine own_goW st64 ?_
  show own_EndW _ _ _ _ _ _ _ T64 (mkF m 34 #[.val (.ref a1), .val (.ref a2), .val (.ref sa62), .val .null] [(.ref wN)])
  refine own_goW (fun t k => XS.goto X64.here hx rfl (pc0 := 34) (pc' := 44) rfl (hb hby d1_34) (by decide) (by decide) k) ?_
  show own_EndW _ _ _ _ _ _ _ T64 (mkF m 44 #[.val (.ref a1), .val (.ref a2), .val (.ref sa62), .val .null] [(.ref wN)])
  refine own_goW (fun t k => XS.astoreN X64.here hx rfl (hb hby d1_44) rfl rfl (l' := #[.val (.ref a1), .val (.ref a2), .val (.ref sa62), .val (.ref wN)]) rfl k) ?_
  show own_EndW _ _ _ _ _ _ _ T64 (mkF m 45 #[.val (.ref a1), .val (.ref a2), .val (.ref sa62), .val (.ref wN)] [])
  refine own_goW (fun t k => XS.aloadN X64.here hx rfl (hb hby d1_45) rfl rfl k) ?_
  show own_EndW _ _ _ _ _ _ _ T64 (mkF m 46 #[.val (.ref a1), .val (.ref a2), .val (.ref sa62), .val (.ref wN)] [(.ref a1)])
  refine own_goW (fun t k => XS.aloadN X64.here hx rfl (hb hby d1_46) rfl rfl k) ?_
  show own_EndW _ _ _ _ _ _ _ T64 (mkF m 47 #[.val (.ref a1), .val (.ref a2), .val (.ref sa62), .val (.ref wN)] [(.ref a2), (.ref a1)])
  obtain ⟨T65, h65, X65, e65, W65, st65⟩ := putF X64 hx hZ hown (host := "") (Or.inl (hw _ (List.mem_of_getElem? (i := 32) rfl))) Via.refl e64 ((F0.ext E59).ext E62) ((E1.ext E59).ext E62) (Or.inr ⟨(hw _ (List.mem_of_getElem? (i := 33) rfl)), rfl, hnm⟩) (hw _ (List.mem_of_getElem? (i := 2) rfl)) (ty := (.object "com/example/coxswain/coxswain/wire/StatusCode")) (by decide) rfl rfl (g := (mkF m 47 #[.val (.ref a1), .val (.ref a2), .val (.ref sa62), .val (.ref wN)] [(.ref a2), (.ref a1)])) rfl rfl (hb hby d1_47)
  have Fw65 := ((F0.ext E59).ext E62).same W65
  have K66 : Keep h0 h65 [a1] := K63.wr W65 (Or.inl (by simp))
  have N65 := Fr.snoc X65 N61 g1
  refine own_goW st65 ?_
  show own_EndW _ _ _ _ _ _ _ T65 (mkF m 50 #[.val (.ref a1), .val (.ref a2), .val (.ref sa62), .val (.ref wN)] [])
  refine own_goW (fun t k => XS.aloadN X65.here hx rfl (hb hby d1_50) rfl rfl k) ?_
  show own_EndW _ _ _ _ _ _ _ T65 (mkF m 51 #[.val (.ref a1), .val (.ref a2), .val (.ref sa62), .val (.ref wN)] [(.ref a1)])
  refine own_goW (fun t k => XS.aloadN X65.here hx rfl (hb hby d1_51) rfl rfl k) ?_
  show own_EndW _ _ _ _ _ _ _ T65 (mkF m 52 #[.val (.ref a1), .val (.ref a2), .val (.ref sa62), .val (.ref wN)] [(.ref sa62), (.ref a1)])
  obtain ⟨T67, h67, X67, e67, W67, st67⟩ := putF X65 hx hZ hown (host := "") (Or.inl (hw _ (List.mem_of_getElem? (i := 34) rfl))) Via.refl e65 (((F1.ext E59).ext E62).other W65 (Or.inr (slot_ne (Or.inr (hw _ (List.mem_of_getElem? (i := 35) rfl))) (Or.inr (hw _ (List.mem_of_getElem? (i := 33) rfl))) (by decide) (t := (.object "java/lang/String")) (t' := (.object "com/example/coxswain/coxswain/wire/StatusCode")) (by decide) (by decide)))) (((E1.ext E59).ext E62).wr W65) (Or.inr ⟨(hw _ (List.mem_of_getElem? (i := 35) rfl)), rfl, hnm⟩) (hw _ (List.mem_of_getElem? (i := 2) rfl)) (ty := (.object "java/lang/String")) (by decide) rfl rfl (g := (mkF m 52 #[.val (.ref a1), .val (.ref a2), .val (.ref sa62), .val (.ref wN)] [(.ref sa62), (.ref a1)])) rfl rfl (hb hby d1_52)
  have Fw67 := (((F1.ext E59).ext E62).other W65 (Or.inr (slot_ne (Or.inr (hw _ (List.mem_of_getElem? (i := 35) rfl))) (Or.inr (hw _ (List.mem_of_getElem? (i := 33) rfl))) (by decide) (t := (.object "java/lang/String")) (t' := (.object "com/example/coxswain/coxswain/wire/StatusCode")) (by decide) (by decide)))).same W67
  have K68 : Keep h0 h67 [a1] := K66.wr W67 (Or.inl (by simp))
  have N67 := Fr.snoc X67 N65 g1
  refine own_goW st67 ?_
  show own_EndW _ _ _ _ _ _ _ T67 (mkF m 55 #[.val (.ref a1), .val (.ref a2), .val (.ref sa62), .val (.ref wN)] [])
  refine own_goW (fun t k => XS.aloadN X67.here hx rfl (hb hby d1_55) rfl rfl k) ?_
  show own_EndW _ _ _ _ _ _ _ T67 (mkF m 56 #[.val (.ref a1), .val (.ref a2), .val (.ref sa62), .val (.ref wN)] [(.ref a1)])
  refine own_goW (fun t k => XS.aloadN X67.here hx rfl (hb hby d1_56) rfl rfl k) ?_
  show own_EndW _ _ _ _ _ _ _ T67 (mkF m 57 #[.val (.ref a1), .val (.ref a2), .val (.ref sa62), .val (.ref wN)] [(.ref wN), (.ref a1)])
  obtain ⟨T69, h69, X69, e69, W69, st69⟩ := putF X67 hx hZ hown (host := "") (Or.inl (hw _ (List.mem_of_getElem? (i := 36) rfl))) Via.refl e67 ((((F2.ext E59).ext E62).other W65 (Or.inr (slot_ne (Or.inr (hw _ (List.mem_of_getElem? (i := 37) rfl))) (Or.inr (hw _ (List.mem_of_getElem? (i := 33) rfl))) (by decide) (t := (.array .byte)) (t' := (.object "com/example/coxswain/coxswain/wire/StatusCode")) (by decide) (by decide)))).other W67 (Or.inr (slot_ne (Or.inr (hw _ (List.mem_of_getElem? (i := 37) rfl))) (Or.inr (hw _ (List.mem_of_getElem? (i := 35) rfl))) (by decide) (t := (.array .byte)) (t' := (.object "java/lang/String")) (by decide) (by decide)))) ((((E1.ext E59).ext E62).wr W65).wr W67) (Or.inr ⟨(hw _ (List.mem_of_getElem? (i := 37) rfl)), rfl, hnm⟩) (hw _ (List.mem_of_getElem? (i := 2) rfl)) (ty := (.array .byte)) (by decide) rfl rfl (g := (mkF m 57 #[.val (.ref a1), .val (.ref a2), .val (.ref sa62), .val (.ref wN)] [(.ref wN), (.ref a1)])) rfl rfl (hb hby d1_57)
  have Fw69 := ((((F2.ext E59).ext E62).other W65 (Or.inr (slot_ne (Or.inr (hw _ (List.mem_of_getElem? (i := 37) rfl))) (Or.inr (hw _ (List.mem_of_getElem? (i := 33) rfl))) (by decide) (t := (.array .byte)) (t' := (.object "com/example/coxswain/coxswain/wire/StatusCode")) (by decide) (by decide)))).other W67 (Or.inr (slot_ne (Or.inr (hw _ (List.mem_of_getElem? (i := 37) rfl))) (Or.inr (hw _ (List.mem_of_getElem? (i := 35) rfl))) (by decide) (t := (.array .byte)) (t' := (.object "java/lang/String")) (by decide) (by decide)))).same W69
  have K70 : Keep h0 h69 [a1] := K68.wr W69 (Or.inl (by simp))
  have N69 := Fr.snoc X69 N67 g1
  refine own_goW st69 ?_
  show own_EndW _ _ _ _ _ _ _ T69 (mkF m 60 #[.val (.ref a1), .val (.ref a2), .val (.ref sa62), .val (.ref wN)] [])
  exact own_retVW X69 hS62 (by rw [e69]; exact (Nat.le_trans (Nat.le_trans (Nat.le_trans hk62 (Keep.of_wr W65).1) (Keep.of_wr W67).1) (Keep.of_wr W69).1)) hx Bd.returns Bd.notSynchronized (hb hby d1_60) (by rw [e69]; exact ⟨rfl, N69, K70, (((((E1.ext E59).ext E62).wr W65).wr W67).wr W69), Fw69⟩) (by decide) (by decide)
def Q_rmI0 (Z : State) (a1 a2 a4 wN : Addr) (k : ClassId) (h0 : Heap) (n0 : Nat) (v : Option Value) (h : Heap) (L : List Loc) : Prop := v = none ∧ Fr n0 L ∧ Keep h0 h [a1] ∧ Exa Z h a1 "com/example/coxswain/coxswain/wire/Status" ∧ Fld Z h a1 "com/example/coxswain/coxswain/wire/Status" "details" "[B" (.ref wN)
theorem ef_rmI0 (m : MethodId) (x0 : Addr) (x1 : Addr) (x3 : Addr) : entryFrame m #[(.ref x0), (.ref x1), .null, (.ref x3)] 4 = mkF m 0 #[.val (.ref x0), .val (.ref x1), .val .null, .val (.ref x3)] [] := by first | (simp [entryFrame, mkF, argsToLocals, Value.category]; done) | rfl
theorem d1_26 : decode prog_40_method_1_code 26 = .ok (.aload_n 3, 1) := by decide +kernel
theorem d1_27 : decode prog_40_method_1_code 27 = .ok (.arraylength, 1) := by decide +kernel
theorem d1_28 : decode prog_40_method_1_code 28 = .ok (.ifCond .ne 9, 3) := by decide +kernel
set_option maxRecDepth 65536 in
set_option maxHeartbeats 40000000 in
theorem rmI0 (l : Launch) (Z : State) (a0 : Array Value) (hw : ∀ d ∈ tables_1, d.before a0 Z = true) (ws : List Jvm.Cond) (a1 a2 a4 wN : Addr) (k : ClassId) (h0 : Heap) (n0 : Nat) (Z0 : n0 ≤ h0.size) (E1 : Exa Z h0 a1 "com/example/coxswain/coxswain/wire/Status") (g1 : n0 ≤ a1) (F0 : Fld Z h0 a1 "com/example/coxswain/coxswain/wire/Status" "code" "Lcom/example/coxswain/coxswain/wire/StatusCode;" .null) (F1 : Fld Z h0 a1 "com/example/coxswain/coxswain/wire/Status" "description" "Ljava/lang/String;" .null) (F2 : Fld Z h0 a1 "com/example/coxswain/coxswain/wire/Status" "details" "[B" .null) (SN : Sta Z h0 "com/example/coxswain/coxswain/wire/Status" "NO_DETAILS" "[B" (.ref wN)) (V4 : Arv Z h0 a4 k .byte (0 : Int32) [] (.int (0 : Int32))) (n14 : a1 ≠ a4) :
    MetFree l (⟨"com/example/coxswain/coxswain/wire/Status", "<init>", "(Lcom/example/coxswain/coxswain/wire/StatusCode;Ljava/lang/String;[B)V"⟩ : MethodName) (head1 (Jvm.Cond.code (⟨"com/example/coxswain/coxswain/wire/Status", "<init>", "(Lcom/example/coxswain/coxswain/wire/StatusCode;Ljava/lang/String;[B)V"⟩ : MethodName) prog_40_method_1_code 4 none :: ws) ({ frames := 2, cells := 5, slots := 24, locals := 24 } : Room)) (fun a U => a = #[(.ref a1), (.ref a2), .null, (.ref a4)] ∧ Z.Warmed39 U.vm ∧ U.heap = h0) (fun _ _ _ _ _ => True) (fun _ U o U' => ∃ v L, o = .returned v ∧ Q_rmI0 Z a1 a2 a4 wN k h0 n0 v U'.heap L ∧ ReturnedEndW U o U' L ({ frames := 2, cells := 5, slots := 24, locals := 24 } : Room).cells ({ frames := 2, cells := 5, slots := 24, locals := 24 } : Room).slots) := by
  refine MetFree.of_bodySF (plainFor_of_name pn_com_example_coxswain_coxswain_wire_Status) hisR ?_
  intro p e s m args below meth c s₁ Bd hml0 hP hK
  obtain ⟨rfl, hZ, hh⟩ := hP
  have hx := Bd.exec
  have hby := Bd.bytes
  have hml : c.maxLocals = 4 := hml0
  have hown : s.vm.findClass "com/example/coxswain/coxswain/wire/Status" = some m.cls := findClass_of_methodNamed Bd.named
  have hnm := (name_of_methodNamed Bd.named Bd.method).1
  have X0 : Stand p l e ({ frames := 2, cells := 5, slots := 24, locals := 24 } : Room) (s.setVm s.vm) m #[(.ref a1), (.ref a2), .null, (.ref a4)] below meth c s₁ [] 0 0 := Stand.of_body Bd
  have e0 : s₁.heap = h0 := by rw [← hh, Bd.state]; rfl
  have N0 := Fr.nil n0
  suffices own_main : own_EndW p e below s (Q_rmI0 Z a1 a2 a4 wN k h0 n0) ({ frames := 2, cells := 5, slots := 24, locals := 24 } : Room).cells ({ frames := 2, cells := 5, slots := 24, locals := 24 } : Room).slots s₁ (mkF m 0 #[.val (.ref a1), .val (.ref a2), .val .null, .val (.ref a4)] []) by
    obtain ⟨s₂, o, k1, k2, k3, k4⟩ := own_main
    exact ⟨s₂, o, castTop (ef_rmI0 m a1 a2 a4) k1, k2, k3, k4⟩
  have hS0 : s.Since s.vm h0.size := (State.WarmedH.refl s).since _
  have hk0 : h0.size ≤ h0.size := Nat.le_refl _
  show own_EndW _ _ _ _ _ _ _ s₁ (mkF m 0 #[.val (.ref a1), .val (.ref a2), .val .null, .val (.ref a4)] [])
  refine own_goW (fun t k => XS.aloadN X0.here hx rfl (hb hby d1_0) rfl rfl k) ?_
  show own_EndW _ _ _ _ _ _ _ s₁ (mkF m 1 #[.val (.ref a1), .val (.ref a2), .val .null, .val (.ref a4)] [(.ref a1)])
  obtain ⟨v71, T71, L71, X71, hQ71, st71⟩ := own_callN (y := (⟨"java/lang/Record", "<init>", "()V"⟩ : MethodName)) X0 hx hZ hown (hw _ (List.mem_of_getElem? (i := 10) rfl)) (hw _ (List.mem_of_getElem? (i := 11) rfl)) (hw _ (List.mem_of_getElem? (i := 14) rfl)) (by decide) (hw _ (List.mem_of_getElem? (i := 13) rfl)) (rmR l Z a0 hw [] a1 h0 n0 Z0) e0 (W := 0) (by decide) (by decide) (g := (mkF m 1 #[.val (.ref a1), .val (.ref a2), .val .null, .val (.ref a4)] [(.ref a1)])) rfl (by rw [hml]; rfl) (argsL := []) (rest := []) (a := a1) rfl rfl (lenOf pd___V rfl) rfl (by show 2 * 0 + _ ≤ _; exact Nat.le_of_eq rfl) (hb hby d1_1) (by decide) (by decide)
  obtain ⟨rfl, N71q, e71⟩ := hQ71
  have N71 := Fr.app N0 N71q
  refine own_goW st71 ?_
  show own_EndW _ _ _ _ _ _ _ T71 (mkF m 4 #[.val (.ref a1), .val (.ref a2), .val .null, .val (.ref a4)] [])
  refine own_goW (fun t k => XS.aloadN X71.here hx rfl (hb hby d1_4) rfl rfl k) ?_
  show own_EndW _ _ _ _ _ _ _ T71 (mkF m 5 #[.val (.ref a1), .val (.ref a2), .val .null, .val (.ref a4)] [(.ref a2)])
  obtain ⟨sa72, T72, h72, kk72, X72, e72, E72, hS72, hk72, hZ, hown, st72⟩ := ldcS X71 hx hZ hown (hw _ (List.mem_of_getElem? (i := 18) rfl)) (own_wS hw) e71 hS0 hk0 (g := (mkF m 5 #[.val (.ref a1), .val (.ref a2), .val .null, .val (.ref a4)] [(.ref a2)])) rfl (hb hby d1_5) (n := 16) (by decide) (by decide) (by decide) (by decide)
  have K73 : Keep h0 h72 [a1] := (Keep.refl h0 [a1]).ext E72
  refine own_goW st72 ?_
  show own_EndW _ _ _ _ _ _ _ T72 (mkF m 7 #[.val (.ref a1), .val (.ref a2), .val .null, .val (.ref a4)] [(.ref sa72), (.ref a2)])
  obtain ⟨v74, T74, L74, X74, hQ74, st74⟩ := own_callS (y := (⟨"java/util/Objects", "requireNonNull", "(Ljava/lang/Object;Ljava/lang/String;)Ljava/lang/Object;"⟩ : MethodName)) X72 hx hZ hown (hw _ (List.mem_of_getElem? (i := 25) rfl)) (hw _ (List.mem_of_getElem? (i := 26) rfl)) (hw _ (List.mem_of_getElem? (i := 28) rfl)) (by decide) (hw _ (List.mem_of_getElem? (i := 27) rfl)) (rmQ l Z a0 hw [] a2 sa72 h72 n0 (Nat.le_trans Z0 E72.1)) e72 (W := 0) (by decide) (by decide) (g := (mkF m 7 #[.val (.ref a1), .val (.ref a2), .val .null, .val (.ref a4)] [(.ref sa72), (.ref a2)])) rfl (by rw [hml]; rfl) (argsL := [(.ref a2), (.ref sa72)]) (rest := []) rfl (lenOf pd__Ljava_lang_Object_Ljava_lang_String__Ljava_lang_Object_ rfl) rfl (by show 2 * 0 + _ ≤ _; exact Nat.le_of_eq rfl) (hb hby d1_7) (by decide) (by decide)
  obtain ⟨rfl, N74q, e74⟩ := hQ74
  have N74 := Fr.app N71 N74q
  refine own_goW st74 ?_
  show own_EndW _ _ _ _ _ _ _ T74 (mkF m 10 #[.val (.ref a1), .val (.ref a2), .val .null, .val (.ref a4)] [(.ref a2)])
  refine own_goW (fun t k => XS.pop X74.here hx rfl (hb hby d1_10) rfl rfl k) ?_
  show own_EndW _ _ _ _ _ _ _ T74 (mkF m 11 #[.val (.ref a1), .val (.ref a2), .val .null, .val (.ref a4)] [])
  refine own_goW (fun t k => XS.aloadN X74.here hx rfl (hb hby d1_11) rfl rfl k) ?_
  show own_EndW _ _ _ _ _ _ _ T74 (mkF m 12 #[.val (.ref a1), .val (.ref a2), .val .null, .val (.ref a4)] [.null])
  refine own_goW (fun t k => XS.ifnonnullNo X74.here hx rfl (hb hby d1_12) rfl k) ?_
  show own_EndW _ _ _ _ _ _ _ T74 (mkF m 15 #[.val (.ref a1), .val (.ref a2), .val .null, .val (.ref a4)] [])
  obtain ⟨sa75, T75, h75, kk75, X75, e75, E75, hS75, hk75, hZ, hown, st75⟩ := ldcS X74 hx hZ hown (hw _ (List.mem_of_getElem? (i := 29) rfl)) (own_wS hw) e74 hS72 hk72 (g := (mkF m 15 #[.val (.ref a1), .val (.ref a2), .val .null, .val (.ref a4)] [])) rfl (hb hby d1_15) (n := 0) (by decide) (by decide) (by decide) (by decide)
  have K76 : Keep h0 h75 [a1] := K73.ext E75
  refine own_goW st75 ?_
  show own_EndW _ _ _ _ _ _ _ T75 (mkF m 17 #[.val (.ref a1), .val (.ref a2), .val .null, .val (.ref a4)] [(.ref sa75)])
  refine own_goW (fun t k => XS.goto X75.here hx rfl (pc0 := 17) (pc' := 21) rfl (hb hby d1_17) (by decide) (by decide) k) ?_
  show own_EndW _ _ _ _ _ _ _ T75 (mkF m 21 #[.val (.ref a1), .val (.ref a2), .val .null, .val (.ref a4)] [(.ref sa75)])
  refine own_goW (fun t k => XS.astoreN X75.here hx rfl (hb hby d1_21) rfl rfl (l' := #[.val (.ref a1), .val (.ref a2), .val (.ref sa75), .val (.ref a4)]) rfl k) ?_
  show own_EndW _ _ _ _ _ _ _ T75 (mkF m 22 #[.val (.ref a1), .val (.ref a2), .val (.ref sa75), .val (.ref a4)] [])
  refine own_goW (fun t k => XS.aloadN X75.here hx rfl (hb hby d1_22) rfl rfl k) ?_
  show own_EndW _ _ _ _ _ _ _ T75 (mkF m 23 #[.val (.ref a1), .val (.ref a2), .val (.ref sa75), .val (.ref a4)] [(.ref a4)])
  refine own_goW (fun t k => XS.ifnullNo X75.here hx rfl (hb hby d1_23) rfl k) ?_
  show own_EndW _ _ _ _ _ _ _ T75 (mkF m 26 #[.val (.ref a1), .val (.ref a2), .val (.ref sa75), .val (.ref a4)] [])
  refine own_goW (fun t k => XS.aloadN X75.here hx rfl (hb hby d1_26) rfl rfl k) ?_
  show own_EndW _ _ _ _ _ _ _ T75 (mkF m 27 #[.val (.ref a1), .val (.ref a2), .val (.ref sa75), .val (.ref a4)] [(.ref a4)])
  obtain ⟨cl77, Ar77, q77, S77, M77, H77, G77⟩ := id ((V4.ext E72).ext E75)
  refine own_goW (fun t k => X75.arraylength hx (by rw [e75]; exact Ar77.1) (State.isArrayOf_alike hZ.alike Ar77.2.1) (g := (mkF m 27 #[.val (.ref a1), .val (.ref a2), .val (.ref sa75), .val (.ref a4)] [(.ref a4)])) rfl rfl (hb hby d1_27) t k) ?_
  rw [len_of S77 M77]
  show own_EndW _ _ _ _ _ _ _ T75 (mkF m 28 #[.val (.ref a1), .val (.ref a2), .val (.ref sa75), .val (.ref a4)] [(.int (0 : Int32))])
  refine own_goW (fun t k => XS.ifNo X75.here hx rfl (hb hby d1_28) rfl ((if0 _ _).trans (teq (by decide : (0 : Int32) = (0 : Int32))).2) k) ?_
  show own_EndW _ _ _ _ _ _ _ T75 (mkF m 31 #[.val (.ref a1), .val (.ref a2), .val (.ref sa75), .val (.ref a4)] [])
  obtain ⟨T78, X78, e78, st78⟩ := getS2 X75 hx hZ hown (host := "") (Or.inl (hw _ (List.mem_of_getElem? (i := 30) rfl))) Via.refl e75 ((SN.ext E72).ext E75) (g := (mkF m 31 #[.val (.ref a1), .val (.ref a2), .val (.ref sa75), .val (.ref a4)] [])) rfl (hb hby d1_31)
  refine own_goW st78 ?_
  show own_EndW _ _ _ _ _ _ _ T78 (mkF m 34 #[.val (.ref a1), .val (.ref a2), .val (.ref sa75), .val (.ref a4)] [(.ref wN)])
  refine own_goW (fun t k => XS.goto X78.here hx rfl (pc0 := 34) (pc' := 44) rfl (hb hby d1_34) (by decide) (by decide) k) ?_
  show own_EndW _ _ _ _ _ _ _ T78 (mkF m 44 #[.val (.ref a1), .val (.ref a2), .val (.ref sa75), .val (.ref a4)] [(.ref wN)])
  refine own_goW (fun t k => XS.astoreN X78.here hx rfl (hb hby d1_44) rfl rfl (l' := #[.val (.ref a1), .val (.ref a2), .val (.ref sa75), .val (.ref wN)]) rfl k) ?_
  show own_EndW _ _ _ _ _ _ _ T78 (mkF m 45 #[.val (.ref a1), .val (.ref a2), .val (.ref sa75), .val (.ref wN)] [])
  refine own_goW (fun t k => XS.aloadN X78.here hx rfl (hb hby d1_45) rfl rfl k) ?_
  show own_EndW _ _ _ _ _ _ _ T78 (mkF m 46 #[.val (.ref a1), .val (.ref a2), .val (.ref sa75), .val (.ref wN)] [(.ref a1)])
  refine own_goW (fun t k => XS.aloadN X78.here hx rfl (hb hby d1_46) rfl rfl k) ?_
  show own_EndW _ _ _ _ _ _ _ T78 (mkF m 47 #[.val (.ref a1), .val (.ref a2), .val (.ref sa75), .val (.ref wN)] [(.ref a2), (.ref a1)])
  obtain ⟨T79, h79, X79, e79, W79, st79⟩ := putF X78 hx hZ hown (host := "") (Or.inl (hw _ (List.mem_of_getElem? (i := 32) rfl))) Via.refl e78 ((F0.ext E72).ext E75) ((E1.ext E72).ext E75) (Or.inr ⟨(hw _ (List.mem_of_getElem? (i := 33) rfl)), rfl, hnm⟩) (hw _ (List.mem_of_getElem? (i := 2) rfl)) (ty := (.object "com/example/coxswain/coxswain/wire/StatusCode")) (by decide) rfl rfl (g := (mkF m 47 #[.val (.ref a1), .val (.ref a2), .val (.ref sa75), .val (.ref wN)] [(.ref a2), (.ref a1)])) rfl rfl (hb hby d1_47)
  have Fw79 := ((F0.ext E72).ext E75).same W79
  have K80 : Keep h0 h79 [a1] := K76.wr W79 (Or.inl (by simp))
  have N79 := Fr.snoc X79 N74 g1
  refine own_goW st79 ?_
  show own_EndW _ _ _ _ _ _ _ T79 (mkF m 50 #[.val (.ref a1), .val (.ref a2), .val (.ref sa75), .val (.ref wN)] [])
  refine own_goW (fun t k => XS.aloadN X79.here hx rfl (hb hby d1_50) rfl rfl k) ?_
  show own_EndW _ _ _ _ _ _ _ T79 (mkF m 51 #[.val (.ref a1), .val (.ref a2), .val (.ref sa75), .val (.ref wN)] [(.ref a1)])
  refine own_goW (fun t k => XS.aloadN X79.here hx rfl (hb hby d1_51) rfl rfl k) ?_
  show own_EndW _ _ _ _ _ _ _ T79 (mkF m 52 #[.val (.ref a1), .val (.ref a2), .val (.ref sa75), .val (.ref wN)] [(.ref sa75), (.ref a1)])
  obtain ⟨T81, h81, X81, e81, W81, st81⟩ := putF X79 hx hZ hown (host := "") (Or.inl (hw _ (List.mem_of_getElem? (i := 34) rfl))) Via.refl e79 (((F1.ext E72).ext E75).other W79 (Or.inr (slot_ne (Or.inr (hw _ (List.mem_of_getElem? (i := 35) rfl))) (Or.inr (hw _ (List.mem_of_getElem? (i := 33) rfl))) (by decide) (t := (.object "java/lang/String")) (t' := (.object "com/example/coxswain/coxswain/wire/StatusCode")) (by decide) (by decide)))) (((E1.ext E72).ext E75).wr W79) (Or.inr ⟨(hw _ (List.mem_of_getElem? (i := 35) rfl)), rfl, hnm⟩) (hw _ (List.mem_of_getElem? (i := 2) rfl)) (ty := (.object "java/lang/String")) (by decide) rfl rfl (g := (mkF m 52 #[.val (.ref a1), .val (.ref a2), .val (.ref sa75), .val (.ref wN)] [(.ref sa75), (.ref a1)])) rfl rfl (hb hby d1_52)
  have Fw81 := (((F1.ext E72).ext E75).other W79 (Or.inr (slot_ne (Or.inr (hw _ (List.mem_of_getElem? (i := 35) rfl))) (Or.inr (hw _ (List.mem_of_getElem? (i := 33) rfl))) (by decide) (t := (.object "java/lang/String")) (t' := (.object "com/example/coxswain/coxswain/wire/StatusCode")) (by decide) (by decide)))).same W81
  have K82 : Keep h0 h81 [a1] := K80.wr W81 (Or.inl (by simp))
  have N81 := Fr.snoc X81 N79 g1
  refine own_goW st81 ?_
  show own_EndW _ _ _ _ _ _ _ T81 (mkF m 55 #[.val (.ref a1), .val (.ref a2), .val (.ref sa75), .val (.ref wN)] [])
  refine own_goW (fun t k => XS.aloadN X81.here hx rfl (hb hby d1_55) rfl rfl k) ?_
  show own_EndW _ _ _ _ _ _ _ T81 (mkF m 56 #[.val (.ref a1), .val (.ref a2), .val (.ref sa75), .val (.ref wN)] [(.ref a1)])
  refine own_goW (fun t k => XS.aloadN X81.here hx rfl (hb hby d1_56) rfl rfl k) ?_
  show own_EndW _ _ _ _ _ _ _ T81 (mkF m 57 #[.val (.ref a1), .val (.ref a2), .val (.ref sa75), .val (.ref wN)] [(.ref wN), (.ref a1)])
  obtain ⟨T83, h83, X83, e83, W83, st83⟩ := putF X81 hx hZ hown (host := "") (Or.inl (hw _ (List.mem_of_getElem? (i := 36) rfl))) Via.refl e81 ((((F2.ext E72).ext E75).other W79 (Or.inr (slot_ne (Or.inr (hw _ (List.mem_of_getElem? (i := 37) rfl))) (Or.inr (hw _ (List.mem_of_getElem? (i := 33) rfl))) (by decide) (t := (.array .byte)) (t' := (.object "com/example/coxswain/coxswain/wire/StatusCode")) (by decide) (by decide)))).other W81 (Or.inr (slot_ne (Or.inr (hw _ (List.mem_of_getElem? (i := 37) rfl))) (Or.inr (hw _ (List.mem_of_getElem? (i := 35) rfl))) (by decide) (t := (.array .byte)) (t' := (.object "java/lang/String")) (by decide) (by decide)))) ((((E1.ext E72).ext E75).wr W79).wr W81) (Or.inr ⟨(hw _ (List.mem_of_getElem? (i := 37) rfl)), rfl, hnm⟩) (hw _ (List.mem_of_getElem? (i := 2) rfl)) (ty := (.array .byte)) (by decide) rfl rfl (g := (mkF m 57 #[.val (.ref a1), .val (.ref a2), .val (.ref sa75), .val (.ref wN)] [(.ref wN), (.ref a1)])) rfl rfl (hb hby d1_57)
  have Fw83 := ((((F2.ext E72).ext E75).other W79 (Or.inr (slot_ne (Or.inr (hw _ (List.mem_of_getElem? (i := 37) rfl))) (Or.inr (hw _ (List.mem_of_getElem? (i := 33) rfl))) (by decide) (t := (.array .byte)) (t' := (.object "com/example/coxswain/coxswain/wire/StatusCode")) (by decide) (by decide)))).other W81 (Or.inr (slot_ne (Or.inr (hw _ (List.mem_of_getElem? (i := 37) rfl))) (Or.inr (hw _ (List.mem_of_getElem? (i := 35) rfl))) (by decide) (t := (.array .byte)) (t' := (.object "java/lang/String")) (by decide) (by decide)))).same W83
  have K84 : Keep h0 h83 [a1] := K82.wr W83 (Or.inl (by simp))
  have N83 := Fr.snoc X83 N81 g1
  refine own_goW st83 ?_
  show own_EndW _ _ _ _ _ _ _ T83 (mkF m 60 #[.val (.ref a1), .val (.ref a2), .val (.ref sa75), .val (.ref wN)] [])
  exact own_retVW X83 hS75 (by rw [e83]; exact (Nat.le_trans (Nat.le_trans (Nat.le_trans hk75 (Keep.of_wr W79).1) (Keep.of_wr W81).1) (Keep.of_wr W83).1)) hx Bd.returns Bd.notSynchronized (hb hby d1_60) (by rw [e83]; exact ⟨rfl, N83, K84, (((((E1.ext E72).ext E75).wr W79).wr W81).wr W83), Fw83⟩) (by decide) (by decide)
def Q_rmI1 (Z : State) (a1 a2 a4 : Addr) (k : ClassId) (u0 : Int32) (h0 : Heap) (n0 : Nat) (v : Option Value) (h : Heap) (L : List Loc) : Prop := v = none ∧ Fr n0 L ∧ Keep h0 h [a1] ∧ Exa Z h a1 "com/example/coxswain/coxswain/wire/Status" ∧ ∃ d : Addr, n0 ≤ d ∧ h0.size ≤ d ∧ Fld Z h a1 "com/example/coxswain/coxswain/wire/Status" "details" "[B" (.ref d) ∧ Arv Z h d k .byte (1 : Int32) [(.int u0)] (.int (0 : Int32)) ∧ Exa Z h d "[B"
theorem ef_rmI1 (m : MethodId) (x0 : Addr) (x1 : Addr) (x3 : Addr) : entryFrame m #[(.ref x0), (.ref x1), .null, (.ref x3)] 4 = mkF m 0 #[.val (.ref x0), .val (.ref x1), .val .null, .val (.ref x3)] [] := by first | (simp [entryFrame, mkF, argsToLocals, Value.category]; done) | rfl
theorem d1_37 : decode prog_40_method_1_code 37 = .ok (.aload_n 3, 1) := by decide +kernel
theorem d1_38 : decode prog_40_method_1_code 38 = .ok (.invokevirtual 23, 3) := by decide +kernel
theorem d1_41 : decode prog_40_method_1_code 41 = .ok (.checkcast 24, 3) := by decide +kernel
set_option maxRecDepth 65536 in
set_option maxHeartbeats 40000000 in
theorem rmI1 (l : Launch) (Z : State) (a0 : Array Value) (hw : ∀ d ∈ tables_1, d.before a0 Z = true) (ws : List Jvm.Cond) (a1 a2 a4 : Addr) (k : ClassId) (u0 : Int32) (h0 : Heap) (n0 : Nat) (Z0 : n0 ≤ h0.size) (E1 : Exa Z h0 a1 "com/example/coxswain/coxswain/wire/Status") (g1 : n0 ≤ a1) (F0 : Fld Z h0 a1 "com/example/coxswain/coxswain/wire/Status" "code" "Lcom/example/coxswain/coxswain/wire/StatusCode;" .null) (F1 : Fld Z h0 a1 "com/example/coxswain/coxswain/wire/Status" "description" "Ljava/lang/String;" .null) (F2 : Fld Z h0 a1 "com/example/coxswain/coxswain/wire/Status" "details" "[B" .null) (V4 : Arv Z h0 a4 k .byte (1 : Int32) [(.int u0)] (.int (0 : Int32))) (n14 : a1 ≠ a4) (E4 : Exa Z h0 a4 "[B") :
    MetFree l (⟨"com/example/coxswain/coxswain/wire/Status", "<init>", "(Lcom/example/coxswain/coxswain/wire/StatusCode;Ljava/lang/String;[B)V"⟩ : MethodName) (head1 (Jvm.Cond.code (⟨"com/example/coxswain/coxswain/wire/Status", "<init>", "(Lcom/example/coxswain/coxswain/wire/StatusCode;Ljava/lang/String;[B)V"⟩ : MethodName) prog_40_method_1_code 4 none :: ws) ({ frames := 2, cells := 5, slots := 25, locals := 24 } : Room)) (fun a U => a = #[(.ref a1), (.ref a2), .null, (.ref a4)] ∧ Z.Warmed39 U.vm ∧ U.heap = h0) (fun _ _ _ _ _ => True) (fun _ U o U' => ∃ v L, o = .returned v ∧ Q_rmI1 Z a1 a2 a4 k u0 h0 n0 v U'.heap L ∧ ReturnedEndW U o U' L ({ frames := 2, cells := 5, slots := 25, locals := 24 } : Room).cells ({ frames := 2, cells := 5, slots := 25, locals := 24 } : Room).slots) := by
  refine MetFree.of_bodySF (plainFor_of_name pn_com_example_coxswain_coxswain_wire_Status) hisR ?_
  intro p e s m args below meth c s₁ Bd hml0 hP hK
  obtain ⟨rfl, hZ, hh⟩ := hP
  have hx := Bd.exec
  have hby := Bd.bytes
  have hml : c.maxLocals = 4 := hml0
  have hown : s.vm.findClass "com/example/coxswain/coxswain/wire/Status" = some m.cls := findClass_of_methodNamed Bd.named
  have hnm := (name_of_methodNamed Bd.named Bd.method).1
  have X0 : Stand p l e ({ frames := 2, cells := 5, slots := 25, locals := 24 } : Room) (s.setVm s.vm) m #[(.ref a1), (.ref a2), .null, (.ref a4)] below meth c s₁ [] 0 0 := Stand.of_body Bd
  have e0 : s₁.heap = h0 := by rw [← hh, Bd.state]; rfl
  have N0 := Fr.nil n0
  suffices own_main : own_EndW p e below s (Q_rmI1 Z a1 a2 a4 k u0 h0 n0) ({ frames := 2, cells := 5, slots := 25, locals := 24 } : Room).cells ({ frames := 2, cells := 5, slots := 25, locals := 24 } : Room).slots s₁ (mkF m 0 #[.val (.ref a1), .val (.ref a2), .val .null, .val (.ref a4)] []) by
    obtain ⟨s₂, o, k1, k2, k3, k4⟩ := own_main
    exact ⟨s₂, o, castTop (ef_rmI1 m a1 a2 a4) k1, k2, k3, k4⟩
  have hS0 : s.Since s.vm h0.size := (State.WarmedH.refl s).since _
  have hk0 : h0.size ≤ h0.size := Nat.le_refl _
  show own_EndW _ _ _ _ _ _ _ s₁ (mkF m 0 #[.val (.ref a1), .val (.ref a2), .val .null, .val (.ref a4)] [])
  refine own_goW (fun t k => XS.aloadN X0.here hx rfl (hb hby d1_0) rfl rfl k) ?_
  show own_EndW _ _ _ _ _ _ _ s₁ (mkF m 1 #[.val (.ref a1), .val (.ref a2), .val .null, .val (.ref a4)] [(.ref a1)])
  obtain ⟨v85, T85, L85, X85, hQ85, st85⟩ := own_callN (y := (⟨"java/lang/Record", "<init>", "()V"⟩ : MethodName)) X0 hx hZ hown (hw _ (List.mem_of_getElem? (i := 10) rfl)) (hw _ (List.mem_of_getElem? (i := 11) rfl)) (hw _ (List.mem_of_getElem? (i := 14) rfl)) (by decide) (hw _ (List.mem_of_getElem? (i := 13) rfl)) (rmR l Z a0 hw [] a1 h0 n0 Z0) e0 (W := 0) (by decide) (by decide) (g := (mkF m 1 #[.val (.ref a1), .val (.ref a2), .val .null, .val (.ref a4)] [(.ref a1)])) rfl (by rw [hml]; rfl) (argsL := []) (rest := []) (a := a1) rfl rfl (lenOf pd___V rfl) rfl (by show 2 * 0 + _ ≤ _; exact Nat.le_of_eq rfl) (hb hby d1_1) (by decide) (by decide)
  obtain ⟨rfl, N85q, e85⟩ := hQ85
  have N85 := Fr.app N0 N85q
  refine own_goW st85 ?_
  show own_EndW _ _ _ _ _ _ _ T85 (mkF m 4 #[.val (.ref a1), .val (.ref a2), .val .null, .val (.ref a4)] [])
  refine own_goW (fun t k => XS.aloadN X85.here hx rfl (hb hby d1_4) rfl rfl k) ?_
  show own_EndW _ _ _ _ _ _ _ T85 (mkF m 5 #[.val (.ref a1), .val (.ref a2), .val .null, .val (.ref a4)] [(.ref a2)])
  obtain ⟨sa86, T86, h86, kk86, X86, e86, E86, hS86, hk86, hZ, hown, st86⟩ := ldcS X85 hx hZ hown (hw _ (List.mem_of_getElem? (i := 18) rfl)) (own_wS hw) e85 hS0 hk0 (g := (mkF m 5 #[.val (.ref a1), .val (.ref a2), .val .null, .val (.ref a4)] [(.ref a2)])) rfl (hb hby d1_5) (n := 16) (by decide) (by decide) (by decide) (by decide)
  have K87 : Keep h0 h86 [a1] := (Keep.refl h0 [a1]).ext E86
  refine own_goW st86 ?_
  show own_EndW _ _ _ _ _ _ _ T86 (mkF m 7 #[.val (.ref a1), .val (.ref a2), .val .null, .val (.ref a4)] [(.ref sa86), (.ref a2)])
  obtain ⟨v88, T88, L88, X88, hQ88, st88⟩ := own_callS (y := (⟨"java/util/Objects", "requireNonNull", "(Ljava/lang/Object;Ljava/lang/String;)Ljava/lang/Object;"⟩ : MethodName)) X86 hx hZ hown (hw _ (List.mem_of_getElem? (i := 25) rfl)) (hw _ (List.mem_of_getElem? (i := 26) rfl)) (hw _ (List.mem_of_getElem? (i := 28) rfl)) (by decide) (hw _ (List.mem_of_getElem? (i := 27) rfl)) (rmQ l Z a0 hw [] a2 sa86 h86 n0 (Nat.le_trans Z0 E86.1)) e86 (W := 0) (by decide) (by decide) (g := (mkF m 7 #[.val (.ref a1), .val (.ref a2), .val .null, .val (.ref a4)] [(.ref sa86), (.ref a2)])) rfl (by rw [hml]; rfl) (argsL := [(.ref a2), (.ref sa86)]) (rest := []) rfl (lenOf pd__Ljava_lang_Object_Ljava_lang_String__Ljava_lang_Object_ rfl) rfl (by show 2 * 0 + _ ≤ _; exact Nat.le_of_eq rfl) (hb hby d1_7) (by decide) (by decide)
  obtain ⟨rfl, N88q, e88⟩ := hQ88
  have N88 := Fr.app N85 N88q
  refine own_goW st88 ?_
  show own_EndW _ _ _ _ _ _ _ T88 (mkF m 10 #[.val (.ref a1), .val (.ref a2), .val .null, .val (.ref a4)] [(.ref a2)])
  refine own_goW (fun t k => XS.pop X88.here hx rfl (hb hby d1_10) rfl rfl k) ?_
  show own_EndW _ _ _ _ _ _ _ T88 (mkF m 11 #[.val (.ref a1), .val (.ref a2), .val .null, .val (.ref a4)] [])
  refine own_goW (fun t k => XS.aloadN X88.here hx rfl (hb hby d1_11) rfl rfl k) ?_
  show own_EndW _ _ _ _ _ _ _ T88 (mkF m 12 #[.val (.ref a1), .val (.ref a2), .val .null, .val (.ref a4)] [.null])
  refine own_goW (fun t k => XS.ifnonnullNo X88.here hx rfl (hb hby d1_12) rfl k) ?_
  show own_EndW _ _ _ _ _ _ _ T88 (mkF m 15 #[.val (.ref a1), .val (.ref a2), .val .null, .val (.ref a4)] [])
  obtain ⟨sa89, T89, h89, kk89, X89, e89, E89, hS89, hk89, hZ, hown, st89⟩ := ldcS X88 hx hZ hown (hw _ (List.mem_of_getElem? (i := 29) rfl)) (own_wS hw) e88 hS86 hk86 (g := (mkF m 15 #[.val (.ref a1), .val (.ref a2), .val .null, .val (.ref a4)] [])) rfl (hb hby d1_15) (n := 0) (by decide) (by decide) (by decide) (by decide)
  have K90 : Keep h0 h89 [a1] := K87.ext E89
  refine own_goW st89 ?_
  show own_EndW _ _ _ _ _ _ _ T89 (mkF m 17 #[.val (.ref a1), .val (.ref a2), .val .null, .val (.ref a4)] [(.ref sa89)])
  refine own_goW (fun t k => XS.goto X89.here hx rfl (pc0 := 17) (pc' := 21) rfl (hb hby d1_17) (by decide) (by decide) k) ?_
  show own_EndW _ _ _ _ _ _ _ T89 (mkF m 21 #[.val (.ref a1), .val (.ref a2), .val .null, .val (.ref a4)] [(.ref sa89)])
  refine own_goW (fun t k => XS.astoreN X89.here hx rfl (hb hby d1_21) rfl rfl (l' := #[.val (.ref a1), .val (.ref a2), .val (.ref sa89), .val (.ref a4)]) rfl k) ?_
  show own_EndW _ _ _ _ _ _ _ T89 (mkF m 22 #[.val (.ref a1), .val (.ref a2), .val (.ref sa89), .val (.ref a4)] [])
  refine own_goW (fun t k => XS.aloadN X89.here hx rfl (hb hby d1_22) rfl rfl k) ?_
  show own_EndW _ _ _ _ _ _ _ T89 (mkF m 23 #[.val (.ref a1), .val (.ref a2), .val (.ref sa89), .val (.ref a4)] [(.ref a4)])
  refine own_goW (fun t k => XS.ifnullNo X89.here hx rfl (hb hby d1_23) rfl k) ?_
  show own_EndW _ _ _ _ _ _ _ T89 (mkF m 26 #[.val (.ref a1), .val (.ref a2), .val (.ref sa89), .val (.ref a4)] [])
  refine own_goW (fun t k => XS.aloadN X89.here hx rfl (hb hby d1_26) rfl rfl k) ?_
  show own_EndW _ _ _ _ _ _ _ T89 (mkF m 27 #[.val (.ref a1), .val (.ref a2), .val (.ref sa89), .val (.ref a4)] [(.ref a4)])
  obtain ⟨cl91, Ar91, q91, S91, M91, H91, G91⟩ := id ((V4.ext E86).ext E89)
  refine own_goW (fun t k => X89.arraylength hx (by rw [e89]; exact Ar91.1) (State.isArrayOf_alike hZ.alike Ar91.2.1) (g := (mkF m 27 #[.val (.ref a1), .val (.ref a2), .val (.ref sa89), .val (.ref a4)] [(.ref a4)])) rfl rfl (hb hby d1_27) t k) ?_
  rw [len_of S91 M91]
  show own_EndW _ _ _ _ _ _ _ T89 (mkF m 28 #[.val (.ref a1), .val (.ref a2), .val (.ref sa89), .val (.ref a4)] [(.int (1 : Int32))])
  refine own_goW (fun t k => XS.ifYes X89.here hx rfl (pc0 := 28) (pc' := 37) rfl (hb hby d1_28) rfl ((if0 _ _).trans (feq (by decide : ¬ ((1 : Int32) = (0 : Int32)))).2) (by decide) (by decide) k) ?_
  show own_EndW _ _ _ _ _ _ _ T89 (mkF m 37 #[.val (.ref a1), .val (.ref a2), .val (.ref sa89), .val (.ref a4)] [])
  refine own_goW (fun t k => XS.aloadN X89.here hx rfl (hb hby d1_37) rfl rfl k) ?_
  show own_EndW _ _ _ _ _ _ _ T89 (mkF m 38 #[.val (.ref a1), .val (.ref a2), .val (.ref sa89), .val (.ref a4)] [(.ref a4)])
  obtain ⟨T92, h92, X92, e92, E92, V92, A92, st92⟩ := cloneH X89 hx hZ hown (hw _ (List.mem_of_getElem? (i := 50) rfl)) (hw _ (List.mem_of_getElem? (i := 51) rfl)) (hw _ (List.mem_of_getElem? (i := 55) rfl)) (hw _ (List.mem_of_getElem? (i := 53) rfl)) (hw _ (List.mem_of_getElem? (i := 54) rfl)) (hw _ (List.mem_of_getElem? (i := 56) rfl)) e89 (Arv.arh ((V4.ext E86).ext E89)) ((E4.ext E86).ext E89) (g := (mkF m 38 #[.val (.ref a1), .val (.ref a2), .val (.ref sa89), .val (.ref a4)] [(.ref a4)])) rfl (by rw [hml]; rfl) rfl (hb hby d1_38) (by decide) (W := 0) (cap := 1) (by show 2 * 0 + _ ≤ _; exact Nat.le_of_eq rfl) (by decide) (by decide) (by decide) (by decide)
  obtain ⟨b92, g92⟩ : ∃ z, z = h89.size := ⟨_, rfl⟩
  rw [← g92] at V92 A92 st92
  have ne_a1_b92 : a1 ≠ b92 := Nat.ne_of_lt (Nat.lt_of_lt_of_le ((E1.ext E86).ext E89).lt (Nat.le_of_eq g92.symm))
  have ne_a4_b92 : a4 ≠ b92 := Nat.ne_of_lt (Nat.lt_of_lt_of_le ((V4.ext E86).ext E89).lt (Nat.le_of_eq g92.symm))
  have g_b92 : n0 ≤ b92 := Nat.le_trans (Nat.le_trans (Nat.le_trans Z0 E86.1) E89.1) (Nat.le_of_eq g92.symm)
  have sz_b92 : h0.size ≤ b92 := Nat.le_trans K90.1 (Nat.le_of_eq g92.symm)
  have Vc92 : Arv Z h92 b92 k .byte (1 : Int32) [(.int u0)] (.int (0 : Int32)) := V92
  have K93 : Keep h0 h92 [a1] := K90.ext E92
  refine own_goW st92 ?_
  show own_EndW _ _ _ _ _ _ _ T92 (mkF m 41 #[.val (.ref a1), .val (.ref a2), .val (.ref sa89), .val (.ref a4)] [(.ref b92)])
  obtain ⟨T94, X94, e94, st94⟩ := castY X92 hx hZ hown (hw _ (List.mem_of_getElem? (i := 57) rfl)) e92 (Ins.self A92) (g := (mkF m 41 #[.val (.ref a1), .val (.ref a2), .val (.ref sa89), .val (.ref a4)] [(.ref b92)])) rfl rfl (hb hby d1_41)
  refine own_goW st94 ?_
  show own_EndW _ _ _ _ _ _ _ T94 (mkF m 44 #[.val (.ref a1), .val (.ref a2), .val (.ref sa89), .val (.ref a4)] [(.ref b92)])
  refine own_goW (fun t k => XS.astoreN X94.here hx rfl (hb hby d1_44) rfl rfl (l' := #[.val (.ref a1), .val (.ref a2), .val (.ref sa89), .val (.ref b92)]) rfl k) ?_
  show own_EndW _ _ _ _ _ _ _ T94 (mkF m 45 #[.val (.ref a1), .val (.ref a2), .val (.ref sa89), .val (.ref b92)] [])
  refine own_goW (fun t k => XS.aloadN X94.here hx rfl (hb hby d1_45) rfl rfl k) ?_
  show own_EndW _ _ _ _ _ _ _ T94 (mkF m 46 #[.val (.ref a1), .val (.ref a2), .val (.ref sa89), .val (.ref b92)] [(.ref a1)])
  refine own_goW (fun t k => XS.aloadN X94.here hx rfl (hb hby d1_46) rfl rfl k) ?_
  show own_EndW _ _ _ _ _ _ _ T94 (mkF m 47 #[.val (.ref a1), .val (.ref a2), .val (.ref sa89), .val (.ref b92)] [(.ref a2), (.ref a1)])
  obtain ⟨T95, h95, X95, e95, W95, st95⟩ := putF X94 hx hZ hown (host := "") (Or.inl (hw _ (List.mem_of_getElem? (i := 32) rfl))) Via.refl e94 (((F0.ext E86).ext E89).ext E92) (((E1.ext E86).ext E89).ext E92) (Or.inr ⟨(hw _ (List.mem_of_getElem? (i := 33) rfl)), rfl, hnm⟩) (hw _ (List.mem_of_getElem? (i := 2) rfl)) (ty := (.object "com/example/coxswain/coxswain/wire/StatusCode")) (by decide) rfl rfl (g := (mkF m 47 #[.val (.ref a1), .val (.ref a2), .val (.ref sa89), .val (.ref b92)] [(.ref a2), (.ref a1)])) rfl rfl (hb hby d1_47)
  have Fw95 := (((F0.ext E86).ext E89).ext E92).same W95
  have K96 : Keep h0 h95 [a1] := K93.wr W95 (Or.inl (by simp))
  have N95 := Fr.snoc X95 N88 g1
  refine own_goW st95 ?_
  show own_EndW _ _ _ _ _ _ _ T95 (mkF m 50 #[.val (.ref a1), .val (.ref a2), .val (.ref sa89), .val (.ref b92)] [])
  refine own_goW (fun t k => XS.aloadN X95.here hx rfl (hb hby d1_50) rfl rfl k) ?_
  show own_EndW _ _ _ _ _ _ _ T95 (mkF m 51 #[.val (.ref a1), .val (.ref a2), .val (.ref sa89), .val (.ref b92)] [(.ref a1)])
  refine own_goW (fun t k => XS.aloadN X95.here hx rfl (hb hby d1_51) rfl rfl k) ?_
  show own_EndW _ _ _ _ _ _ _ T95 (mkF m 52 #[.val (.ref a1), .val (.ref a2), .val (.ref sa89), .val (.ref b92)] [(.ref sa89), (.ref a1)])
  obtain ⟨T97, h97, X97, e97, W97, st97⟩ := putF X95 hx hZ hown (host := "") (Or.inl (hw _ (List.mem_of_getElem? (i := 34) rfl))) Via.refl e95 ((((F1.ext E86).ext E89).ext E92).other W95 (Or.inr (slot_ne (Or.inr (hw _ (List.mem_of_getElem? (i := 35) rfl))) (Or.inr (hw _ (List.mem_of_getElem? (i := 33) rfl))) (by decide) (t := (.object "java/lang/String")) (t' := (.object "com/example/coxswain/coxswain/wire/StatusCode")) (by decide) (by decide)))) ((((E1.ext E86).ext E89).ext E92).wr W95) (Or.inr ⟨(hw _ (List.mem_of_getElem? (i := 35) rfl)), rfl, hnm⟩) (hw _ (List.mem_of_getElem? (i := 2) rfl)) (ty := (.object "java/lang/String")) (by decide) rfl rfl (g := (mkF m 52 #[.val (.ref a1), .val (.ref a2), .val (.ref sa89), .val (.ref b92)] [(.ref sa89), (.ref a1)])) rfl rfl (hb hby d1_52)
  have Fw97 := ((((F1.ext E86).ext E89).ext E92).other W95 (Or.inr (slot_ne (Or.inr (hw _ (List.mem_of_getElem? (i := 35) rfl))) (Or.inr (hw _ (List.mem_of_getElem? (i := 33) rfl))) (by decide) (t := (.object "java/lang/String")) (t' := (.object "com/example/coxswain/coxswain/wire/StatusCode")) (by decide) (by decide)))).same W97
  have K98 : Keep h0 h97 [a1] := K96.wr W97 (Or.inl (by simp))
  have N97 := Fr.snoc X97 N95 g1
  refine own_goW st97 ?_
  show own_EndW _ _ _ _ _ _ _ T97 (mkF m 55 #[.val (.ref a1), .val (.ref a2), .val (.ref sa89), .val (.ref b92)] [])
  refine own_goW (fun t k => XS.aloadN X97.here hx rfl (hb hby d1_55) rfl rfl k) ?_
  show own_EndW _ _ _ _ _ _ _ T97 (mkF m 56 #[.val (.ref a1), .val (.ref a2), .val (.ref sa89), .val (.ref b92)] [(.ref a1)])
  refine own_goW (fun t k => XS.aloadN X97.here hx rfl (hb hby d1_56) rfl rfl k) ?_
  show own_EndW _ _ _ _ _ _ _ T97 (mkF m 57 #[.val (.ref a1), .val (.ref a2), .val (.ref sa89), .val (.ref b92)] [(.ref b92), (.ref a1)])
  obtain ⟨T99, h99, X99, e99, W99, st99⟩ := putF X97 hx hZ hown (host := "") (Or.inl (hw _ (List.mem_of_getElem? (i := 36) rfl))) Via.refl e97 (((((F2.ext E86).ext E89).ext E92).other W95 (Or.inr (slot_ne (Or.inr (hw _ (List.mem_of_getElem? (i := 37) rfl))) (Or.inr (hw _ (List.mem_of_getElem? (i := 33) rfl))) (by decide) (t := (.array .byte)) (t' := (.object "com/example/coxswain/coxswain/wire/StatusCode")) (by decide) (by decide)))).other W97 (Or.inr (slot_ne (Or.inr (hw _ (List.mem_of_getElem? (i := 37) rfl))) (Or.inr (hw _ (List.mem_of_getElem? (i := 35) rfl))) (by decide) (t := (.array .byte)) (t' := (.object "java/lang/String")) (by decide) (by decide)))) (((((E1.ext E86).ext E89).ext E92).wr W95).wr W97) (Or.inr ⟨(hw _ (List.mem_of_getElem? (i := 37) rfl)), rfl, hnm⟩) (hw _ (List.mem_of_getElem? (i := 2) rfl)) (ty := (.array .byte)) (by decide) rfl rfl (g := (mkF m 57 #[.val (.ref a1), .val (.ref a2), .val (.ref sa89), .val (.ref b92)] [(.ref b92), (.ref a1)])) rfl rfl (hb hby d1_57)
  have Fw99 := (((((F2.ext E86).ext E89).ext E92).other W95 (Or.inr (slot_ne (Or.inr (hw _ (List.mem_of_getElem? (i := 37) rfl))) (Or.inr (hw _ (List.mem_of_getElem? (i := 33) rfl))) (by decide) (t := (.array .byte)) (t' := (.object "com/example/coxswain/coxswain/wire/StatusCode")) (by decide) (by decide)))).other W97 (Or.inr (slot_ne (Or.inr (hw _ (List.mem_of_getElem? (i := 37) rfl))) (Or.inr (hw _ (List.mem_of_getElem? (i := 35) rfl))) (by decide) (t := (.array .byte)) (t' := (.object "java/lang/String")) (by decide) (by decide)))).same W99
  have K100 : Keep h0 h99 [a1] := K98.wr W99 (Or.inl (by simp))
  have N99 := Fr.snoc X99 N97 g1
  refine own_goW st99 ?_
  show own_EndW _ _ _ _ _ _ _ T99 (mkF m 60 #[.val (.ref a1), .val (.ref a2), .val (.ref sa89), .val (.ref b92)] [])
  exact own_retVW X99 hS89 (by rw [e99]; exact (Nat.le_trans (Nat.le_trans (Nat.le_trans (Nat.le_trans hk89 E92.1) (Keep.of_wr W95).1) (Keep.of_wr W97).1) (Keep.of_wr W99).1)) hx Bd.returns Bd.notSynchronized (hb hby d1_60) (by rw [e99]; exact ⟨rfl, N99, K100, ((((((E1.ext E86).ext E89).ext E92).wr W95).wr W97).wr W99), b92, g_b92, sz_b92, Fw99, (((Vc92.other W95 (Ne.symm ne_a1_b92)).other W97 (Ne.symm ne_a1_b92)).other W99 (Ne.symm ne_a1_b92)), (((A92.wr W95).wr W97).wr W99)⟩) (by decide) (by decide)
def Q_rmI2 (Z : State) (a1 a2 a4 : Addr) (k : ClassId) (u0 u1 : Int32) (h0 : Heap) (n0 : Nat) (v : Option Value) (h : Heap) (L : List Loc) : Prop := v = none ∧ Fr n0 L ∧ Keep h0 h [a1] ∧ Exa Z h a1 "com/example/coxswain/coxswain/wire/Status" ∧ ∃ d : Addr, n0 ≤ d ∧ h0.size ≤ d ∧ Fld Z h a1 "com/example/coxswain/coxswain/wire/Status" "details" "[B" (.ref d) ∧ Arv Z h d k .byte (2 : Int32) [(.int u0), (.int u1)] (.int (0 : Int32)) ∧ Exa Z h d "[B"
theorem ef_rmI2 (m : MethodId) (x0 : Addr) (x1 : Addr) (x3 : Addr) : entryFrame m #[(.ref x0), (.ref x1), .null, (.ref x3)] 4 = mkF m 0 #[.val (.ref x0), .val (.ref x1), .val .null, .val (.ref x3)] [] := by first | (simp [entryFrame, mkF, argsToLocals, Value.category]; done) | rfl
set_option maxRecDepth 65536 in
set_option maxHeartbeats 40000000 in
theorem rmI2 (l : Launch) (Z : State) (a0 : Array Value) (hw : ∀ d ∈ tables_1, d.before a0 Z = true) (ws : List Jvm.Cond) (a1 a2 a4 : Addr) (k : ClassId) (u0 u1 : Int32) (h0 : Heap) (n0 : Nat) (Z0 : n0 ≤ h0.size) (E1 : Exa Z h0 a1 "com/example/coxswain/coxswain/wire/Status") (g1 : n0 ≤ a1) (F0 : Fld Z h0 a1 "com/example/coxswain/coxswain/wire/Status" "code" "Lcom/example/coxswain/coxswain/wire/StatusCode;" .null) (F1 : Fld Z h0 a1 "com/example/coxswain/coxswain/wire/Status" "description" "Ljava/lang/String;" .null) (F2 : Fld Z h0 a1 "com/example/coxswain/coxswain/wire/Status" "details" "[B" .null) (V4 : Arv Z h0 a4 k .byte (2 : Int32) [(.int u0), (.int u1)] (.int (0 : Int32))) (n14 : a1 ≠ a4) (E4 : Exa Z h0 a4 "[B") :
    MetFree l (⟨"com/example/coxswain/coxswain/wire/Status", "<init>", "(Lcom/example/coxswain/coxswain/wire/StatusCode;Ljava/lang/String;[B)V"⟩ : MethodName) (head1 (Jvm.Cond.code (⟨"com/example/coxswain/coxswain/wire/Status", "<init>", "(Lcom/example/coxswain/coxswain/wire/StatusCode;Ljava/lang/String;[B)V"⟩ : MethodName) prog_40_method_1_code 4 none :: ws) ({ frames := 2, cells := 5, slots := 26, locals := 24 } : Room)) (fun a U => a = #[(.ref a1), (.ref a2), .null, (.ref a4)] ∧ Z.Warmed39 U.vm ∧ U.heap = h0) (fun _ _ _ _ _ => True) (fun _ U o U' => ∃ v L, o = .returned v ∧ Q_rmI2 Z a1 a2 a4 k u0 u1 h0 n0 v U'.heap L ∧ ReturnedEndW U o U' L ({ frames := 2, cells := 5, slots := 26, locals := 24 } : Room).cells ({ frames := 2, cells := 5, slots := 26, locals := 24 } : Room).slots) := by
  refine MetFree.of_bodySF (plainFor_of_name pn_com_example_coxswain_coxswain_wire_Status) hisR ?_
  intro p e s m args below meth c s₁ Bd hml0 hP hK
  obtain ⟨rfl, hZ, hh⟩ := hP
  have hx := Bd.exec
  have hby := Bd.bytes
  have hml : c.maxLocals = 4 := hml0
  have hown : s.vm.findClass "com/example/coxswain/coxswain/wire/Status" = some m.cls := findClass_of_methodNamed Bd.named
  have hnm := (name_of_methodNamed Bd.named Bd.method).1
  have X0 : Stand p l e ({ frames := 2, cells := 5, slots := 26, locals := 24 } : Room) (s.setVm s.vm) m #[(.ref a1), (.ref a2), .null, (.ref a4)] below meth c s₁ [] 0 0 := Stand.of_body Bd
  have e0 : s₁.heap = h0 := by rw [← hh, Bd.state]; rfl
  have N0 := Fr.nil n0
  suffices own_main : own_EndW p e below s (Q_rmI2 Z a1 a2 a4 k u0 u1 h0 n0) ({ frames := 2, cells := 5, slots := 26, locals := 24 } : Room).cells ({ frames := 2, cells := 5, slots := 26, locals := 24 } : Room).slots s₁ (mkF m 0 #[.val (.ref a1), .val (.ref a2), .val .null, .val (.ref a4)] []) by
    obtain ⟨s₂, o, k1, k2, k3, k4⟩ := own_main
    exact ⟨s₂, o, castTop (ef_rmI2 m a1 a2 a4) k1, k2, k3, k4⟩
  have hS0 : s.Since s.vm h0.size := (State.WarmedH.refl s).since _
  have hk0 : h0.size ≤ h0.size := Nat.le_refl _
  show own_EndW _ _ _ _ _ _ _ s₁ (mkF m 0 #[.val (.ref a1), .val (.ref a2), .val .null, .val (.ref a4)] [])
  refine own_goW (fun t k => XS.aloadN X0.here hx rfl (hb hby d1_0) rfl rfl k) ?_
  show own_EndW _ _ _ _ _ _ _ s₁ (mkF m 1 #[.val (.ref a1), .val (.ref a2), .val .null, .val (.ref a4)] [(.ref a1)])
  obtain ⟨v101, T101, L101, X101, hQ101, st101⟩ := own_callN (y := (⟨"java/lang/Record", "<init>", "()V"⟩ : MethodName)) X0 hx hZ hown (hw _ (List.mem_of_getElem? (i := 10) rfl)) (hw _ (List.mem_of_getElem? (i := 11) rfl)) (hw _ (List.mem_of_getElem? (i := 14) rfl)) (by decide) (hw _ (List.mem_of_getElem? (i := 13) rfl)) (rmR l Z a0 hw [] a1 h0 n0 Z0) e0 (W := 0) (by decide) (by decide) (g := (mkF m 1 #[.val (.ref a1), .val (.ref a2), .val .null, .val (.ref a4)] [(.ref a1)])) rfl (by rw [hml]; rfl) (argsL := []) (rest := []) (a := a1) rfl rfl (lenOf pd___V rfl) rfl (by show 2 * 0 + _ ≤ _; exact Nat.le_of_eq rfl) (hb hby d1_1) (by decide) (by decide)
  obtain ⟨rfl, N101q, e101⟩ := hQ101
  have N101 := Fr.app N0 N101q
  refine own_goW st101 ?_
  show own_EndW _ _ _ _ _ _ _ T101 (mkF m 4 #[.val (.ref a1), .val (.ref a2), .val .null, .val (.ref a4)] [])
  refine own_goW (fun t k => XS.aloadN X101.here hx rfl (hb hby d1_4) rfl rfl k) ?_
  show own_EndW _ _ _ _ _ _ _ T101 (mkF m 5 #[.val (.ref a1), .val (.ref a2), .val .null, .val (.ref a4)] [(.ref a2)])
  obtain ⟨sa102, T102, h102, kk102, X102, e102, E102, hS102, hk102, hZ, hown, st102⟩ := ldcS X101 hx hZ hown (hw _ (List.mem_of_getElem? (i := 18) rfl)) (own_wS hw) e101 hS0 hk0 (g := (mkF m 5 #[.val (.ref a1), .val (.ref a2), .val .null, .val (.ref a4)] [(.ref a2)])) rfl (hb hby d1_5) (n := 16) (by decide) (by decide) (by decide) (by decide)
  have K103 : Keep h0 h102 [a1] := (Keep.refl h0 [a1]).ext E102
  refine own_goW st102 ?_
  show own_EndW _ _ _ _ _ _ _ T102 (mkF m 7 #[.val (.ref a1), .val (.ref a2), .val .null, .val (.ref a4)] [(.ref sa102), (.ref a2)])
  obtain ⟨v104, T104, L104, X104, hQ104, st104⟩ := own_callS (y := (⟨"java/util/Objects", "requireNonNull", "(Ljava/lang/Object;Ljava/lang/String;)Ljava/lang/Object;"⟩ : MethodName)) X102 hx hZ hown (hw _ (List.mem_of_getElem? (i := 25) rfl)) (hw _ (List.mem_of_getElem? (i := 26) rfl)) (hw _ (List.mem_of_getElem? (i := 28) rfl)) (by decide) (hw _ (List.mem_of_getElem? (i := 27) rfl)) (rmQ l Z a0 hw [] a2 sa102 h102 n0 (Nat.le_trans Z0 E102.1)) e102 (W := 0) (by decide) (by decide) (g := (mkF m 7 #[.val (.ref a1), .val (.ref a2), .val .null, .val (.ref a4)] [(.ref sa102), (.ref a2)])) rfl (by rw [hml]; rfl) (argsL := [(.ref a2), (.ref sa102)]) (rest := []) rfl (lenOf pd__Ljava_lang_Object_Ljava_lang_String__Ljava_lang_Object_ rfl) rfl (by show 2 * 0 + _ ≤ _; exact Nat.le_of_eq rfl) (hb hby d1_7) (by decide) (by decide)
  obtain ⟨rfl, N104q, e104⟩ := hQ104
  have N104 := Fr.app N101 N104q
  refine own_goW st104 ?_
  show own_EndW _ _ _ _ _ _ _ T104 (mkF m 10 #[.val (.ref a1), .val (.ref a2), .val .null, .val (.ref a4)] [(.ref a2)])
  refine own_goW (fun t k => XS.pop X104.here hx rfl (hb hby d1_10) rfl rfl k) ?_
  show own_EndW _ _ _ _ _ _ _ T104 (mkF m 11 #[.val (.ref a1), .val (.ref a2), .val .null, .val (.ref a4)] [])
  refine own_goW (fun t k => XS.aloadN X104.here hx rfl (hb hby d1_11) rfl rfl k) ?_
  show own_EndW _ _ _ _ _ _ _ T104 (mkF m 12 #[.val (.ref a1), .val (.ref a2), .val .null, .val (.ref a4)] [.null])
  refine own_goW (fun t k => XS.ifnonnullNo X104.here hx rfl (hb hby d1_12) rfl k) ?_
  show own_EndW _ _ _ _ _ _ _ T104 (mkF m 15 #[.val (.ref a1), .val (.ref a2), .val .null, .val (.ref a4)] [])
  obtain ⟨sa105, T105, h105, kk105, X105, e105, E105, hS105, hk105, hZ, hown, st105⟩ := ldcS X104 hx hZ hown (hw _ (List.mem_of_getElem? (i := 29) rfl)) (own_wS hw) e104 hS102 hk102 (g := (mkF m 15 #[.val (.ref a1), .val (.ref a2), .val .null, .val (.ref a4)] [])) rfl (hb hby d1_15) (n := 0) (by decide) (by decide) (by decide) (by decide)
  have K106 : Keep h0 h105 [a1] := K103.ext E105
  refine own_goW st105 ?_
  show own_EndW _ _ _ _ _ _ _ T105 (mkF m 17 #[.val (.ref a1), .val (.ref a2), .val .null, .val (.ref a4)] [(.ref sa105)])
  refine own_goW (fun t k => XS.goto X105.here hx rfl (pc0 := 17) (pc' := 21) rfl (hb hby d1_17) (by decide) (by decide) k) ?_
  show own_EndW _ _ _ _ _ _ _ T105 (mkF m 21 #[.val (.ref a1), .val (.ref a2), .val .null, .val (.ref a4)] [(.ref sa105)])
  refine own_goW (fun t k => XS.astoreN X105.here hx rfl (hb hby d1_21) rfl rfl (l' := #[.val (.ref a1), .val (.ref a2), .val (.ref sa105), .val (.ref a4)]) rfl k) ?_
  show own_EndW _ _ _ _ _ _ _ T105 (mkF m 22 #[.val (.ref a1), .val (.ref a2), .val (.ref sa105), .val (.ref a4)] [])
  refine own_goW (fun t k => XS.aloadN X105.here hx rfl (hb hby d1_22) rfl rfl k) ?_
  show own_EndW _ _ _ _ _ _ _ T105 (mkF m 23 #[.val (.ref a1), .val (.ref a2), .val (.ref sa105), .val (.ref a4)] [(.ref a4)])
  refine own_goW (fun t k => XS.ifnullNo X105.here hx rfl (hb hby d1_23) rfl k) ?_
  show own_EndW _ _ _ _ _ _ _ T105 (mkF m 26 #[.val (.ref a1), .val (.ref a2), .val (.ref sa105), .val (.ref a4)] [])
  refine own_goW (fun t k => XS.aloadN X105.here hx rfl (hb hby d1_26) rfl rfl k) ?_
  show own_EndW _ _ _ _ _ _ _ T105 (mkF m 27 #[.val (.ref a1), .val (.ref a2), .val (.ref sa105), .val (.ref a4)] [(.ref a4)])
  obtain ⟨cl107, Ar107, q107, S107, M107, H107, G107⟩ := id ((V4.ext E102).ext E105)
  refine own_goW (fun t k => X105.arraylength hx (by rw [e105]; exact Ar107.1) (State.isArrayOf_alike hZ.alike Ar107.2.1) (g := (mkF m 27 #[.val (.ref a1), .val (.ref a2), .val (.ref sa105), .val (.ref a4)] [(.ref a4)])) rfl rfl (hb hby d1_27) t k) ?_
  rw [len_of S107 M107]
  show own_EndW _ _ _ _ _ _ _ T105 (mkF m 28 #[.val (.ref a1), .val (.ref a2), .val (.ref sa105), .val (.ref a4)] [(.int (2 : Int32))])
  refine own_goW (fun t k => XS.ifYes X105.here hx rfl (pc0 := 28) (pc' := 37) rfl (hb hby d1_28) rfl ((if0 _ _).trans (feq (by decide : ¬ ((2 : Int32) = (0 : Int32)))).2) (by decide) (by decide) k) ?_
  show own_EndW _ _ _ _ _ _ _ T105 (mkF m 37 #[.val (.ref a1), .val (.ref a2), .val (.ref sa105), .val (.ref a4)] [])
  refine own_goW (fun t k => XS.aloadN X105.here hx rfl (hb hby d1_37) rfl rfl k) ?_
  show own_EndW _ _ _ _ _ _ _ T105 (mkF m 38 #[.val (.ref a1), .val (.ref a2), .val (.ref sa105), .val (.ref a4)] [(.ref a4)])
  obtain ⟨T108, h108, X108, e108, E108, V108, A108, st108⟩ := cloneH X105 hx hZ hown (hw _ (List.mem_of_getElem? (i := 50) rfl)) (hw _ (List.mem_of_getElem? (i := 51) rfl)) (hw _ (List.mem_of_getElem? (i := 55) rfl)) (hw _ (List.mem_of_getElem? (i := 53) rfl)) (hw _ (List.mem_of_getElem? (i := 54) rfl)) (hw _ (List.mem_of_getElem? (i := 56) rfl)) e105 (Arv.arh ((V4.ext E102).ext E105)) ((E4.ext E102).ext E105) (g := (mkF m 38 #[.val (.ref a1), .val (.ref a2), .val (.ref sa105), .val (.ref a4)] [(.ref a4)])) rfl (by rw [hml]; rfl) rfl (hb hby d1_38) (by decide) (W := 0) (cap := 2) (by show 2 * 0 + _ ≤ _; exact Nat.le_of_eq rfl) (by decide) (by decide) (by decide) (by decide)
  obtain ⟨b108, g108⟩ : ∃ z, z = h105.size := ⟨_, rfl⟩
  rw [← g108] at V108 A108 st108
  have ne_a1_b108 : a1 ≠ b108 := Nat.ne_of_lt (Nat.lt_of_lt_of_le ((E1.ext E102).ext E105).lt (Nat.le_of_eq g108.symm))
  have ne_a4_b108 : a4 ≠ b108 := Nat.ne_of_lt (Nat.lt_of_lt_of_le ((V4.ext E102).ext E105).lt (Nat.le_of_eq g108.symm))
  have g_b108 : n0 ≤ b108 := Nat.le_trans (Nat.le_trans (Nat.le_trans Z0 E102.1) E105.1) (Nat.le_of_eq g108.symm)
  have sz_b108 : h0.size ≤ b108 := Nat.le_trans K106.1 (Nat.le_of_eq g108.symm)
  have Vc108 : Arv Z h108 b108 k .byte (2 : Int32) [(.int u0), (.int u1)] (.int (0 : Int32)) := V108
  have K109 : Keep h0 h108 [a1] := K106.ext E108
  refine own_goW st108 ?_
  show own_EndW _ _ _ _ _ _ _ T108 (mkF m 41 #[.val (.ref a1), .val (.ref a2), .val (.ref sa105), .val (.ref a4)] [(.ref b108)])
  obtain ⟨T110, X110, e110, st110⟩ := castY X108 hx hZ hown (hw _ (List.mem_of_getElem? (i := 57) rfl)) e108 (Ins.self A108) (g := (mkF m 41 #[.val (.ref a1), .val (.ref a2), .val (.ref sa105), .val (.ref a4)] [(.ref b108)])) rfl rfl (hb hby d1_41)
  refine own_goW st110 ?_
  show own_EndW _ _ _ _ _ _ _ T110 (mkF m 44 #[.val (.ref a1), .val (.ref a2), .val (.ref sa105), .val (.ref a4)] [(.ref b108)])
  refine own_goW (fun t k => XS.astoreN X110.here hx rfl (hb hby d1_44) rfl rfl (l' := #[.val (.ref a1), .val (.ref a2), .val (.ref sa105), .val (.ref b108)]) rfl k) ?_
  show own_EndW _ _ _ _ _ _ _ T110 (mkF m 45 #[.val (.ref a1), .val (.ref a2), .val (.ref sa105), .val (.ref b108)] [])
  refine own_goW (fun t k => XS.aloadN X110.here hx rfl (hb hby d1_45) rfl rfl k) ?_
  show own_EndW _ _ _ _ _ _ _ T110 (mkF m 46 #[.val (.ref a1), .val (.ref a2), .val (.ref sa105), .val (.ref b108)] [(.ref a1)])
  refine own_goW (fun t k => XS.aloadN X110.here hx rfl (hb hby d1_46) rfl rfl k) ?_
  show own_EndW _ _ _ _ _ _ _ T110 (mkF m 47 #[.val (.ref a1), .val (.ref a2), .val (.ref sa105), .val (.ref b108)] [(.ref a2), (.ref a1)])
  obtain ⟨T111, h111, X111, e111, W111, st111⟩ := putF X110 hx hZ hown (host := "") (Or.inl (hw _ (List.mem_of_getElem? (i := 32) rfl))) Via.refl e110 (((F0.ext E102).ext E105).ext E108) (((E1.ext E102).ext E105).ext E108) (Or.inr ⟨(hw _ (List.mem_of_getElem? (i := 33) rfl)), rfl, hnm⟩) (hw _ (List.mem_of_getElem? (i := 2) rfl)) (ty := (.object "com/example/coxswain/coxswain/wire/StatusCode")) (by decide) rfl rfl (g := (mkF m 47 #[.val (.ref a1), .val (.ref a2), .val (.ref sa105), .val (.ref b108)] [(.ref a2), (.ref a1)])) rfl rfl (hb hby d1_47)
  have Fw111 := (((F0.ext E102).ext E105).ext E108).same W111
  have K112 : Keep h0 h111 [a1] := K109.wr W111 (Or.inl (by simp))
  have N111 := Fr.snoc X111 N104 g1
  refine own_goW st111 ?_
  show own_EndW _ _ _ _ _ _ _ T111 (mkF m 50 #[.val (.ref a1), .val (.ref a2), .val (.ref sa105), .val (.ref b108)] [])
  refine own_goW (fun t k => XS.aloadN X111.here hx rfl (hb hby d1_50) rfl rfl k) ?_
  show own_EndW _ _ _ _ _ _ _ T111 (mkF m 51 #[.val (.ref a1), .val (.ref a2), .val (.ref sa105), .val (.ref b108)] [(.ref a1)])
  refine own_goW (fun t k => XS.aloadN X111.here hx rfl (hb hby d1_51) rfl rfl k) ?_
  show own_EndW _ _ _ _ _ _ _ T111 (mkF m 52 #[.val (.ref a1), .val (.ref a2), .val (.ref sa105), .val (.ref b108)] [(.ref sa105), (.ref a1)])
  obtain ⟨T113, h113, X113, e113, W113, st113⟩ := putF X111 hx hZ hown (host := "") (Or.inl (hw _ (List.mem_of_getElem? (i := 34) rfl))) Via.refl e111 ((((F1.ext E102).ext E105).ext E108).other W111 (Or.inr (slot_ne (Or.inr (hw _ (List.mem_of_getElem? (i := 35) rfl))) (Or.inr (hw _ (List.mem_of_getElem? (i := 33) rfl))) (by decide) (t := (.object "java/lang/String")) (t' := (.object "com/example/coxswain/coxswain/wire/StatusCode")) (by decide) (by decide)))) ((((E1.ext E102).ext E105).ext E108).wr W111) (Or.inr ⟨(hw _ (List.mem_of_getElem? (i := 35) rfl)), rfl, hnm⟩) (hw _ (List.mem_of_getElem? (i := 2) rfl)) (ty := (.object "java/lang/String")) (by decide) rfl rfl (g := (mkF m 52 #[.val (.ref a1), .val (.ref a2), .val (.ref sa105), .val (.ref b108)] [(.ref sa105), (.ref a1)])) rfl rfl (hb hby d1_52)
  have Fw113 := ((((F1.ext E102).ext E105).ext E108).other W111 (Or.inr (slot_ne (Or.inr (hw _ (List.mem_of_getElem? (i := 35) rfl))) (Or.inr (hw _ (List.mem_of_getElem? (i := 33) rfl))) (by decide) (t := (.object "java/lang/String")) (t' := (.object "com/example/coxswain/coxswain/wire/StatusCode")) (by decide) (by decide)))).same W113
  have K114 : Keep h0 h113 [a1] := K112.wr W113 (Or.inl (by simp))
  have N113 := Fr.snoc X113 N111 g1
  refine own_goW st113 ?_
  show own_EndW _ _ _ _ _ _ _ T113 (mkF m 55 #[.val (.ref a1), .val (.ref a2), .val (.ref sa105), .val (.ref b108)] [])
  refine own_goW (fun t k => XS.aloadN X113.here hx rfl (hb hby d1_55) rfl rfl k) ?_
  show own_EndW _ _ _ _ _ _ _ T113 (mkF m 56 #[.val (.ref a1), .val (.ref a2), .val (.ref sa105), .val (.ref b108)] [(.ref a1)])
  refine own_goW (fun t k => XS.aloadN X113.here hx rfl (hb hby d1_56) rfl rfl k) ?_
  show own_EndW _ _ _ _ _ _ _ T113 (mkF m 57 #[.val (.ref a1), .val (.ref a2), .val (.ref sa105), .val (.ref b108)] [(.ref b108), (.ref a1)])
  obtain ⟨T115, h115, X115, e115, W115, st115⟩ := putF X113 hx hZ hown (host := "") (Or.inl (hw _ (List.mem_of_getElem? (i := 36) rfl))) Via.refl e113 (((((F2.ext E102).ext E105).ext E108).other W111 (Or.inr (slot_ne (Or.inr (hw _ (List.mem_of_getElem? (i := 37) rfl))) (Or.inr (hw _ (List.mem_of_getElem? (i := 33) rfl))) (by decide) (t := (.array .byte)) (t' := (.object "com/example/coxswain/coxswain/wire/StatusCode")) (by decide) (by decide)))).other W113 (Or.inr (slot_ne (Or.inr (hw _ (List.mem_of_getElem? (i := 37) rfl))) (Or.inr (hw _ (List.mem_of_getElem? (i := 35) rfl))) (by decide) (t := (.array .byte)) (t' := (.object "java/lang/String")) (by decide) (by decide)))) (((((E1.ext E102).ext E105).ext E108).wr W111).wr W113) (Or.inr ⟨(hw _ (List.mem_of_getElem? (i := 37) rfl)), rfl, hnm⟩) (hw _ (List.mem_of_getElem? (i := 2) rfl)) (ty := (.array .byte)) (by decide) rfl rfl (g := (mkF m 57 #[.val (.ref a1), .val (.ref a2), .val (.ref sa105), .val (.ref b108)] [(.ref b108), (.ref a1)])) rfl rfl (hb hby d1_57)
  have Fw115 := (((((F2.ext E102).ext E105).ext E108).other W111 (Or.inr (slot_ne (Or.inr (hw _ (List.mem_of_getElem? (i := 37) rfl))) (Or.inr (hw _ (List.mem_of_getElem? (i := 33) rfl))) (by decide) (t := (.array .byte)) (t' := (.object "com/example/coxswain/coxswain/wire/StatusCode")) (by decide) (by decide)))).other W113 (Or.inr (slot_ne (Or.inr (hw _ (List.mem_of_getElem? (i := 37) rfl))) (Or.inr (hw _ (List.mem_of_getElem? (i := 35) rfl))) (by decide) (t := (.array .byte)) (t' := (.object "java/lang/String")) (by decide) (by decide)))).same W115
  have K116 : Keep h0 h115 [a1] := K114.wr W115 (Or.inl (by simp))
  have N115 := Fr.snoc X115 N113 g1
  refine own_goW st115 ?_
  show own_EndW _ _ _ _ _ _ _ T115 (mkF m 60 #[.val (.ref a1), .val (.ref a2), .val (.ref sa105), .val (.ref b108)] [])
  exact own_retVW X115 hS105 (by rw [e115]; exact (Nat.le_trans (Nat.le_trans (Nat.le_trans (Nat.le_trans hk105 E108.1) (Keep.of_wr W111).1) (Keep.of_wr W113).1) (Keep.of_wr W115).1)) hx Bd.returns Bd.notSynchronized (hb hby d1_60) (by rw [e115]; exact ⟨rfl, N115, K116, ((((((E1.ext E102).ext E105).ext E108).wr W111).wr W113).wr W115), b108, g_b108, sz_b108, Fw115, (((Vc108.other W111 (Ne.symm ne_a1_b108)).other W113 (Ne.symm ne_a1_b108)).other W115 (Ne.symm ne_a1_b108)), (((A108.wr W111).wr W113).wr W115)⟩) (by decide) (by decide)
def Q_rmI3 (Z : State) (a1 a2 a4 : Addr) (k : ClassId) (u0 u1 u2 : Int32) (h0 : Heap) (n0 : Nat) (v : Option Value) (h : Heap) (L : List Loc) : Prop := v = none ∧ Fr n0 L ∧ Keep h0 h [a1] ∧ Exa Z h a1 "com/example/coxswain/coxswain/wire/Status" ∧ ∃ d : Addr, n0 ≤ d ∧ h0.size ≤ d ∧ Fld Z h a1 "com/example/coxswain/coxswain/wire/Status" "details" "[B" (.ref d) ∧ Arv Z h d k .byte (3 : Int32) [(.int u0), (.int u1), (.int u2)] (.int (0 : Int32)) ∧ Exa Z h d "[B"
theorem ef_rmI3 (m : MethodId) (x0 : Addr) (x1 : Addr) (x3 : Addr) : entryFrame m #[(.ref x0), (.ref x1), .null, (.ref x3)] 4 = mkF m 0 #[.val (.ref x0), .val (.ref x1), .val .null, .val (.ref x3)] [] := by first | (simp [entryFrame, mkF, argsToLocals, Value.category]; done) | rfl
set_option maxRecDepth 65536 in
set_option maxHeartbeats 40000000 in
theorem rmI3 (l : Launch) (Z : State) (a0 : Array Value) (hw : ∀ d ∈ tables_1, d.before a0 Z = true) (ws : List Jvm.Cond) (a1 a2 a4 : Addr) (k : ClassId) (u0 u1 u2 : Int32) (h0 : Heap) (n0 : Nat) (Z0 : n0 ≤ h0.size) (E1 : Exa Z h0 a1 "com/example/coxswain/coxswain/wire/Status") (g1 : n0 ≤ a1) (F0 : Fld Z h0 a1 "com/example/coxswain/coxswain/wire/Status" "code" "Lcom/example/coxswain/coxswain/wire/StatusCode;" .null) (F1 : Fld Z h0 a1 "com/example/coxswain/coxswain/wire/Status" "description" "Ljava/lang/String;" .null) (F2 : Fld Z h0 a1 "com/example/coxswain/coxswain/wire/Status" "details" "[B" .null) (V4 : Arv Z h0 a4 k .byte (3 : Int32) [(.int u0), (.int u1), (.int u2)] (.int (0 : Int32))) (n14 : a1 ≠ a4) (E4 : Exa Z h0 a4 "[B") :
    MetFree l (⟨"com/example/coxswain/coxswain/wire/Status", "<init>", "(Lcom/example/coxswain/coxswain/wire/StatusCode;Ljava/lang/String;[B)V"⟩ : MethodName) (head1 (Jvm.Cond.code (⟨"com/example/coxswain/coxswain/wire/Status", "<init>", "(Lcom/example/coxswain/coxswain/wire/StatusCode;Ljava/lang/String;[B)V"⟩ : MethodName) prog_40_method_1_code 4 none :: ws) ({ frames := 2, cells := 5, slots := 27, locals := 24 } : Room)) (fun a U => a = #[(.ref a1), (.ref a2), .null, (.ref a4)] ∧ Z.Warmed39 U.vm ∧ U.heap = h0) (fun _ _ _ _ _ => True) (fun _ U o U' => ∃ v L, o = .returned v ∧ Q_rmI3 Z a1 a2 a4 k u0 u1 u2 h0 n0 v U'.heap L ∧ ReturnedEndW U o U' L ({ frames := 2, cells := 5, slots := 27, locals := 24 } : Room).cells ({ frames := 2, cells := 5, slots := 27, locals := 24 } : Room).slots) := by
  refine MetFree.of_bodySF (plainFor_of_name pn_com_example_coxswain_coxswain_wire_Status) hisR ?_
  intro p e s m args below meth c s₁ Bd hml0 hP hK
  obtain ⟨rfl, hZ, hh⟩ := hP
  have hx := Bd.exec
  have hby := Bd.bytes
  have hml : c.maxLocals = 4 := hml0
  have hown : s.vm.findClass "com/example/coxswain/coxswain/wire/Status" = some m.cls := findClass_of_methodNamed Bd.named
  have hnm := (name_of_methodNamed Bd.named Bd.method).1
  have X0 : Stand p l e ({ frames := 2, cells := 5, slots := 27, locals := 24 } : Room) (s.setVm s.vm) m #[(.ref a1), (.ref a2), .null, (.ref a4)] below meth c s₁ [] 0 0 := Stand.of_body Bd
  have e0 : s₁.heap = h0 := by rw [← hh, Bd.state]; rfl
  have N0 := Fr.nil n0
  suffices own_main : own_EndW p e below s (Q_rmI3 Z a1 a2 a4 k u0 u1 u2 h0 n0) ({ frames := 2, cells := 5, slots := 27, locals := 24 } : Room).cells ({ frames := 2, cells := 5, slots := 27, locals := 24 } : Room).slots s₁ (mkF m 0 #[.val (.ref a1), .val (.ref a2), .val .null, .val (.ref a4)] []) by
    obtain ⟨s₂, o, k1, k2, k3, k4⟩ := own_main
    exact ⟨s₂, o, castTop (ef_rmI3 m a1 a2 a4) k1, k2, k3, k4⟩
  have hS0 : s.Since s.vm h0.size := (State.WarmedH.refl s).since _
  have hk0 : h0.size ≤ h0.size := Nat.le_refl _
  show own_EndW _ _ _ _ _ _ _ s₁ (mkF m 0 #[.val (.ref a1), .val (.ref a2), .val .null, .val (.ref a4)] [])
  refine own_goW (fun t k => XS.aloadN X0.here hx rfl (hb hby d1_0) rfl rfl k) ?_
  show own_EndW _ _ _ _ _ _ _ s₁ (mkF m 1 #[.val (.ref a1), .val (.ref a2), .val .null, .val (.ref a4)] [(.ref a1)])
  obtain ⟨v117, T117, L117, X117, hQ117, st117⟩ := own_callN (y := (⟨"java/lang/Record", "<init>", "()V"⟩ : MethodName)) X0 hx hZ hown (hw _ (List.mem_of_getElem? (i := 10) rfl)) (hw _ (List.mem_of_getElem? (i := 11) rfl)) (hw _ (List.mem_of_getElem? (i := 14) rfl)) (by decide) (hw _ (List.mem_of_getElem? (i := 13) rfl)) (rmR l Z a0 hw [] a1 h0 n0 Z0) e0 (W := 0) (by decide) (by decide) (g := (mkF m 1 #[.val (.ref a1), .val (.ref a2), .val .null, .val (.ref a4)] [(.ref a1)])) rfl (by rw [hml]; rfl) (argsL := []) (rest := []) (a := a1) rfl rfl (lenOf pd___V rfl) rfl (by show 2 * 0 + _ ≤ _; exact Nat.le_of_eq rfl) (hb hby d1_1) (by decide) (by decide)
  obtain ⟨rfl, N117q, e117⟩ := hQ117
  have N117 := Fr.app N0 N117q
  refine own_goW st117 ?_
  show own_EndW _ _ _ _ _ _ _ T117 (mkF m 4 #[.val (.ref a1), .val (.ref a2), .val .null, .val (.ref a4)] [])
  refine own_goW (fun t k => XS.aloadN X117.here hx rfl (hb hby d1_4) rfl rfl k) ?_
  show own_EndW _ _ _ _ _ _ _ T117 (mkF m 5 #[.val (.ref a1), .val (.ref a2), .val .null, .val (.ref a4)] [(.ref a2)])
  obtain ⟨sa118, T118, h118, kk118, X118, e118, E118, hS118, hk118, hZ, hown, st118⟩ := ldcS X117 hx hZ hown (hw _ (List.mem_of_getElem? (i := 18) rfl)) (own_wS hw) e117 hS0 hk0 (g := (mkF m 5 #[.val (.ref a1), .val (.ref a2), .val .null, .val (.ref a4)] [(.ref a2)])) rfl (hb hby d1_5) (n := 16) (by decide) (by decide) (by decide) (by decide)
  have K119 : Keep h0 h118 [a1] := (Keep.refl h0 [a1]).ext E118
  refine own_goW st118 ?_
  show own_EndW _ _ _ _ _ _ _ T118 (mkF m 7 #[.val (.ref a1), .val (.ref a2), .val .null, .val (.ref a4)] [(.ref sa118), (.ref a2)])
  obtain ⟨v120, T120, L120, X120, hQ120, st120⟩ := own_callS (y := (⟨"java/util/Objects", "requireNonNull", "(Ljava/lang/Object;Ljava/lang/String;)Ljava/lang/Object;"⟩ : MethodName)) X118 hx hZ hown (hw _ (List.mem_of_getElem? (i := 25) rfl)) (hw _ (List.mem_of_getElem? (i := 26) rfl)) (hw _ (List.mem_of_getElem? (i := 28) rfl)) (by decide) (hw _ (List.mem_of_getElem? (i := 27) rfl)) (rmQ l Z a0 hw [] a2 sa118 h118 n0 (Nat.le_trans Z0 E118.1)) e118 (W := 0) (by decide) (by decide) (g := (mkF m 7 #[.val (.ref a1), .val (.ref a2), .val .null, .val (.ref a4)] [(.ref sa118), (.ref a2)])) rfl (by rw [hml]; rfl) (argsL := [(.ref a2), (.ref sa118)]) (rest := []) rfl (lenOf pd__Ljava_lang_Object_Ljava_lang_String__Ljava_lang_Object_ rfl) rfl (by show 2 * 0 + _ ≤ _; exact Nat.le_of_eq rfl) (hb hby d1_7) (by decide) (by decide)
  obtain ⟨rfl, N120q, e120⟩ := hQ120
  have N120 := Fr.app N117 N120q
  refine own_goW st120 ?_
  show own_EndW _ _ _ _ _ _ _ T120 (mkF m 10 #[.val (.ref a1), .val (.ref a2), .val .null, .val (.ref a4)] [(.ref a2)])
  refine own_goW (fun t k => XS.pop X120.here hx rfl (hb hby d1_10) rfl rfl k) ?_
  show own_EndW _ _ _ _ _ _ _ T120 (mkF m 11 #[.val (.ref a1), .val (.ref a2), .val .null, .val (.ref a4)] [])
  refine own_goW (fun t k => XS.aloadN X120.here hx rfl (hb hby d1_11) rfl rfl k) ?_
  show own_EndW _ _ _ _ _ _ _ T120 (mkF m 12 #[.val (.ref a1), .val (.ref a2), .val .null, .val (.ref a4)] [.null])
  refine own_goW (fun t k => XS.ifnonnullNo X120.here hx rfl (hb hby d1_12) rfl k) ?_
  show own_EndW _ _ _ _ _ _ _ T120 (mkF m 15 #[.val (.ref a1), .val (.ref a2), .val .null, .val (.ref a4)] [])
  obtain ⟨sa121, T121, h121, kk121, X121, e121, E121, hS121, hk121, hZ, hown, st121⟩ := ldcS X120 hx hZ hown (hw _ (List.mem_of_getElem? (i := 29) rfl)) (own_wS hw) e120 hS118 hk118 (g := (mkF m 15 #[.val (.ref a1), .val (.ref a2), .val .null, .val (.ref a4)] [])) rfl (hb hby d1_15) (n := 0) (by decide) (by decide) (by decide) (by decide)
  have K122 : Keep h0 h121 [a1] := K119.ext E121
  refine own_goW st121 ?_
  show own_EndW _ _ _ _ _ _ _ T121 (mkF m 17 #[.val (.ref a1), .val (.ref a2), .val .null, .val (.ref a4)] [(.ref sa121)])
  refine own_goW (fun t k => XS.goto X121.here hx rfl (pc0 := 17) (pc' := 21) rfl (hb hby d1_17) (by decide) (by decide) k) ?_
  show own_EndW _ _ _ _ _ _ _ T121 (mkF m 21 #[.val (.ref a1), .val (.ref a2), .val .null, .val (.ref a4)] [(.ref sa121)])
  refine own_goW (fun t k => XS.astoreN X121.here hx rfl (hb hby d1_21) rfl rfl (l' := #[.val (.ref a1), .val (.ref a2), .val (.ref sa121), .val (.ref a4)]) rfl k) ?_
  show own_EndW _ _ _ _ _ _ _ T121 (mkF m 22 #[.val (.ref a1), .val (.ref a2), .val (.ref sa121), .val (.ref a4)] [])
  refine own_goW (fun t k => XS.aloadN X121.here hx rfl (hb hby d1_22) rfl rfl k) ?_
  show own_EndW _ _ _ _ _ _ _ T121 (mkF m 23 #[.val (.ref a1), .val (.ref a2), .val (.ref sa121), .val (.ref a4)] [(.ref a4)])
  refine own_goW (fun t k => XS.ifnullNo X121.here hx rfl (hb hby d1_23) rfl k) ?_
  show own_EndW _ _ _ _ _ _ _ T121 (mkF m 26 #[.val (.ref a1), .val (.ref a2), .val (.ref sa121), .val (.ref a4)] [])
  refine own_goW (fun t k => XS.aloadN X121.here hx rfl (hb hby d1_26) rfl rfl k) ?_
  show own_EndW _ _ _ _ _ _ _ T121 (mkF m 27 #[.val (.ref a1), .val (.ref a2), .val (.ref sa121), .val (.ref a4)] [(.ref a4)])
  obtain ⟨cl123, Ar123, q123, S123, M123, H123, G123⟩ := id ((V4.ext E118).ext E121)
  refine own_goW (fun t k => X121.arraylength hx (by rw [e121]; exact Ar123.1) (State.isArrayOf_alike hZ.alike Ar123.2.1) (g := (mkF m 27 #[.val (.ref a1), .val (.ref a2), .val (.ref sa121), .val (.ref a4)] [(.ref a4)])) rfl rfl (hb hby d1_27) t k) ?_
  rw [len_of S123 M123]
  show own_EndW _ _ _ _ _ _ _ T121 (mkF m 28 #[.val (.ref a1), .val (.ref a2), .val (.ref sa121), .val (.ref a4)] [(.int (3 : Int32))])
  refine own_goW (fun t k => XS.ifYes X121.here hx rfl (pc0 := 28) (pc' := 37) rfl (hb hby d1_28) rfl ((if0 _ _).trans (feq (by decide : ¬ ((3 : Int32) = (0 : Int32)))).2) (by decide) (by decide) k) ?_
  show own_EndW _ _ _ _ _ _ _ T121 (mkF m 37 #[.val (.ref a1), .val (.ref a2), .val (.ref sa121), .val (.ref a4)] [])
  refine own_goW (fun t k => XS.aloadN X121.here hx rfl (hb hby d1_37) rfl rfl k) ?_
  show own_EndW _ _ _ _ _ _ _ T121 (mkF m 38 #[.val (.ref a1), .val (.ref a2), .val (.ref sa121), .val (.ref a4)] [(.ref a4)])
  obtain ⟨T124, h124, X124, e124, E124, V124, A124, st124⟩ := cloneH X121 hx hZ hown (hw _ (List.mem_of_getElem? (i := 50) rfl)) (hw _ (List.mem_of_getElem? (i := 51) rfl)) (hw _ (List.mem_of_getElem? (i := 55) rfl)) (hw _ (List.mem_of_getElem? (i := 53) rfl)) (hw _ (List.mem_of_getElem? (i := 54) rfl)) (hw _ (List.mem_of_getElem? (i := 56) rfl)) e121 (Arv.arh ((V4.ext E118).ext E121)) ((E4.ext E118).ext E121) (g := (mkF m 38 #[.val (.ref a1), .val (.ref a2), .val (.ref sa121), .val (.ref a4)] [(.ref a4)])) rfl (by rw [hml]; rfl) rfl (hb hby d1_38) (by decide) (W := 0) (cap := 3) (by show 2 * 0 + _ ≤ _; exact Nat.le_of_eq rfl) (by decide) (by decide) (by decide) (by decide)
  obtain ⟨b124, g124⟩ : ∃ z, z = h121.size := ⟨_, rfl⟩
  rw [← g124] at V124 A124 st124
  have ne_a1_b124 : a1 ≠ b124 := Nat.ne_of_lt (Nat.lt_of_lt_of_le ((E1.ext E118).ext E121).lt (Nat.le_of_eq g124.symm))
  have ne_a4_b124 : a4 ≠ b124 := Nat.ne_of_lt (Nat.lt_of_lt_of_le ((V4.ext E118).ext E121).lt (Nat.le_of_eq g124.symm))
  have g_b124 : n0 ≤ b124 := Nat.le_trans (Nat.le_trans (Nat.le_trans Z0 E118.1) E121.1) (Nat.le_of_eq g124.symm)
  have sz_b124 : h0.size ≤ b124 := Nat.le_trans K122.1 (Nat.le_of_eq g124.symm)
  have Vc124 : Arv Z h124 b124 k .byte (3 : Int32) [(.int u0), (.int u1), (.int u2)] (.int (0 : Int32)) := V124
  have K125 : Keep h0 h124 [a1] := K122.ext E124
  refine own_goW st124 ?_
  show own_EndW _ _ _ _ _ _ _ T124 (mkF m 41 #[.val (.ref a1), .val (.ref a2), .val (.ref sa121), .val (.ref a4)] [(.ref b124)])
  obtain ⟨T126, X126, e126, st126⟩ := castY X124 hx hZ hown (hw _ (List.mem_of_getElem? (i := 57) rfl)) e124 (Ins.self A124) (g := (mkF m 41 #[.val (.ref a1), .val (.ref a2), .val (.ref sa121), .val (.ref a4)] [(.ref b124)])) rfl rfl (hb hby d1_41)
  refine own_goW st126 ?_
  show own_EndW _ _ _ _ _ _ _ T126 (mkF m 44 #[.val (.ref a1), .val (.ref a2), .val (.ref sa121), .val (.ref a4)] [(.ref b124)])
  refine own_goW (fun t k => XS.astoreN X126.here hx rfl (hb hby d1_44) rfl rfl (l' := #[.val (.ref a1), .val (.ref a2), .val (.ref sa121), .val (.ref b124)]) rfl k) ?_
  show own_EndW _ _ _ _ _ _ _ T126 (mkF m 45 #[.val (.ref a1), .val (.ref a2), .val (.ref sa121), .val (.ref b124)] [])
  refine own_goW (fun t k => XS.aloadN X126.here hx rfl (hb hby d1_45) rfl rfl k) ?_
  show own_EndW _ _ _ _ _ _ _ T126 (mkF m 46 #[.val (.ref a1), .val (.ref a2), .val (.ref sa121), .val (.ref b124)] [(.ref a1)])
  refine own_goW (fun t k => XS.aloadN X126.here hx rfl (hb hby d1_46) rfl rfl k) ?_
  show own_EndW _ _ _ _ _ _ _ T126 (mkF m 47 #[.val (.ref a1), .val (.ref a2), .val (.ref sa121), .val (.ref b124)] [(.ref a2), (.ref a1)])
  obtain ⟨T127, h127, X127, e127, W127, st127⟩ := putF X126 hx hZ hown (host := "") (Or.inl (hw _ (List.mem_of_getElem? (i := 32) rfl))) Via.refl e126 (((F0.ext E118).ext E121).ext E124) (((E1.ext E118).ext E121).ext E124) (Or.inr ⟨(hw _ (List.mem_of_getElem? (i := 33) rfl)), rfl, hnm⟩) (hw _ (List.mem_of_getElem? (i := 2) rfl)) (ty := (.object "com/example/coxswain/coxswain/wire/StatusCode")) (by decide) rfl rfl (g := (mkF m 47 #[.val (.ref a1), .val (.ref a2), .val (.ref sa121), .val (.ref b124)] [(.ref a2), (.ref a1)])) rfl rfl (hb hby d1_47)
  have Fw127 := (((F0.ext E118).ext E121).ext E124).same W127
  have K128 : Keep h0 h127 [a1] := K125.wr W127 (Or.inl (by simp))
  have N127 := Fr.snoc X127 N120 g1
  refine own_goW st127 ?_
  show own_EndW _ _ _ _ _ _ _ T127 (mkF m 50 #[.val (.ref a1), .val (.ref a2), .val (.ref sa121), .val (.ref b124)] [])
  refine own_goW (fun t k => XS.aloadN X127.here hx rfl (hb hby d1_50) rfl rfl k) ?_
  show own_EndW _ _ _ _ _ _ _ T127 (mkF m 51 #[.val (.ref a1), .val (.ref a2), .val (.ref sa121), .val (.ref b124)] [(.ref a1)])
  refine own_goW (fun t k => XS.aloadN X127.here hx rfl (hb hby d1_51) rfl rfl k) ?_
  show own_EndW _ _ _ _ _ _ _ T127 (mkF m 52 #[.val (.ref a1), .val (.ref a2), .val (.ref sa121), .val (.ref b124)] [(.ref sa121), (.ref a1)])
  obtain ⟨T129, h129, X129, e129, W129, st129⟩ := putF X127 hx hZ hown (host := "") (Or.inl (hw _ (List.mem_of_getElem? (i := 34) rfl))) Via.refl e127 ((((F1.ext E118).ext E121).ext E124).other W127 (Or.inr (slot_ne (Or.inr (hw _ (List.mem_of_getElem? (i := 35) rfl))) (Or.inr (hw _ (List.mem_of_getElem? (i := 33) rfl))) (by decide) (t := (.object "java/lang/String")) (t' := (.object "com/example/coxswain/coxswain/wire/StatusCode")) (by decide) (by decide)))) ((((E1.ext E118).ext E121).ext E124).wr W127) (Or.inr ⟨(hw _ (List.mem_of_getElem? (i := 35) rfl)), rfl, hnm⟩) (hw _ (List.mem_of_getElem? (i := 2) rfl)) (ty := (.object "java/lang/String")) (by decide) rfl rfl (g := (mkF m 52 #[.val (.ref a1), .val (.ref a2), .val (.ref sa121), .val (.ref b124)] [(.ref sa121), (.ref a1)])) rfl rfl (hb hby d1_52)
  have Fw129 := ((((F1.ext E118).ext E121).ext E124).other W127 (Or.inr (slot_ne (Or.inr (hw _ (List.mem_of_getElem? (i := 35) rfl))) (Or.inr (hw _ (List.mem_of_getElem? (i := 33) rfl))) (by decide) (t := (.object "java/lang/String")) (t' := (.object "com/example/coxswain/coxswain/wire/StatusCode")) (by decide) (by decide)))).same W129
  have K130 : Keep h0 h129 [a1] := K128.wr W129 (Or.inl (by simp))
  have N129 := Fr.snoc X129 N127 g1
  refine own_goW st129 ?_
  show own_EndW _ _ _ _ _ _ _ T129 (mkF m 55 #[.val (.ref a1), .val (.ref a2), .val (.ref sa121), .val (.ref b124)] [])
  refine own_goW (fun t k => XS.aloadN X129.here hx rfl (hb hby d1_55) rfl rfl k) ?_
  show own_EndW _ _ _ _ _ _ _ T129 (mkF m 56 #[.val (.ref a1), .val (.ref a2), .val (.ref sa121), .val (.ref b124)] [(.ref a1)])
  refine own_goW (fun t k => XS.aloadN X129.here hx rfl (hb hby d1_56) rfl rfl k) ?_
  show own_EndW _ _ _ _ _ _ _ T129 (mkF m 57 #[.val (.ref a1), .val (.ref a2), .val (.ref sa121), .val (.ref b124)] [(.ref b124), (.ref a1)])
  obtain ⟨T131, h131, X131, e131, W131, st131⟩ := putF X129 hx hZ hown (host := "") (Or.inl (hw _ (List.mem_of_getElem? (i := 36) rfl))) Via.refl e129 (((((F2.ext E118).ext E121).ext E124).other W127 (Or.inr (slot_ne (Or.inr (hw _ (List.mem_of_getElem? (i := 37) rfl))) (Or.inr (hw _ (List.mem_of_getElem? (i := 33) rfl))) (by decide) (t := (.array .byte)) (t' := (.object "com/example/coxswain/coxswain/wire/StatusCode")) (by decide) (by decide)))).other W129 (Or.inr (slot_ne (Or.inr (hw _ (List.mem_of_getElem? (i := 37) rfl))) (Or.inr (hw _ (List.mem_of_getElem? (i := 35) rfl))) (by decide) (t := (.array .byte)) (t' := (.object "java/lang/String")) (by decide) (by decide)))) (((((E1.ext E118).ext E121).ext E124).wr W127).wr W129) (Or.inr ⟨(hw _ (List.mem_of_getElem? (i := 37) rfl)), rfl, hnm⟩) (hw _ (List.mem_of_getElem? (i := 2) rfl)) (ty := (.array .byte)) (by decide) rfl rfl (g := (mkF m 57 #[.val (.ref a1), .val (.ref a2), .val (.ref sa121), .val (.ref b124)] [(.ref b124), (.ref a1)])) rfl rfl (hb hby d1_57)
  have Fw131 := (((((F2.ext E118).ext E121).ext E124).other W127 (Or.inr (slot_ne (Or.inr (hw _ (List.mem_of_getElem? (i := 37) rfl))) (Or.inr (hw _ (List.mem_of_getElem? (i := 33) rfl))) (by decide) (t := (.array .byte)) (t' := (.object "com/example/coxswain/coxswain/wire/StatusCode")) (by decide) (by decide)))).other W129 (Or.inr (slot_ne (Or.inr (hw _ (List.mem_of_getElem? (i := 37) rfl))) (Or.inr (hw _ (List.mem_of_getElem? (i := 35) rfl))) (by decide) (t := (.array .byte)) (t' := (.object "java/lang/String")) (by decide) (by decide)))).same W131
  have K132 : Keep h0 h131 [a1] := K130.wr W131 (Or.inl (by simp))
  have N131 := Fr.snoc X131 N129 g1
  refine own_goW st131 ?_
  show own_EndW _ _ _ _ _ _ _ T131 (mkF m 60 #[.val (.ref a1), .val (.ref a2), .val (.ref sa121), .val (.ref b124)] [])
  exact own_retVW X131 hS121 (by rw [e131]; exact (Nat.le_trans (Nat.le_trans (Nat.le_trans (Nat.le_trans hk121 E124.1) (Keep.of_wr W127).1) (Keep.of_wr W129).1) (Keep.of_wr W131).1)) hx Bd.returns Bd.notSynchronized (hb hby d1_60) (by rw [e131]; exact ⟨rfl, N131, K132, ((((((E1.ext E118).ext E121).ext E124).wr W127).wr W129).wr W131), b124, g_b124, sz_b124, Fw131, (((Vc124.other W127 (Ne.symm ne_a1_b124)).other W129 (Ne.symm ne_a1_b124)).other W131 (Ne.symm ne_a1_b124)), (((A124.wr W127).wr W129).wr W131)⟩) (by decide) (by decide)
theorem ef_rm0_0 (m : MethodId) (x0 : Int32) (x1 : Int32) (x2 : Int32) (x3 : Int32) (x4 : Int32) : entryFrame m #[(.int x0), (.int x1), (.int x2), (.int x3), (.int x4)] maxLocals = mkF m 0 #[.val (.int x0), .val (.int x1), .val (.int x2), .val (.int x3), .val (.int x4), .unset, .unset, .unset, .unset, .unset, .unset, .unset, .unset, .unset, .unset] [] := by first | (simp [entryFrame, mkF, argsToLocals, Value.category, maxLocals]; done) | rfl
theorem pd__Lcom_example_coxswain_coxswain_wire_StatusCode_Ljava_lang_String__B_V : parseMethodDescriptor "(Lcom/example/coxswain/coxswain/wire/StatusCode;Ljava/lang/String;[B)V" = some ⟨[(.object "com/example/coxswain/coxswain/wire/StatusCode"), (.object "java/lang/String"), (.array .byte)], none⟩ := by decide +kernel
theorem pd___B_V : parseMethodDescriptor "([B)V" = some ⟨[(.array .byte)], none⟩ := by decide +kernel
theorem pd____B : parseMethodDescriptor "()[B" = some ⟨[], some (.array .byte)⟩ := by decide +kernel
theorem pd___BIBBB_Z : parseMethodDescriptor "([BIBBB)Z" = some ⟨[(.array .byte), .int, .byte, .byte, .byte], some .boolean⟩ := by decide +kernel
set_option maxRecDepth 65536 in
set_option maxHeartbeats 40000000 in
theorem rm0_0 (l : Launch) (Z : State) (a0 : Array Value) (hw : ∀ d ∈ tables_1, d.before a0 Z = true) (ws : List Jvm.Cond) (p1 p2 p3 p4 p5 y0 y1 y2 : Int32) (wU wN : Addr) (cl : Cell) (h0 : Heap) (n0 : Nat) (Z0 : n0 ≤ h0.size) (hn : (p1 &&& (3 : Int32)) = (0 : Int32)) (he0 : p3.toInt8.toInt32 = y0) (he1 : p4.toInt8.toInt32 = y1) (he2 : p5.toInt8.toInt32 = y2) (hb0 : y0.toInt8.toInt32 = y0) (hb1 : y1.toInt8.toInt32 = y1) (hb2 : y2.toInt8.toInt32 = y2) (SU : Sta Z h0 "com/example/coxswain/coxswain/wire/StatusCode" "UNKNOWN" "Lcom/example/coxswain/coxswain/wire/StatusCode;" (.ref wU)) (SN : Sta Z h0 "com/example/coxswain/coxswain/wire/Status" "NO_DETAILS" "[B" (.ref wN)) (Ar : Arr Z h0 wN cl .byte) (Sz : cl.slots.size = (0 : Int32).toNatClampNeg) :
    MetFree l x (head1 (Jvm.Cond.code x code maxLocals ret :: ws) room_1) (fun a U => a = #[(.int p1), (.int p2), (.int p3), (.int p4), (.int p5)] ∧ Z.Warmed39 U.vm ∧ U.heap = h0) (fun _ _ _ _ _ => True) (fun _ U o U' => ∃ v L, o = .returned v ∧ own_law n0 v U'.heap L ∧ ReturnedEndW U o U' L room_1.cells room_1.slots) := by
  refine MetFree.of_bodySF (plainFor_of_name pn_com_example_coxswain_coxswain_wire_StatusDetailsPinLaw) hisR ?_
  intro p e s m args below meth c s₁ Bd hml0 hP hK
  obtain ⟨rfl, hZ, hh⟩ := hP
  have hx := Bd.exec
  have hby := Bd.bytes
  have hml : c.maxLocals = 15 := hml0
  have hown : s.vm.findClass "com/example/coxswain/coxswain/wire/StatusDetailsPinLaw" = some m.cls := findClass_of_methodNamed Bd.named
  have hnm := (name_of_methodNamed Bd.named Bd.method).1
  have X0 : Stand p l e room_1 (s.setVm s.vm) m #[(.int p1), (.int p2), (.int p3), (.int p4), (.int p5)] below meth c s₁ [] 0 0 := Stand.of_body Bd
  have e0 : s₁.heap = h0 := by rw [← hh, Bd.state]; rfl
  have N0 := Fr.nil n0
  suffices own_main : own_EndW p e below s (own_law n0) room_1.cells room_1.slots s₁ (mkF m 0 #[.val (.int p1), .val (.int p2), .val (.int p3), .val (.int p4), .val (.int p5), .unset, .unset, .unset, .unset, .unset, .unset, .unset, .unset, .unset, .unset] []) by
    obtain ⟨s₂, o, k1, k2, k3, k4⟩ := own_main
    exact ⟨s₂, o, castTop (ef_rm0_0 m p1 p2 p3 p4 p5) k1, k2, k3, k4⟩
  have hS0 : s.Since s.vm h0.size := (State.WarmedH.refl s).since _
  have hk0 : h0.size ≤ h0.size := Nat.le_refl _
  show own_EndW _ _ _ _ _ _ _ s₁ (mkF m 0 #[.val (.int p1), .val (.int p2), .val (.int p3), .val (.int p4), .val (.int p5), .unset, .unset, .unset, .unset, .unset, .unset, .unset, .unset, .unset, .unset] [])
  refine own_goW (fun t k => XS.iloadN X0.here hx rfl (hb hby at_0) rfl k) ?_
  show own_EndW _ _ _ _ _ _ _ s₁ (mkF m 1 #[.val (.int p1), .val (.int p2), .val (.int p3), .val (.int p4), .val (.int p5), .unset, .unset, .unset, .unset, .unset, .unset, .unset, .unset, .unset, .unset] [(.int p1)])
  refine own_goW (fun t k => XS.iconst X0.here hx rfl (hb hby at_1) k) ?_
  show own_EndW _ _ _ _ _ _ _ s₁ (mkF m 2 #[.val (.int p1), .val (.int p2), .val (.int p3), .val (.int p4), .val (.int p5), .unset, .unset, .unset, .unset, .unset, .unset, .unset, .unset, .unset, .unset] [(.int (3 : Int32)), (.int p1)])
  refine own_goW (fun t k => XS.iand X0.here hx rfl (hb hby at_2) rfl k) ?_
  show own_EndW _ _ _ _ _ _ _ s₁ (mkF m 3 #[.val (.int p1), .val (.int p2), .val (.int p3), .val (.int p4), .val (.int p5), .unset, .unset, .unset, .unset, .unset, .unset, .unset, .unset, .unset, .unset] [(.int (p1 &&& (3 : Int32)))])
  rw [hn]
  show own_EndW _ _ _ _ _ _ _ s₁ (mkF m 3 #[.val (.int p1), .val (.int p2), .val (.int p3), .val (.int p4), .val (.int p5), .unset, .unset, .unset, .unset, .unset, .unset, .unset, .unset, .unset, .unset] [(.int (0 : Int32))])
  refine own_goW (fun t k => XS.istore X0.here hx rfl (hb hby at_3) rfl (l' := #[.val (.int p1), .val (.int p2), .val (.int p3), .val (.int p4), .val (.int p5), .val (.int (0 : Int32)), .unset, .unset, .unset, .unset, .unset, .unset, .unset, .unset, .unset]) rfl k) ?_
  show own_EndW _ _ _ _ _ _ _ s₁ (mkF m 5 #[.val (.int p1), .val (.int p2), .val (.int p3), .val (.int p4), .val (.int p5), .val (.int (0 : Int32)), .unset, .unset, .unset, .unset, .unset, .unset, .unset, .unset, .unset] [])
  refine own_goW (fun t k => XS.iloadN X0.here hx rfl (hb hby at_5) rfl k) ?_
  show own_EndW _ _ _ _ _ _ _ s₁ (mkF m 6 #[.val (.int p1), .val (.int p2), .val (.int p3), .val (.int p4), .val (.int p5), .val (.int (0 : Int32)), .unset, .unset, .unset, .unset, .unset, .unset, .unset, .unset, .unset] [(.int p2)])
  refine own_goW (fun t k => XS.iconst X0.here hx rfl (hb hby at_6) k) ?_
  show own_EndW _ _ _ _ _ _ _ s₁ (mkF m 7 #[.val (.int p1), .val (.int p2), .val (.int p3), .val (.int p4), .val (.int p5), .val (.int (0 : Int32)), .unset, .unset, .unset, .unset, .unset, .unset, .unset, .unset, .unset] [(.int (1 : Int32)), (.int p2)])
  refine own_goW (fun t k => XS.iand X0.here hx rfl (hb hby at_7) rfl k) ?_
  show own_EndW _ _ _ _ _ _ _ s₁ (mkF m 8 #[.val (.int p1), .val (.int p2), .val (.int p3), .val (.int p4), .val (.int p5), .val (.int (0 : Int32)), .unset, .unset, .unset, .unset, .unset, .unset, .unset, .unset, .unset] [(.int (p2 &&& (1 : Int32)))])
  by_cases hc8 : (p2 &&& (1 : Int32)) = (0 : Int32)
  · refine own_goW (fun t k => XS.ifYes X0.here hx rfl (pc0 := 8) (pc' := 15) rfl (hb hby at_8) rfl ((if0 _ _).trans (teq hc8).1) (by decide) (by decide) k) ?_
    show own_EndW _ _ _ _ _ _ _ s₁ (mkF m 15 #[.val (.int p1), .val (.int p2), .val (.int p3), .val (.int p4), .val (.int p5), .val (.int (0 : Int32)), .unset, .unset, .unset, .unset, .unset, .unset, .unset, .unset, .unset] [])
    refine own_goW (fun t k => XS.iconst X0.here hx rfl (hb hby at_15) k) ?_
    show own_EndW _ _ _ _ _ _ _ s₁ (mkF m 16 #[.val (.int p1), .val (.int p2), .val (.int p3), .val (.int p4), .val (.int p5), .val (.int (0 : Int32)), .unset, .unset, .unset, .unset, .unset, .unset, .unset, .unset, .unset] [(.int (0 : Int32))])
    refine own_goW (fun t k => XS.istore X0.here hx rfl (hb hby at_16) rfl (l' := #[.val (.int p1), .val (.int p2), .val (.int p3), .val (.int p4), .val (.int p5), .val (.int (0 : Int32)), .val (.int (0 : Int32)), .unset, .unset, .unset, .unset, .unset, .unset, .unset, .unset]) rfl k) ?_
    show own_EndW _ _ _ _ _ _ _ s₁ (mkF m 18 #[.val (.int p1), .val (.int p2), .val (.int p3), .val (.int p4), .val (.int p5), .val (.int (0 : Int32)), .val (.int (0 : Int32)), .unset, .unset, .unset, .unset, .unset, .unset, .unset, .unset] [])
    refine own_goW (fun t k => XS.iloadN X0.here hx rfl (hb hby at_18) rfl k) ?_
    show own_EndW _ _ _ _ _ _ _ s₁ (mkF m 19 #[.val (.int p1), .val (.int p2), .val (.int p3), .val (.int p4), .val (.int p5), .val (.int (0 : Int32)), .val (.int (0 : Int32)), .unset, .unset, .unset, .unset, .unset, .unset, .unset, .unset] [(.int p3)])
    refine own_goW (fun t k => XS.i2b X0.here hx rfl (hb hby at_19) rfl k) ?_
    show own_EndW _ _ _ _ _ _ _ s₁ (mkF m 20 #[.val (.int p1), .val (.int p2), .val (.int p3), .val (.int p4), .val (.int p5), .val (.int (0 : Int32)), .val (.int (0 : Int32)), .unset, .unset, .unset, .unset, .unset, .unset, .unset, .unset] [(.int (p3.toInt8.toInt32))])
    rw [he0]
    refine own_goW (fun t k => XS.istore X0.here hx rfl (hb hby at_20) rfl (l' := #[.val (.int p1), .val (.int p2), .val (.int p3), .val (.int p4), .val (.int p5), .val (.int (0 : Int32)), .val (.int (0 : Int32)), .val (.int y0), .unset, .unset, .unset, .unset, .unset, .unset, .unset]) rfl k) ?_
    show own_EndW _ _ _ _ _ _ _ s₁ (mkF m 22 #[.val (.int p1), .val (.int p2), .val (.int p3), .val (.int p4), .val (.int p5), .val (.int (0 : Int32)), .val (.int (0 : Int32)), .val (.int y0), .unset, .unset, .unset, .unset, .unset, .unset, .unset] [])
    refine own_goW (fun t k => XS.iloadN X0.here hx rfl (hb hby at_22) rfl k) ?_
    show own_EndW _ _ _ _ _ _ _ s₁ (mkF m 23 #[.val (.int p1), .val (.int p2), .val (.int p3), .val (.int p4), .val (.int p5), .val (.int (0 : Int32)), .val (.int (0 : Int32)), .val (.int y0), .unset, .unset, .unset, .unset, .unset, .unset, .unset] [(.int p4)])
    refine own_goW (fun t k => XS.i2b X0.here hx rfl (hb hby at_23) rfl k) ?_
    show own_EndW _ _ _ _ _ _ _ s₁ (mkF m 24 #[.val (.int p1), .val (.int p2), .val (.int p3), .val (.int p4), .val (.int p5), .val (.int (0 : Int32)), .val (.int (0 : Int32)), .val (.int y0), .unset, .unset, .unset, .unset, .unset, .unset, .unset] [(.int (p4.toInt8.toInt32))])
    rw [he1]
    refine own_goW (fun t k => XS.istore X0.here hx rfl (hb hby at_24) rfl (l' := #[.val (.int p1), .val (.int p2), .val (.int p3), .val (.int p4), .val (.int p5), .val (.int (0 : Int32)), .val (.int (0 : Int32)), .val (.int y0), .val (.int y1), .unset, .unset, .unset, .unset, .unset, .unset]) rfl k) ?_
    show own_EndW _ _ _ _ _ _ _ s₁ (mkF m 26 #[.val (.int p1), .val (.int p2), .val (.int p3), .val (.int p4), .val (.int p5), .val (.int (0 : Int32)), .val (.int (0 : Int32)), .val (.int y0), .val (.int y1), .unset, .unset, .unset, .unset, .unset, .unset] [])
    refine own_goW (fun t k => XS.iload X0.here hx rfl (hb hby at_26) rfl k) ?_
    show own_EndW _ _ _ _ _ _ _ s₁ (mkF m 28 #[.val (.int p1), .val (.int p2), .val (.int p3), .val (.int p4), .val (.int p5), .val (.int (0 : Int32)), .val (.int (0 : Int32)), .val (.int y0), .val (.int y1), .unset, .unset, .unset, .unset, .unset, .unset] [(.int p5)])
    refine own_goW (fun t k => XS.i2b X0.here hx rfl (hb hby at_28) rfl k) ?_
    show own_EndW _ _ _ _ _ _ _ s₁ (mkF m 29 #[.val (.int p1), .val (.int p2), .val (.int p3), .val (.int p4), .val (.int p5), .val (.int (0 : Int32)), .val (.int (0 : Int32)), .val (.int y0), .val (.int y1), .unset, .unset, .unset, .unset, .unset, .unset] [(.int (p5.toInt8.toInt32))])
    rw [he2]
    refine own_goW (fun t k => XS.istore X0.here hx rfl (hb hby at_29) rfl (l' := #[.val (.int p1), .val (.int p2), .val (.int p3), .val (.int p4), .val (.int p5), .val (.int (0 : Int32)), .val (.int (0 : Int32)), .val (.int y0), .val (.int y1), .val (.int y2), .unset, .unset, .unset, .unset, .unset]) rfl k) ?_
    show own_EndW _ _ _ _ _ _ _ s₁ (mkF m 31 #[.val (.int p1), .val (.int p2), .val (.int p3), .val (.int p4), .val (.int p5), .val (.int (0 : Int32)), .val (.int (0 : Int32)), .val (.int y0), .val (.int y1), .val (.int y2), .unset, .unset, .unset, .unset, .unset] [])
    refine own_goW (fun t k => XS.iload X0.here hx rfl (hb hby at_31) rfl k) ?_
    show own_EndW _ _ _ _ _ _ _ s₁ (mkF m 33 #[.val (.int p1), .val (.int p2), .val (.int p3), .val (.int p4), .val (.int p5), .val (.int (0 : Int32)), .val (.int (0 : Int32)), .val (.int y0), .val (.int y1), .val (.int y2), .unset, .unset, .unset, .unset, .unset] [(.int (0 : Int32))])
    obtain ⟨T133, h133, k133, X133, e133, E133, A133, B133, st133⟩ := newPE X0 hx hZ (hw _ (List.mem_of_getElem? (i := 0) rfl)) e0 (g := (mkF m 33 #[.val (.int p1), .val (.int p2), .val (.int p3), .val (.int p4), .val (.int p5), .val (.int (0 : Int32)), .val (.int (0 : Int32)), .val (.int y0), .val (.int y1), .val (.int y2), .unset, .unset, .unset, .unset, .unset] [(.int (0 : Int32))])) rfl (hb hby at_33) rfl (by decide) (cap := 0) (by decide) (by decide) (by decide) (by decide) (ad := "[B") (by decide)
    obtain ⟨b133, g133⟩ : ∃ z, z = h0.size := ⟨_, rfl⟩
    rw [← g133] at A133 B133 st133
    have g_b133 : n0 ≤ b133 := Nat.le_trans Z0 (Nat.le_of_eq g133.symm)
    have sz_b133 : h0.size ≤ b133 := Nat.le_trans (Keep.refl h0 []).1 (Nat.le_of_eq g133.symm)
    have V133 : Arv Z h133 b133 k133 .byte (0 : Int32) [] (.int (0 : Int32)) := (Arv.new A133 (by decide)).pad (pad_rep [] (.int (0 : Int32)) 0)
    have K134 : Keep h0 h133 [] := (Keep.refl h0 []).ext E133
    refine own_goW st133 ?_
    show own_EndW _ _ _ _ _ _ _ T133 (mkF m 35 #[.val (.int p1), .val (.int p2), .val (.int p3), .val (.int p4), .val (.int p5), .val (.int (0 : Int32)), .val (.int (0 : Int32)), .val (.int y0), .val (.int y1), .val (.int y2), .unset, .unset, .unset, .unset, .unset] [(.ref b133)])
    refine own_goW (fun t k => XS.astore X133.here hx rfl (hb hby at_35) rfl rfl (l' := #[.val (.int p1), .val (.int p2), .val (.int p3), .val (.int p4), .val (.int p5), .val (.int (0 : Int32)), .val (.int (0 : Int32)), .val (.int y0), .val (.int y1), .val (.int y2), .val (.ref b133), .unset, .unset, .unset, .unset]) rfl k) ?_
    show own_EndW _ _ _ _ _ _ _ T133 (mkF m 37 #[.val (.int p1), .val (.int p2), .val (.int p3), .val (.int p4), .val (.int p5), .val (.int (0 : Int32)), .val (.int (0 : Int32)), .val (.int y0), .val (.int y1), .val (.int y2), .val (.ref b133), .unset, .unset, .unset, .unset] [])
    refine own_goW (fun t k => XS.iload X133.here hx rfl (hb hby at_37) rfl k) ?_
    show own_EndW _ _ _ _ _ _ _ T133 (mkF m 39 #[.val (.int p1), .val (.int p2), .val (.int p3), .val (.int p4), .val (.int p5), .val (.int (0 : Int32)), .val (.int (0 : Int32)), .val (.int y0), .val (.int y1), .val (.int y2), .val (.ref b133), .unset, .unset, .unset, .unset] [(.int (0 : Int32))])
    refine own_goW (fun t k => XS.ifYes X133.here hx rfl (pc0 := 39) (pc' := 48) rfl (hb hby at_39) rfl ((if0 _ _).trans (flt (by decide : ¬ ((0 : Int32) < (0 : Int32)))).2.2.2) (by decide) (by decide) k) ?_
    show own_EndW _ _ _ _ _ _ _ T133 (mkF m 48 #[.val (.int p1), .val (.int p2), .val (.int p3), .val (.int p4), .val (.int p5), .val (.int (0 : Int32)), .val (.int (0 : Int32)), .val (.int y0), .val (.int y1), .val (.int y2), .val (.ref b133), .unset, .unset, .unset, .unset] [])
    refine own_goW (fun t k => XS.iload X133.here hx rfl (hb hby at_48) rfl k) ?_
    show own_EndW _ _ _ _ _ _ _ T133 (mkF m 50 #[.val (.int p1), .val (.int p2), .val (.int p3), .val (.int p4), .val (.int p5), .val (.int (0 : Int32)), .val (.int (0 : Int32)), .val (.int y0), .val (.int y1), .val (.int y2), .val (.ref b133), .unset, .unset, .unset, .unset] [(.int (0 : Int32))])
    refine own_goW (fun t k => XS.iconst X133.here hx rfl (hb hby at_50) k) ?_
    show own_EndW _ _ _ _ _ _ _ T133 (mkF m 51 #[.val (.int p1), .val (.int p2), .val (.int p3), .val (.int p4), .val (.int p5), .val (.int (0 : Int32)), .val (.int (0 : Int32)), .val (.int y0), .val (.int y1), .val (.int y2), .val (.ref b133), .unset, .unset, .unset, .unset] [(.int (1 : Int32)), (.int (0 : Int32))])
    refine own_goW (fun t k => XS.icmpYes X133.here hx rfl (pc0 := 51) (pc' := 60) rfl (hb hby at_51) rfl (flt (by decide : ¬ ((1 : Int32) < (0 : Int32)))).2.2.2 (by decide) (by decide) k) ?_
    show own_EndW _ _ _ _ _ _ _ T133 (mkF m 60 #[.val (.int p1), .val (.int p2), .val (.int p3), .val (.int p4), .val (.int p5), .val (.int (0 : Int32)), .val (.int (0 : Int32)), .val (.int y0), .val (.int y1), .val (.int y2), .val (.ref b133), .unset, .unset, .unset, .unset] [])
    refine own_goW (fun t k => XS.iload X133.here hx rfl (hb hby at_60) rfl k) ?_
    show own_EndW _ _ _ _ _ _ _ T133 (mkF m 62 #[.val (.int p1), .val (.int p2), .val (.int p3), .val (.int p4), .val (.int p5), .val (.int (0 : Int32)), .val (.int (0 : Int32)), .val (.int y0), .val (.int y1), .val (.int y2), .val (.ref b133), .unset, .unset, .unset, .unset] [(.int (0 : Int32))])
    refine own_goW (fun t k => XS.iconst X133.here hx rfl (hb hby at_62) k) ?_
    show own_EndW _ _ _ _ _ _ _ T133 (mkF m 63 #[.val (.int p1), .val (.int p2), .val (.int p3), .val (.int p4), .val (.int p5), .val (.int (0 : Int32)), .val (.int (0 : Int32)), .val (.int y0), .val (.int y1), .val (.int y2), .val (.ref b133), .unset, .unset, .unset, .unset] [(.int (2 : Int32)), (.int (0 : Int32))])
    refine own_goW (fun t k => XS.icmpYes X133.here hx rfl (pc0 := 63) (pc' := 72) rfl (hb hby at_63) rfl (flt (by decide : ¬ ((2 : Int32) < (0 : Int32)))).2.2.2 (by decide) (by decide) k) ?_
    show own_EndW _ _ _ _ _ _ _ T133 (mkF m 72 #[.val (.int p1), .val (.int p2), .val (.int p3), .val (.int p4), .val (.int p5), .val (.int (0 : Int32)), .val (.int (0 : Int32)), .val (.int y0), .val (.int y1), .val (.int y2), .val (.ref b133), .unset, .unset, .unset, .unset] [])
    obtain ⟨T135, h135, X135, e135, E135, A135, D135, -, st135⟩ := newO X133 hx hZ hown (hw _ (List.mem_of_getElem? (i := 1) rfl)) (hw _ (List.mem_of_getElem? (i := 2) rfl)) (hw _ (List.mem_of_getElem? (i := 3) rfl)) e133 (g := (mkF m 72 #[.val (.int p1), .val (.int p2), .val (.int p3), .val (.int p4), .val (.int p5), .val (.int (0 : Int32)), .val (.int (0 : Int32)), .val (.int y0), .val (.int y1), .val (.int y2), .val (.ref b133), .unset, .unset, .unset, .unset] [])) rfl (hb hby at_72) (by decide) (by decide)
    obtain ⟨b135, g135⟩ : ∃ z, z = h133.size := ⟨_, rfl⟩
    rw [← g135] at A135 D135 st135
    have ne_b133_b135 : b133 ≠ b135 := Nat.ne_of_lt (Nat.lt_of_lt_of_le V133.lt (Nat.le_of_eq g135.symm))
    have g_b135 : n0 ≤ b135 := Nat.le_trans (Nat.le_trans Z0 E133.1) (Nat.le_of_eq g135.symm)
    have sz_b135 : h0.size ≤ b135 := Nat.le_trans K134.1 (Nat.le_of_eq g135.symm)
    have F135_code : Fld Z h135 b135 "com/example/coxswain/coxswain/wire/Status" "code" "Lcom/example/coxswain/coxswain/wire/StatusCode;" .null := D135 (Or.inr (hw _ (List.mem_of_getElem? (i := 33) rfl))) (ty := (.object "com/example/coxswain/coxswain/wire/StatusCode")) (by decide)
    have F135_description : Fld Z h135 b135 "com/example/coxswain/coxswain/wire/Status" "description" "Ljava/lang/String;" .null := D135 (Or.inr (hw _ (List.mem_of_getElem? (i := 35) rfl))) (ty := (.object "java/lang/String")) (by decide)
    have F135_details : Fld Z h135 b135 "com/example/coxswain/coxswain/wire/Status" "details" "[B" .null := D135 (Or.inr (hw _ (List.mem_of_getElem? (i := 37) rfl))) (ty := (.array .byte)) (by decide)
    have K136 : Keep h0 h135 [] := K134.ext E135
    refine own_goW st135 ?_
    show own_EndW _ _ _ _ _ _ _ T135 (mkF m 75 #[.val (.int p1), .val (.int p2), .val (.int p3), .val (.int p4), .val (.int p5), .val (.int (0 : Int32)), .val (.int (0 : Int32)), .val (.int y0), .val (.int y1), .val (.int y2), .val (.ref b133), .unset, .unset, .unset, .unset] [(.ref b135)])
    refine own_goW (fun t k => XS.dup X135.here hx rfl (hb hby at_75) rfl rfl k) ?_
    show own_EndW _ _ _ _ _ _ _ T135 (mkF m 76 #[.val (.int p1), .val (.int p2), .val (.int p3), .val (.int p4), .val (.int p5), .val (.int (0 : Int32)), .val (.int (0 : Int32)), .val (.int y0), .val (.int y1), .val (.int y2), .val (.ref b133), .unset, .unset, .unset, .unset] [(.ref b135), (.ref b135)])
    obtain ⟨T137, X137, e137, st137⟩ := getS2 X135 hx hZ hown (host := "") (Or.inl (hw _ (List.mem_of_getElem? (i := 4) rfl))) Via.refl e135 (own_StaK SU K136) (g := (mkF m 76 #[.val (.int p1), .val (.int p2), .val (.int p3), .val (.int p4), .val (.int p5), .val (.int (0 : Int32)), .val (.int (0 : Int32)), .val (.int y0), .val (.int y1), .val (.int y2), .val (.ref b133), .unset, .unset, .unset, .unset] [(.ref b135), (.ref b135)])) rfl (hb hby at_76)
    refine own_goW st137 ?_
    show own_EndW _ _ _ _ _ _ _ T137 (mkF m 79 #[.val (.int p1), .val (.int p2), .val (.int p3), .val (.int p4), .val (.int p5), .val (.int (0 : Int32)), .val (.int (0 : Int32)), .val (.int y0), .val (.int y1), .val (.int y2), .val (.ref b133), .unset, .unset, .unset, .unset] [(.ref wU), (.ref b135), (.ref b135)])
    refine own_goW (fun t k => XS.aconstNull X137.here hx rfl (hb hby at_79) k) ?_
    show own_EndW _ _ _ _ _ _ _ T137 (mkF m 80 #[.val (.int p1), .val (.int p2), .val (.int p3), .val (.int p4), .val (.int p5), .val (.int (0 : Int32)), .val (.int (0 : Int32)), .val (.int y0), .val (.int y1), .val (.int y2), .val (.ref b133), .unset, .unset, .unset, .unset] [.null, (.ref wU), (.ref b135), (.ref b135)])
    refine own_goW (fun t k => XS.iload X137.here hx rfl (hb hby at_80) rfl k) ?_
    show own_EndW _ _ _ _ _ _ _ T137 (mkF m 82 #[.val (.int p1), .val (.int p2), .val (.int p3), .val (.int p4), .val (.int p5), .val (.int (0 : Int32)), .val (.int (0 : Int32)), .val (.int y0), .val (.int y1), .val (.int y2), .val (.ref b133), .unset, .unset, .unset, .unset] [(.int (0 : Int32)), .null, (.ref wU), (.ref b135), (.ref b135)])
    refine own_goW (fun t k => XS.ifYes X137.here hx rfl (pc0 := 82) (pc' := 89) rfl (hb hby at_82) rfl ((if0 _ _).trans (teq (by decide : (0 : Int32) = (0 : Int32))).1) (by decide) (by decide) k) ?_
    show own_EndW _ _ _ _ _ _ _ T137 (mkF m 89 #[.val (.int p1), .val (.int p2), .val (.int p3), .val (.int p4), .val (.int p5), .val (.int (0 : Int32)), .val (.int (0 : Int32)), .val (.int y0), .val (.int y1), .val (.int y2), .val (.ref b133), .unset, .unset, .unset, .unset] [.null, (.ref wU), (.ref b135), (.ref b135)])
    refine own_goW (fun t k => XS.aload X137.here hx rfl (hb hby at_89) rfl rfl k) ?_
    show own_EndW _ _ _ _ _ _ _ T137 (mkF m 91 #[.val (.int p1), .val (.int p2), .val (.int p3), .val (.int p4), .val (.int p5), .val (.int (0 : Int32)), .val (.int (0 : Int32)), .val (.int y0), .val (.int y1), .val (.int y2), .val (.ref b133), .unset, .unset, .unset, .unset] [(.ref b133), .null, (.ref wU), (.ref b135), (.ref b135)])
    obtain ⟨v138, T138, L138, X138, hQ138, hS138, hZ, hown, st138⟩ := own_callNW (y := (⟨"com/example/coxswain/coxswain/wire/Status", "<init>", "(Lcom/example/coxswain/coxswain/wire/StatusCode;Ljava/lang/String;[B)V"⟩ : MethodName)) X137 hx hZ hown (hw _ (List.mem_of_getElem? (i := 7) rfl)) (hw _ (List.mem_of_getElem? (i := 8) rfl)) (hw _ (List.mem_of_getElem? (i := 9) rfl)) (by decide) (hw _ (List.mem_of_getElem? (i := 3) rfl)) (rmI0 l Z a0 hw [] b135 wU b133 wN k133 h135 n0 (Nat.le_trans (Nat.le_trans Z0 E133.1) E135.1) A135 g_b135 F135_code F135_description F135_details (own_StaK SN K136) (V133.ext E135) (Ne.symm ne_b133_b135)) e137 (W := 1) (by decide) (by decide) (g := (mkF m 91 #[.val (.int p1), .val (.int p2), .val (.int p3), .val (.int p4), .val (.int p5), .val (.int (0 : Int32)), .val (.int (0 : Int32)), .val (.int y0), .val (.int y1), .val (.int y2), .val (.ref b133), .unset, .unset, .unset, .unset] [(.ref b133), .null, (.ref wU), (.ref b135), (.ref b135)])) rfl (by rw [hml]; rfl) (argsL := [(.ref wU), .null, (.ref b133)]) (rest := [(.ref b135)]) (a := b135) rfl rfl (lenOf pd__Lcom_example_coxswain_coxswain_wire_StatusCode_Ljava_lang_String__B_V rfl) rfl (by show 2 * 0 + _ ≤ _; exact Nat.le_of_eq rfl) (hb hby at_91) (by decide) (by decide)
    obtain ⟨rfl, N138q, Kc138, Ec138, Fd138⟩ := hQ138
    have N138 := Fr.app N0 N138q
    have K138 : Keep h0 T138.heap [] := K136.trans Kc138 (fun x hx => by cases List.mem_singleton.mp hx; exact Or.inr sz_b135)
    refine own_goW st138 ?_
    show own_EndW _ _ _ _ _ _ _ T138 (mkF m 94 #[.val (.int p1), .val (.int p2), .val (.int p3), .val (.int p4), .val (.int p5), .val (.int (0 : Int32)), .val (.int (0 : Int32)), .val (.int y0), .val (.int y1), .val (.int y2), .val (.ref b133), .unset, .unset, .unset, .unset] [(.ref b135)])
    refine own_goW (fun t k => XS.astore X138.here hx rfl (hb hby at_94) rfl rfl (l' := #[.val (.int p1), .val (.int p2), .val (.int p3), .val (.int p4), .val (.int p5), .val (.int (0 : Int32)), .val (.int (0 : Int32)), .val (.int y0), .val (.int y1), .val (.int y2), .val (.ref b133), .val (.ref b135), .unset, .unset, .unset]) rfl k) ?_
    show own_EndW _ _ _ _ _ _ _ T138 (mkF m 96 #[.val (.int p1), .val (.int p2), .val (.int p3), .val (.int p4), .val (.int p5), .val (.int (0 : Int32)), .val (.int (0 : Int32)), .val (.int y0), .val (.int y1), .val (.int y2), .val (.ref b133), .val (.ref b135), .unset, .unset, .unset] [])
    refine own_goW (fun t k => XS.aload X138.here hx rfl (hb hby at_96) rfl rfl k) ?_
    show own_EndW _ _ _ _ _ _ _ T138 (mkF m 98 #[.val (.int p1), .val (.int p2), .val (.int p3), .val (.int p4), .val (.int p5), .val (.int (0 : Int32)), .val (.int (0 : Int32)), .val (.int y0), .val (.int y1), .val (.int y2), .val (.ref b133), .val (.ref b135), .unset, .unset, .unset] [(.ref b133)])
    obtain ⟨cl139, Ar139, q139, S139, M139, H139, G139⟩ := id ((V133.ext E135).keep Kc138 (ninS ne_b133_b135 nin0))
    obtain ⟨v140, T140, L140, X140, hQ140, st140⟩ := own_callS (y := (⟨"com/example/coxswain/coxswain/wire/StatusDetailsPinLaw", "scramble", "([B)V"⟩ : MethodName)) X138 hx hZ hown (hw _ (List.mem_of_getElem? (i := 38) rfl)) (hw _ (List.mem_of_getElem? (i := 39) rfl)) (hw _ (List.mem_of_getElem? (i := 41) rfl)) (by decide) (hw _ (List.mem_of_getElem? (i := 40) rfl)) (rmS0 l Z a0 hw [] b133 cl139 T138.heap n0 (Nat.le_trans (Nat.le_trans (Nat.le_trans Z0 E133.1) E135.1) Kc138.1) Ar139 S139) rfl (W := 0) (by decide) (by decide) (g := (mkF m 98 #[.val (.int p1), .val (.int p2), .val (.int p3), .val (.int p4), .val (.int p5), .val (.int (0 : Int32)), .val (.int (0 : Int32)), .val (.int y0), .val (.int y1), .val (.int y2), .val (.ref b133), .val (.ref b135), .unset, .unset, .unset] [(.ref b133)])) rfl (by rw [hml]; rfl) (argsL := [(.ref b133)]) (rest := []) rfl (lenOf pd___B_V rfl) rfl (by show 2 * 0 + _ ≤ _; exact Nat.le_of_eq rfl) (hb hby at_98) (by decide) (by decide)
    obtain ⟨rfl, N140q, e140⟩ := hQ140
    have N140 := Fr.app N138 N140q
    refine own_goW st140 ?_
    show own_EndW _ _ _ _ _ _ _ T140 (mkF m 101 #[.val (.int p1), .val (.int p2), .val (.int p3), .val (.int p4), .val (.int p5), .val (.int (0 : Int32)), .val (.int (0 : Int32)), .val (.int y0), .val (.int y1), .val (.int y2), .val (.ref b133), .val (.ref b135), .unset, .unset, .unset] [])
    refine own_goW (fun t k => XS.iload X140.here hx rfl (hb hby at_101) rfl k) ?_
    show own_EndW _ _ _ _ _ _ _ T140 (mkF m 103 #[.val (.int p1), .val (.int p2), .val (.int p3), .val (.int p4), .val (.int p5), .val (.int (0 : Int32)), .val (.int (0 : Int32)), .val (.int y0), .val (.int y1), .val (.int y2), .val (.ref b133), .val (.ref b135), .unset, .unset, .unset] [(.int (0 : Int32))])
    refine own_goW (fun t k => XS.ifYes X140.here hx rfl (pc0 := 103) (pc' := 110) rfl (hb hby at_103) rfl ((if0 _ _).trans (teq (by decide : (0 : Int32) = (0 : Int32))).1) (by decide) (by decide) k) ?_
    show own_EndW _ _ _ _ _ _ _ T140 (mkF m 110 #[.val (.int p1), .val (.int p2), .val (.int p3), .val (.int p4), .val (.int p5), .val (.int (0 : Int32)), .val (.int (0 : Int32)), .val (.int y0), .val (.int y1), .val (.int y2), .val (.ref b133), .val (.ref b135), .unset, .unset, .unset] [])
    refine own_goW (fun t k => XS.iload X140.here hx rfl (hb hby at_110) rfl k) ?_
    show own_EndW _ _ _ _ _ _ _ T140 (mkF m 112 #[.val (.int p1), .val (.int p2), .val (.int p3), .val (.int p4), .val (.int p5), .val (.int (0 : Int32)), .val (.int (0 : Int32)), .val (.int y0), .val (.int y1), .val (.int y2), .val (.ref b133), .val (.ref b135), .unset, .unset, .unset] [(.int (0 : Int32))])
    refine own_goW (fun t k => XS.istore X140.here hx rfl (hb hby at_112) rfl (l' := #[.val (.int p1), .val (.int p2), .val (.int p3), .val (.int p4), .val (.int p5), .val (.int (0 : Int32)), .val (.int (0 : Int32)), .val (.int y0), .val (.int y1), .val (.int y2), .val (.ref b133), .val (.ref b135), .val (.int (0 : Int32)), .unset, .unset]) rfl k) ?_
    show own_EndW _ _ _ _ _ _ _ T140 (mkF m 114 #[.val (.int p1), .val (.int p2), .val (.int p3), .val (.int p4), .val (.int p5), .val (.int (0 : Int32)), .val (.int (0 : Int32)), .val (.int y0), .val (.int y1), .val (.int y2), .val (.ref b133), .val (.ref b135), .val (.int (0 : Int32)), .unset, .unset] [])
    refine own_goW (fun t k => XS.aload X140.here hx rfl (hb hby at_114) rfl rfl k) ?_
    show own_EndW _ _ _ _ _ _ _ T140 (mkF m 116 #[.val (.int p1), .val (.int p2), .val (.int p3), .val (.int p4), .val (.int p5), .val (.int (0 : Int32)), .val (.int (0 : Int32)), .val (.int y0), .val (.int y1), .val (.int y2), .val (.ref b133), .val (.ref b135), .val (.int (0 : Int32)), .unset, .unset] [(.ref b135)])
    obtain ⟨v141, T141, L141, X141, hQ141, st141⟩ := own_callV (y := (⟨"com/example/coxswain/coxswain/wire/Status", "details", "()[B"⟩ : MethodName)) (z := (⟨"com/example/coxswain/coxswain/wire/Status", "details", "()[B"⟩ : MethodName)) X140 hx hZ hown (hw _ (List.mem_of_getElem? (i := 42) rfl)) (hw _ (List.mem_of_getElem? (i := 43) rfl)) (hw _ (List.mem_of_getElem? (i := 45) rfl)) (hw _ (List.mem_of_getElem? (i := 44) rfl)) Ec138 (hw _ (List.mem_of_getElem? (i := 46) rfl)) (by decide) (hw _ (List.mem_of_getElem? (i := 3) rfl)) (rmT0 l Z a0 hw [] b135 wN cl T138.heap n0 (Nat.le_trans (Nat.le_trans (Nat.le_trans Z0 E133.1) E135.1) Kc138.1) Fd138 (own_StaK SN K138) (own_ArrK Ar K138) Sz) e140 (W := 0) (by decide) (by decide) (g := (mkF m 116 #[.val (.int p1), .val (.int p2), .val (.int p3), .val (.int p4), .val (.int p5), .val (.int (0 : Int32)), .val (.int (0 : Int32)), .val (.int y0), .val (.int y1), .val (.int y2), .val (.ref b133), .val (.ref b135), .val (.int (0 : Int32)), .unset, .unset] [(.ref b135)])) rfl (by rw [hml]; rfl) (argsL := []) (rest := []) (b := b135) rfl (notFace_of_selects (args := #[]) (mvT hZ (hw _ (List.mem_of_getElem? (i := 45) rfl)))) (lenOf pd____B rfl) rfl (by show 2 * 0 + _ ≤ _; exact Nat.le_of_eq rfl) (hb hby at_116) (by decide) (by decide)
    obtain ⟨rfl, N141q, e141⟩ := hQ141
    have N141 := Fr.app N140 N141q
    refine own_goW st141 ?_
    show own_EndW _ _ _ _ _ _ _ T141 (mkF m 119 #[.val (.int p1), .val (.int p2), .val (.int p3), .val (.int p4), .val (.int p5), .val (.int (0 : Int32)), .val (.int (0 : Int32)), .val (.int y0), .val (.int y1), .val (.int y2), .val (.ref b133), .val (.ref b135), .val (.int (0 : Int32)), .unset, .unset] [(.ref wN)])
    refine own_goW (fun t k => XS.astore X141.here hx rfl (hb hby at_119) rfl rfl (l' := #[.val (.int p1), .val (.int p2), .val (.int p3), .val (.int p4), .val (.int p5), .val (.int (0 : Int32)), .val (.int (0 : Int32)), .val (.int y0), .val (.int y1), .val (.int y2), .val (.ref b133), .val (.ref b135), .val (.int (0 : Int32)), .val (.ref wN), .unset]) rfl k) ?_
    show own_EndW _ _ _ _ _ _ _ T141 (mkF m 121 #[.val (.int p1), .val (.int p2), .val (.int p3), .val (.int p4), .val (.int p5), .val (.int (0 : Int32)), .val (.int (0 : Int32)), .val (.int y0), .val (.int y1), .val (.int y2), .val (.ref b133), .val (.ref b135), .val (.int (0 : Int32)), .val (.ref wN), .unset] [])
    refine own_goW (fun t k => XS.aload X141.here hx rfl (hb hby at_121) rfl rfl k) ?_
    show own_EndW _ _ _ _ _ _ _ T141 (mkF m 123 #[.val (.int p1), .val (.int p2), .val (.int p3), .val (.int p4), .val (.int p5), .val (.int (0 : Int32)), .val (.int (0 : Int32)), .val (.int y0), .val (.int y1), .val (.int y2), .val (.ref b133), .val (.ref b135), .val (.int (0 : Int32)), .val (.ref wN), .unset] [(.ref wN)])
    refine own_goW (fun t k => XS.iload X141.here hx rfl (hb hby at_123) rfl k) ?_
    show own_EndW _ _ _ _ _ _ _ T141 (mkF m 125 #[.val (.int p1), .val (.int p2), .val (.int p3), .val (.int p4), .val (.int p5), .val (.int (0 : Int32)), .val (.int (0 : Int32)), .val (.int y0), .val (.int y1), .val (.int y2), .val (.ref b133), .val (.ref b135), .val (.int (0 : Int32)), .val (.ref wN), .unset] [(.int (0 : Int32)), (.ref wN)])
    refine own_goW (fun t k => XS.iload X141.here hx rfl (hb hby at_125) rfl k) ?_
    show own_EndW _ _ _ _ _ _ _ T141 (mkF m 127 #[.val (.int p1), .val (.int p2), .val (.int p3), .val (.int p4), .val (.int p5), .val (.int (0 : Int32)), .val (.int (0 : Int32)), .val (.int y0), .val (.int y1), .val (.int y2), .val (.ref b133), .val (.ref b135), .val (.int (0 : Int32)), .val (.ref wN), .unset] [(.int y0), (.int (0 : Int32)), (.ref wN)])
    refine own_goW (fun t k => XS.iload X141.here hx rfl (hb hby at_127) rfl k) ?_
    show own_EndW _ _ _ _ _ _ _ T141 (mkF m 129 #[.val (.int p1), .val (.int p2), .val (.int p3), .val (.int p4), .val (.int p5), .val (.int (0 : Int32)), .val (.int (0 : Int32)), .val (.int y0), .val (.int y1), .val (.int y2), .val (.ref b133), .val (.ref b135), .val (.int (0 : Int32)), .val (.ref wN), .unset] [(.int y1), (.int y0), (.int (0 : Int32)), (.ref wN)])
    refine own_goW (fun t k => XS.iload X141.here hx rfl (hb hby at_129) rfl k) ?_
    show own_EndW _ _ _ _ _ _ _ T141 (mkF m 131 #[.val (.int p1), .val (.int p2), .val (.int p3), .val (.int p4), .val (.int p5), .val (.int (0 : Int32)), .val (.int (0 : Int32)), .val (.int y0), .val (.int y1), .val (.int y2), .val (.ref b133), .val (.ref b135), .val (.int (0 : Int32)), .val (.ref wN), .unset] [(.int y2), (.int y1), (.int y0), (.int (0 : Int32)), (.ref wN)])
    obtain ⟨v142, T142, L142, X142, hQ142, st142⟩ := own_callS (y := (⟨"com/example/coxswain/coxswain/wire/StatusDetailsPinLaw", "same", "([BIBBB)Z"⟩ : MethodName)) X141 hx hZ hown (hw _ (List.mem_of_getElem? (i := 47) rfl)) (hw _ (List.mem_of_getElem? (i := 48) rfl)) (hw _ (List.mem_of_getElem? (i := 49) rfl)) (by decide) (hw _ (List.mem_of_getElem? (i := 40) rfl)) (rmM0 l Z a0 hw [] wN y0 y1 y2 cl T138.heap n0 (Nat.le_trans (Nat.le_trans (Nat.le_trans Z0 E133.1) E135.1) Kc138.1) (own_ArrK Ar K138) Sz) e141 (W := 0) (by decide) (by decide) (g := (mkF m 131 #[.val (.int p1), .val (.int p2), .val (.int p3), .val (.int p4), .val (.int p5), .val (.int (0 : Int32)), .val (.int (0 : Int32)), .val (.int y0), .val (.int y1), .val (.int y2), .val (.ref b133), .val (.ref b135), .val (.int (0 : Int32)), .val (.ref wN), .unset] [(.int y2), (.int y1), (.int y0), (.int (0 : Int32)), (.ref wN)])) rfl (by rw [hml]; rfl) (argsL := [(.ref wN), (.int (0 : Int32)), (.int y0), (.int y1), (.int y2)]) (rest := []) rfl (lenOf pd___BIBBB_Z rfl) rfl (by show 2 * 0 + _ ≤ _; exact Nat.le_of_eq rfl) (hb hby at_131) (by decide) (by decide)
    obtain ⟨rfl, N142q, e142⟩ := hQ142
    have N142 := Fr.app N141 N142q
    refine own_goW st142 ?_
    show own_EndW _ _ _ _ _ _ _ T142 (mkF m 134 #[.val (.int p1), .val (.int p2), .val (.int p3), .val (.int p4), .val (.int p5), .val (.int (0 : Int32)), .val (.int (0 : Int32)), .val (.int y0), .val (.int y1), .val (.int y2), .val (.ref b133), .val (.ref b135), .val (.int (0 : Int32)), .val (.ref wN), .unset] [(.int (1 : Int32))])
    refine own_goW (fun t k => XS.ifYes X142.here hx rfl (pc0 := 134) (pc' := 139) rfl (hb hby at_134) rfl ((if0 _ _).trans (feq (by decide : ¬ ((1 : Int32) = (0 : Int32)))).2) (by decide) (by decide) k) ?_
    show own_EndW _ _ _ _ _ _ _ T142 (mkF m 139 #[.val (.int p1), .val (.int p2), .val (.int p3), .val (.int p4), .val (.int p5), .val (.int (0 : Int32)), .val (.int (0 : Int32)), .val (.int y0), .val (.int y1), .val (.int y2), .val (.ref b133), .val (.ref b135), .val (.int (0 : Int32)), .val (.ref wN), .unset] [])
    refine own_goW (fun t k => XS.aload X142.here hx rfl (hb hby at_139) rfl rfl k) ?_
    show own_EndW _ _ _ _ _ _ _ T142 (mkF m 141 #[.val (.int p1), .val (.int p2), .val (.int p3), .val (.int p4), .val (.int p5), .val (.int (0 : Int32)), .val (.int (0 : Int32)), .val (.int y0), .val (.int y1), .val (.int y2), .val (.ref b133), .val (.ref b135), .val (.int (0 : Int32)), .val (.ref wN), .unset] [(.ref wN)])
    obtain ⟨v143, T143, L143, X143, hQ143, st143⟩ := own_callS (y := (⟨"com/example/coxswain/coxswain/wire/StatusDetailsPinLaw", "scramble", "([B)V"⟩ : MethodName)) X142 hx hZ hown (hw _ (List.mem_of_getElem? (i := 38) rfl)) (hw _ (List.mem_of_getElem? (i := 39) rfl)) (hw _ (List.mem_of_getElem? (i := 41) rfl)) (by decide) (hw _ (List.mem_of_getElem? (i := 40) rfl)) (rmS0 l Z a0 hw [] wN cl T138.heap n0 (Nat.le_trans (Nat.le_trans (Nat.le_trans Z0 E133.1) E135.1) Kc138.1) (own_ArrK Ar K138) Sz) e142 (W := 0) (by decide) (by decide) (g := (mkF m 141 #[.val (.int p1), .val (.int p2), .val (.int p3), .val (.int p4), .val (.int p5), .val (.int (0 : Int32)), .val (.int (0 : Int32)), .val (.int y0), .val (.int y1), .val (.int y2), .val (.ref b133), .val (.ref b135), .val (.int (0 : Int32)), .val (.ref wN), .unset] [(.ref wN)])) rfl (by rw [hml]; rfl) (argsL := [(.ref wN)]) (rest := []) rfl (lenOf pd___B_V rfl) rfl (by show 2 * 0 + _ ≤ _; exact Nat.le_of_eq rfl) (hb hby at_141) (by decide) (by decide)
    obtain ⟨rfl, N143q, e143⟩ := hQ143
    have N143 := Fr.app N142 N143q
    refine own_goW st143 ?_
    show own_EndW _ _ _ _ _ _ _ T143 (mkF m 144 #[.val (.int p1), .val (.int p2), .val (.int p3), .val (.int p4), .val (.int p5), .val (.int (0 : Int32)), .val (.int (0 : Int32)), .val (.int y0), .val (.int y1), .val (.int y2), .val (.ref b133), .val (.ref b135), .val (.int (0 : Int32)), .val (.ref wN), .unset] [])
    refine own_goW (fun t k => XS.aload X143.here hx rfl (hb hby at_144) rfl rfl k) ?_
    show own_EndW _ _ _ _ _ _ _ T143 (mkF m 146 #[.val (.int p1), .val (.int p2), .val (.int p3), .val (.int p4), .val (.int p5), .val (.int (0 : Int32)), .val (.int (0 : Int32)), .val (.int y0), .val (.int y1), .val (.int y2), .val (.ref b133), .val (.ref b135), .val (.int (0 : Int32)), .val (.ref wN), .unset] [(.ref b135)])
    obtain ⟨v144, T144, L144, X144, hQ144, st144⟩ := own_callV (y := (⟨"com/example/coxswain/coxswain/wire/Status", "details", "()[B"⟩ : MethodName)) (z := (⟨"com/example/coxswain/coxswain/wire/Status", "details", "()[B"⟩ : MethodName)) X143 hx hZ hown (hw _ (List.mem_of_getElem? (i := 42) rfl)) (hw _ (List.mem_of_getElem? (i := 43) rfl)) (hw _ (List.mem_of_getElem? (i := 45) rfl)) (hw _ (List.mem_of_getElem? (i := 44) rfl)) Ec138 (hw _ (List.mem_of_getElem? (i := 46) rfl)) (by decide) (hw _ (List.mem_of_getElem? (i := 3) rfl)) (rmT0 l Z a0 hw [] b135 wN cl T138.heap n0 (Nat.le_trans (Nat.le_trans (Nat.le_trans Z0 E133.1) E135.1) Kc138.1) Fd138 (own_StaK SN K138) (own_ArrK Ar K138) Sz) e143 (W := 0) (by decide) (by decide) (g := (mkF m 146 #[.val (.int p1), .val (.int p2), .val (.int p3), .val (.int p4), .val (.int p5), .val (.int (0 : Int32)), .val (.int (0 : Int32)), .val (.int y0), .val (.int y1), .val (.int y2), .val (.ref b133), .val (.ref b135), .val (.int (0 : Int32)), .val (.ref wN), .unset] [(.ref b135)])) rfl (by rw [hml]; rfl) (argsL := []) (rest := []) (b := b135) rfl (notFace_of_selects (args := #[]) (mvT hZ (hw _ (List.mem_of_getElem? (i := 45) rfl)))) (lenOf pd____B rfl) rfl (by show 2 * 0 + _ ≤ _; exact Nat.le_of_eq rfl) (hb hby at_146) (by decide) (by decide)
    obtain ⟨rfl, N144q, e144⟩ := hQ144
    have N144 := Fr.app N143 N144q
    refine own_goW st144 ?_
    show own_EndW _ _ _ _ _ _ _ T144 (mkF m 149 #[.val (.int p1), .val (.int p2), .val (.int p3), .val (.int p4), .val (.int p5), .val (.int (0 : Int32)), .val (.int (0 : Int32)), .val (.int y0), .val (.int y1), .val (.int y2), .val (.ref b133), .val (.ref b135), .val (.int (0 : Int32)), .val (.ref wN), .unset] [(.ref wN)])
    refine own_goW (fun t k => XS.astore X144.here hx rfl (hb hby at_149) rfl rfl (l' := #[.val (.int p1), .val (.int p2), .val (.int p3), .val (.int p4), .val (.int p5), .val (.int (0 : Int32)), .val (.int (0 : Int32)), .val (.int y0), .val (.int y1), .val (.int y2), .val (.ref b133), .val (.ref b135), .val (.int (0 : Int32)), .val (.ref wN), .val (.ref wN)]) rfl k) ?_
    show own_EndW _ _ _ _ _ _ _ T144 (mkF m 151 #[.val (.int p1), .val (.int p2), .val (.int p3), .val (.int p4), .val (.int p5), .val (.int (0 : Int32)), .val (.int (0 : Int32)), .val (.int y0), .val (.int y1), .val (.int y2), .val (.ref b133), .val (.ref b135), .val (.int (0 : Int32)), .val (.ref wN), .val (.ref wN)] [])
    refine own_goW (fun t k => XS.aload X144.here hx rfl (hb hby at_151) rfl rfl k) ?_
    show own_EndW _ _ _ _ _ _ _ T144 (mkF m 153 #[.val (.int p1), .val (.int p2), .val (.int p3), .val (.int p4), .val (.int p5), .val (.int (0 : Int32)), .val (.int (0 : Int32)), .val (.int y0), .val (.int y1), .val (.int y2), .val (.ref b133), .val (.ref b135), .val (.int (0 : Int32)), .val (.ref wN), .val (.ref wN)] [(.ref wN)])
    refine own_goW (fun t k => XS.iload X144.here hx rfl (hb hby at_153) rfl k) ?_
    show own_EndW _ _ _ _ _ _ _ T144 (mkF m 155 #[.val (.int p1), .val (.int p2), .val (.int p3), .val (.int p4), .val (.int p5), .val (.int (0 : Int32)), .val (.int (0 : Int32)), .val (.int y0), .val (.int y1), .val (.int y2), .val (.ref b133), .val (.ref b135), .val (.int (0 : Int32)), .val (.ref wN), .val (.ref wN)] [(.int (0 : Int32)), (.ref wN)])
    refine own_goW (fun t k => XS.iload X144.here hx rfl (hb hby at_155) rfl k) ?_
    show own_EndW _ _ _ _ _ _ _ T144 (mkF m 157 #[.val (.int p1), .val (.int p2), .val (.int p3), .val (.int p4), .val (.int p5), .val (.int (0 : Int32)), .val (.int (0 : Int32)), .val (.int y0), .val (.int y1), .val (.int y2), .val (.ref b133), .val (.ref b135), .val (.int (0 : Int32)), .val (.ref wN), .val (.ref wN)] [(.int y0), (.int (0 : Int32)), (.ref wN)])
    refine own_goW (fun t k => XS.iload X144.here hx rfl (hb hby at_157) rfl k) ?_
    show own_EndW _ _ _ _ _ _ _ T144 (mkF m 159 #[.val (.int p1), .val (.int p2), .val (.int p3), .val (.int p4), .val (.int p5), .val (.int (0 : Int32)), .val (.int (0 : Int32)), .val (.int y0), .val (.int y1), .val (.int y2), .val (.ref b133), .val (.ref b135), .val (.int (0 : Int32)), .val (.ref wN), .val (.ref wN)] [(.int y1), (.int y0), (.int (0 : Int32)), (.ref wN)])
    refine own_goW (fun t k => XS.iload X144.here hx rfl (hb hby at_159) rfl k) ?_
    show own_EndW _ _ _ _ _ _ _ T144 (mkF m 161 #[.val (.int p1), .val (.int p2), .val (.int p3), .val (.int p4), .val (.int p5), .val (.int (0 : Int32)), .val (.int (0 : Int32)), .val (.int y0), .val (.int y1), .val (.int y2), .val (.ref b133), .val (.ref b135), .val (.int (0 : Int32)), .val (.ref wN), .val (.ref wN)] [(.int y2), (.int y1), (.int y0), (.int (0 : Int32)), (.ref wN)])
    obtain ⟨v145, T145, L145, X145, hQ145, st145⟩ := own_callS (y := (⟨"com/example/coxswain/coxswain/wire/StatusDetailsPinLaw", "same", "([BIBBB)Z"⟩ : MethodName)) X144 hx hZ hown (hw _ (List.mem_of_getElem? (i := 47) rfl)) (hw _ (List.mem_of_getElem? (i := 48) rfl)) (hw _ (List.mem_of_getElem? (i := 49) rfl)) (by decide) (hw _ (List.mem_of_getElem? (i := 40) rfl)) (rmM0 l Z a0 hw [] wN y0 y1 y2 cl T138.heap n0 (Nat.le_trans (Nat.le_trans (Nat.le_trans Z0 E133.1) E135.1) Kc138.1) (own_ArrK Ar K138) Sz) e144 (W := 0) (by decide) (by decide) (g := (mkF m 161 #[.val (.int p1), .val (.int p2), .val (.int p3), .val (.int p4), .val (.int p5), .val (.int (0 : Int32)), .val (.int (0 : Int32)), .val (.int y0), .val (.int y1), .val (.int y2), .val (.ref b133), .val (.ref b135), .val (.int (0 : Int32)), .val (.ref wN), .val (.ref wN)] [(.int y2), (.int y1), (.int y0), (.int (0 : Int32)), (.ref wN)])) rfl (by rw [hml]; rfl) (argsL := [(.ref wN), (.int (0 : Int32)), (.int y0), (.int y1), (.int y2)]) (rest := []) rfl (lenOf pd___BIBBB_Z rfl) rfl (by show 2 * 0 + _ ≤ _; exact Nat.le_of_eq rfl) (hb hby at_161) (by decide) (by decide)
    obtain ⟨rfl, N145q, e145⟩ := hQ145
    have N145 := Fr.app N144 N145q
    refine own_goW st145 ?_
    show own_EndW _ _ _ _ _ _ _ T145 (mkF m 164 #[.val (.int p1), .val (.int p2), .val (.int p3), .val (.int p4), .val (.int p5), .val (.int (0 : Int32)), .val (.int (0 : Int32)), .val (.int y0), .val (.int y1), .val (.int y2), .val (.ref b133), .val (.ref b135), .val (.int (0 : Int32)), .val (.ref wN), .val (.ref wN)] [(.int (1 : Int32))])
    exact own_retWW X145 hS138 (by rw [e145]; exact (Nat.le_refl T138.heap.size)) hx Bd.returns Bd.notSynchronized rfl (Or.inl ⟨rfl, by simp, _, rfl⟩) (hb hby at_164) ⟨rfl, N145⟩ (by decide) (by decide)
  · refine own_goW (fun t k => XS.ifNo X0.here hx rfl (hb hby at_8) rfl ((if0 _ _).trans (feq hc8).1) k) ?_
    show own_EndW _ _ _ _ _ _ _ s₁ (mkF m 11 #[.val (.int p1), .val (.int p2), .val (.int p3), .val (.int p4), .val (.int p5), .val (.int (0 : Int32)), .unset, .unset, .unset, .unset, .unset, .unset, .unset, .unset, .unset] [])
    refine own_goW (fun t k => XS.iconst X0.here hx rfl (hb hby at_11) k) ?_
    show own_EndW _ _ _ _ _ _ _ s₁ (mkF m 12 #[.val (.int p1), .val (.int p2), .val (.int p3), .val (.int p4), .val (.int p5), .val (.int (0 : Int32)), .unset, .unset, .unset, .unset, .unset, .unset, .unset, .unset, .unset] [(.int (1 : Int32))])
    refine own_goW (fun t k => XS.goto X0.here hx rfl (pc0 := 12) (pc' := 16) rfl (hb hby at_12) (by decide) (by decide) k) ?_
    show own_EndW _ _ _ _ _ _ _ s₁ (mkF m 16 #[.val (.int p1), .val (.int p2), .val (.int p3), .val (.int p4), .val (.int p5), .val (.int (0 : Int32)), .unset, .unset, .unset, .unset, .unset, .unset, .unset, .unset, .unset] [(.int (1 : Int32))])
    refine own_goW (fun t k => XS.istore X0.here hx rfl (hb hby at_16) rfl (l' := #[.val (.int p1), .val (.int p2), .val (.int p3), .val (.int p4), .val (.int p5), .val (.int (0 : Int32)), .val (.int (1 : Int32)), .unset, .unset, .unset, .unset, .unset, .unset, .unset, .unset]) rfl k) ?_
    show own_EndW _ _ _ _ _ _ _ s₁ (mkF m 18 #[.val (.int p1), .val (.int p2), .val (.int p3), .val (.int p4), .val (.int p5), .val (.int (0 : Int32)), .val (.int (1 : Int32)), .unset, .unset, .unset, .unset, .unset, .unset, .unset, .unset] [])
    refine own_goW (fun t k => XS.iloadN X0.here hx rfl (hb hby at_18) rfl k) ?_
    show own_EndW _ _ _ _ _ _ _ s₁ (mkF m 19 #[.val (.int p1), .val (.int p2), .val (.int p3), .val (.int p4), .val (.int p5), .val (.int (0 : Int32)), .val (.int (1 : Int32)), .unset, .unset, .unset, .unset, .unset, .unset, .unset, .unset] [(.int p3)])
    refine own_goW (fun t k => XS.i2b X0.here hx rfl (hb hby at_19) rfl k) ?_
    show own_EndW _ _ _ _ _ _ _ s₁ (mkF m 20 #[.val (.int p1), .val (.int p2), .val (.int p3), .val (.int p4), .val (.int p5), .val (.int (0 : Int32)), .val (.int (1 : Int32)), .unset, .unset, .unset, .unset, .unset, .unset, .unset, .unset] [(.int (p3.toInt8.toInt32))])
    rw [he0]
    refine own_goW (fun t k => XS.istore X0.here hx rfl (hb hby at_20) rfl (l' := #[.val (.int p1), .val (.int p2), .val (.int p3), .val (.int p4), .val (.int p5), .val (.int (0 : Int32)), .val (.int (1 : Int32)), .val (.int y0), .unset, .unset, .unset, .unset, .unset, .unset, .unset]) rfl k) ?_
    show own_EndW _ _ _ _ _ _ _ s₁ (mkF m 22 #[.val (.int p1), .val (.int p2), .val (.int p3), .val (.int p4), .val (.int p5), .val (.int (0 : Int32)), .val (.int (1 : Int32)), .val (.int y0), .unset, .unset, .unset, .unset, .unset, .unset, .unset] [])
    refine own_goW (fun t k => XS.iloadN X0.here hx rfl (hb hby at_22) rfl k) ?_
    show own_EndW _ _ _ _ _ _ _ s₁ (mkF m 23 #[.val (.int p1), .val (.int p2), .val (.int p3), .val (.int p4), .val (.int p5), .val (.int (0 : Int32)), .val (.int (1 : Int32)), .val (.int y0), .unset, .unset, .unset, .unset, .unset, .unset, .unset] [(.int p4)])
    refine own_goW (fun t k => XS.i2b X0.here hx rfl (hb hby at_23) rfl k) ?_
    show own_EndW _ _ _ _ _ _ _ s₁ (mkF m 24 #[.val (.int p1), .val (.int p2), .val (.int p3), .val (.int p4), .val (.int p5), .val (.int (0 : Int32)), .val (.int (1 : Int32)), .val (.int y0), .unset, .unset, .unset, .unset, .unset, .unset, .unset] [(.int (p4.toInt8.toInt32))])
    rw [he1]
    refine own_goW (fun t k => XS.istore X0.here hx rfl (hb hby at_24) rfl (l' := #[.val (.int p1), .val (.int p2), .val (.int p3), .val (.int p4), .val (.int p5), .val (.int (0 : Int32)), .val (.int (1 : Int32)), .val (.int y0), .val (.int y1), .unset, .unset, .unset, .unset, .unset, .unset]) rfl k) ?_
    show own_EndW _ _ _ _ _ _ _ s₁ (mkF m 26 #[.val (.int p1), .val (.int p2), .val (.int p3), .val (.int p4), .val (.int p5), .val (.int (0 : Int32)), .val (.int (1 : Int32)), .val (.int y0), .val (.int y1), .unset, .unset, .unset, .unset, .unset, .unset] [])
    refine own_goW (fun t k => XS.iload X0.here hx rfl (hb hby at_26) rfl k) ?_
    show own_EndW _ _ _ _ _ _ _ s₁ (mkF m 28 #[.val (.int p1), .val (.int p2), .val (.int p3), .val (.int p4), .val (.int p5), .val (.int (0 : Int32)), .val (.int (1 : Int32)), .val (.int y0), .val (.int y1), .unset, .unset, .unset, .unset, .unset, .unset] [(.int p5)])
    refine own_goW (fun t k => XS.i2b X0.here hx rfl (hb hby at_28) rfl k) ?_
    show own_EndW _ _ _ _ _ _ _ s₁ (mkF m 29 #[.val (.int p1), .val (.int p2), .val (.int p3), .val (.int p4), .val (.int p5), .val (.int (0 : Int32)), .val (.int (1 : Int32)), .val (.int y0), .val (.int y1), .unset, .unset, .unset, .unset, .unset, .unset] [(.int (p5.toInt8.toInt32))])
    rw [he2]
    refine own_goW (fun t k => XS.istore X0.here hx rfl (hb hby at_29) rfl (l' := #[.val (.int p1), .val (.int p2), .val (.int p3), .val (.int p4), .val (.int p5), .val (.int (0 : Int32)), .val (.int (1 : Int32)), .val (.int y0), .val (.int y1), .val (.int y2), .unset, .unset, .unset, .unset, .unset]) rfl k) ?_
    show own_EndW _ _ _ _ _ _ _ s₁ (mkF m 31 #[.val (.int p1), .val (.int p2), .val (.int p3), .val (.int p4), .val (.int p5), .val (.int (0 : Int32)), .val (.int (1 : Int32)), .val (.int y0), .val (.int y1), .val (.int y2), .unset, .unset, .unset, .unset, .unset] [])
    refine own_goW (fun t k => XS.iload X0.here hx rfl (hb hby at_31) rfl k) ?_
    show own_EndW _ _ _ _ _ _ _ s₁ (mkF m 33 #[.val (.int p1), .val (.int p2), .val (.int p3), .val (.int p4), .val (.int p5), .val (.int (0 : Int32)), .val (.int (1 : Int32)), .val (.int y0), .val (.int y1), .val (.int y2), .unset, .unset, .unset, .unset, .unset] [(.int (0 : Int32))])
    obtain ⟨T146, h146, k146, X146, e146, E146, A146, B146, st146⟩ := newPE X0 hx hZ (hw _ (List.mem_of_getElem? (i := 0) rfl)) e0 (g := (mkF m 33 #[.val (.int p1), .val (.int p2), .val (.int p3), .val (.int p4), .val (.int p5), .val (.int (0 : Int32)), .val (.int (1 : Int32)), .val (.int y0), .val (.int y1), .val (.int y2), .unset, .unset, .unset, .unset, .unset] [(.int (0 : Int32))])) rfl (hb hby at_33) rfl (by decide) (cap := 0) (by decide) (by decide) (by decide) (by decide) (ad := "[B") (by decide)
    obtain ⟨b146, g146⟩ : ∃ z, z = h0.size := ⟨_, rfl⟩
    rw [← g146] at A146 B146 st146
    have g_b146 : n0 ≤ b146 := Nat.le_trans Z0 (Nat.le_of_eq g146.symm)
    have sz_b146 : h0.size ≤ b146 := Nat.le_trans (Keep.refl h0 []).1 (Nat.le_of_eq g146.symm)
    have V146 : Arv Z h146 b146 k146 .byte (0 : Int32) [] (.int (0 : Int32)) := (Arv.new A146 (by decide)).pad (pad_rep [] (.int (0 : Int32)) 0)
    have K147 : Keep h0 h146 [] := (Keep.refl h0 []).ext E146
    refine own_goW st146 ?_
    show own_EndW _ _ _ _ _ _ _ T146 (mkF m 35 #[.val (.int p1), .val (.int p2), .val (.int p3), .val (.int p4), .val (.int p5), .val (.int (0 : Int32)), .val (.int (1 : Int32)), .val (.int y0), .val (.int y1), .val (.int y2), .unset, .unset, .unset, .unset, .unset] [(.ref b146)])
    refine own_goW (fun t k => XS.astore X146.here hx rfl (hb hby at_35) rfl rfl (l' := #[.val (.int p1), .val (.int p2), .val (.int p3), .val (.int p4), .val (.int p5), .val (.int (0 : Int32)), .val (.int (1 : Int32)), .val (.int y0), .val (.int y1), .val (.int y2), .val (.ref b146), .unset, .unset, .unset, .unset]) rfl k) ?_
    show own_EndW _ _ _ _ _ _ _ T146 (mkF m 37 #[.val (.int p1), .val (.int p2), .val (.int p3), .val (.int p4), .val (.int p5), .val (.int (0 : Int32)), .val (.int (1 : Int32)), .val (.int y0), .val (.int y1), .val (.int y2), .val (.ref b146), .unset, .unset, .unset, .unset] [])
    refine own_goW (fun t k => XS.iload X146.here hx rfl (hb hby at_37) rfl k) ?_
    show own_EndW _ _ _ _ _ _ _ T146 (mkF m 39 #[.val (.int p1), .val (.int p2), .val (.int p3), .val (.int p4), .val (.int p5), .val (.int (0 : Int32)), .val (.int (1 : Int32)), .val (.int y0), .val (.int y1), .val (.int y2), .val (.ref b146), .unset, .unset, .unset, .unset] [(.int (0 : Int32))])
    refine own_goW (fun t k => XS.ifYes X146.here hx rfl (pc0 := 39) (pc' := 48) rfl (hb hby at_39) rfl ((if0 _ _).trans (flt (by decide : ¬ ((0 : Int32) < (0 : Int32)))).2.2.2) (by decide) (by decide) k) ?_
    show own_EndW _ _ _ _ _ _ _ T146 (mkF m 48 #[.val (.int p1), .val (.int p2), .val (.int p3), .val (.int p4), .val (.int p5), .val (.int (0 : Int32)), .val (.int (1 : Int32)), .val (.int y0), .val (.int y1), .val (.int y2), .val (.ref b146), .unset, .unset, .unset, .unset] [])
    refine own_goW (fun t k => XS.iload X146.here hx rfl (hb hby at_48) rfl k) ?_
    show own_EndW _ _ _ _ _ _ _ T146 (mkF m 50 #[.val (.int p1), .val (.int p2), .val (.int p3), .val (.int p4), .val (.int p5), .val (.int (0 : Int32)), .val (.int (1 : Int32)), .val (.int y0), .val (.int y1), .val (.int y2), .val (.ref b146), .unset, .unset, .unset, .unset] [(.int (0 : Int32))])
    refine own_goW (fun t k => XS.iconst X146.here hx rfl (hb hby at_50) k) ?_
    show own_EndW _ _ _ _ _ _ _ T146 (mkF m 51 #[.val (.int p1), .val (.int p2), .val (.int p3), .val (.int p4), .val (.int p5), .val (.int (0 : Int32)), .val (.int (1 : Int32)), .val (.int y0), .val (.int y1), .val (.int y2), .val (.ref b146), .unset, .unset, .unset, .unset] [(.int (1 : Int32)), (.int (0 : Int32))])
    refine own_goW (fun t k => XS.icmpYes X146.here hx rfl (pc0 := 51) (pc' := 60) rfl (hb hby at_51) rfl (flt (by decide : ¬ ((1 : Int32) < (0 : Int32)))).2.2.2 (by decide) (by decide) k) ?_
    show own_EndW _ _ _ _ _ _ _ T146 (mkF m 60 #[.val (.int p1), .val (.int p2), .val (.int p3), .val (.int p4), .val (.int p5), .val (.int (0 : Int32)), .val (.int (1 : Int32)), .val (.int y0), .val (.int y1), .val (.int y2), .val (.ref b146), .unset, .unset, .unset, .unset] [])
    refine own_goW (fun t k => XS.iload X146.here hx rfl (hb hby at_60) rfl k) ?_
    show own_EndW _ _ _ _ _ _ _ T146 (mkF m 62 #[.val (.int p1), .val (.int p2), .val (.int p3), .val (.int p4), .val (.int p5), .val (.int (0 : Int32)), .val (.int (1 : Int32)), .val (.int y0), .val (.int y1), .val (.int y2), .val (.ref b146), .unset, .unset, .unset, .unset] [(.int (0 : Int32))])
    refine own_goW (fun t k => XS.iconst X146.here hx rfl (hb hby at_62) k) ?_
    show own_EndW _ _ _ _ _ _ _ T146 (mkF m 63 #[.val (.int p1), .val (.int p2), .val (.int p3), .val (.int p4), .val (.int p5), .val (.int (0 : Int32)), .val (.int (1 : Int32)), .val (.int y0), .val (.int y1), .val (.int y2), .val (.ref b146), .unset, .unset, .unset, .unset] [(.int (2 : Int32)), (.int (0 : Int32))])
    refine own_goW (fun t k => XS.icmpYes X146.here hx rfl (pc0 := 63) (pc' := 72) rfl (hb hby at_63) rfl (flt (by decide : ¬ ((2 : Int32) < (0 : Int32)))).2.2.2 (by decide) (by decide) k) ?_
    show own_EndW _ _ _ _ _ _ _ T146 (mkF m 72 #[.val (.int p1), .val (.int p2), .val (.int p3), .val (.int p4), .val (.int p5), .val (.int (0 : Int32)), .val (.int (1 : Int32)), .val (.int y0), .val (.int y1), .val (.int y2), .val (.ref b146), .unset, .unset, .unset, .unset] [])
    obtain ⟨T148, h148, X148, e148, E148, A148, D148, -, st148⟩ := newO X146 hx hZ hown (hw _ (List.mem_of_getElem? (i := 1) rfl)) (hw _ (List.mem_of_getElem? (i := 2) rfl)) (hw _ (List.mem_of_getElem? (i := 3) rfl)) e146 (g := (mkF m 72 #[.val (.int p1), .val (.int p2), .val (.int p3), .val (.int p4), .val (.int p5), .val (.int (0 : Int32)), .val (.int (1 : Int32)), .val (.int y0), .val (.int y1), .val (.int y2), .val (.ref b146), .unset, .unset, .unset, .unset] [])) rfl (hb hby at_72) (by decide) (by decide)
    obtain ⟨b148, g148⟩ : ∃ z, z = h146.size := ⟨_, rfl⟩
    rw [← g148] at A148 D148 st148
    have ne_b146_b148 : b146 ≠ b148 := Nat.ne_of_lt (Nat.lt_of_lt_of_le V146.lt (Nat.le_of_eq g148.symm))
    have g_b148 : n0 ≤ b148 := Nat.le_trans (Nat.le_trans Z0 E146.1) (Nat.le_of_eq g148.symm)
    have sz_b148 : h0.size ≤ b148 := Nat.le_trans K147.1 (Nat.le_of_eq g148.symm)
    have F148_code : Fld Z h148 b148 "com/example/coxswain/coxswain/wire/Status" "code" "Lcom/example/coxswain/coxswain/wire/StatusCode;" .null := D148 (Or.inr (hw _ (List.mem_of_getElem? (i := 33) rfl))) (ty := (.object "com/example/coxswain/coxswain/wire/StatusCode")) (by decide)
    have F148_description : Fld Z h148 b148 "com/example/coxswain/coxswain/wire/Status" "description" "Ljava/lang/String;" .null := D148 (Or.inr (hw _ (List.mem_of_getElem? (i := 35) rfl))) (ty := (.object "java/lang/String")) (by decide)
    have F148_details : Fld Z h148 b148 "com/example/coxswain/coxswain/wire/Status" "details" "[B" .null := D148 (Or.inr (hw _ (List.mem_of_getElem? (i := 37) rfl))) (ty := (.array .byte)) (by decide)
    have K149 : Keep h0 h148 [] := K147.ext E148
    refine own_goW st148 ?_
    show own_EndW _ _ _ _ _ _ _ T148 (mkF m 75 #[.val (.int p1), .val (.int p2), .val (.int p3), .val (.int p4), .val (.int p5), .val (.int (0 : Int32)), .val (.int (1 : Int32)), .val (.int y0), .val (.int y1), .val (.int y2), .val (.ref b146), .unset, .unset, .unset, .unset] [(.ref b148)])
    refine own_goW (fun t k => XS.dup X148.here hx rfl (hb hby at_75) rfl rfl k) ?_
    show own_EndW _ _ _ _ _ _ _ T148 (mkF m 76 #[.val (.int p1), .val (.int p2), .val (.int p3), .val (.int p4), .val (.int p5), .val (.int (0 : Int32)), .val (.int (1 : Int32)), .val (.int y0), .val (.int y1), .val (.int y2), .val (.ref b146), .unset, .unset, .unset, .unset] [(.ref b148), (.ref b148)])
    obtain ⟨T150, X150, e150, st150⟩ := getS2 X148 hx hZ hown (host := "") (Or.inl (hw _ (List.mem_of_getElem? (i := 4) rfl))) Via.refl e148 (own_StaK SU K149) (g := (mkF m 76 #[.val (.int p1), .val (.int p2), .val (.int p3), .val (.int p4), .val (.int p5), .val (.int (0 : Int32)), .val (.int (1 : Int32)), .val (.int y0), .val (.int y1), .val (.int y2), .val (.ref b146), .unset, .unset, .unset, .unset] [(.ref b148), (.ref b148)])) rfl (hb hby at_76)
    refine own_goW st150 ?_
    show own_EndW _ _ _ _ _ _ _ T150 (mkF m 79 #[.val (.int p1), .val (.int p2), .val (.int p3), .val (.int p4), .val (.int p5), .val (.int (0 : Int32)), .val (.int (1 : Int32)), .val (.int y0), .val (.int y1), .val (.int y2), .val (.ref b146), .unset, .unset, .unset, .unset] [(.ref wU), (.ref b148), (.ref b148)])
    refine own_goW (fun t k => XS.aconstNull X150.here hx rfl (hb hby at_79) k) ?_
    show own_EndW _ _ _ _ _ _ _ T150 (mkF m 80 #[.val (.int p1), .val (.int p2), .val (.int p3), .val (.int p4), .val (.int p5), .val (.int (0 : Int32)), .val (.int (1 : Int32)), .val (.int y0), .val (.int y1), .val (.int y2), .val (.ref b146), .unset, .unset, .unset, .unset] [.null, (.ref wU), (.ref b148), (.ref b148)])
    refine own_goW (fun t k => XS.iload X150.here hx rfl (hb hby at_80) rfl k) ?_
    show own_EndW _ _ _ _ _ _ _ T150 (mkF m 82 #[.val (.int p1), .val (.int p2), .val (.int p3), .val (.int p4), .val (.int p5), .val (.int (0 : Int32)), .val (.int (1 : Int32)), .val (.int y0), .val (.int y1), .val (.int y2), .val (.ref b146), .unset, .unset, .unset, .unset] [(.int (1 : Int32)), .null, (.ref wU), (.ref b148), (.ref b148)])
    refine own_goW (fun t k => XS.ifNo X150.here hx rfl (hb hby at_82) rfl ((if0 _ _).trans (feq (by decide : ¬ ((1 : Int32) = (0 : Int32)))).1) k) ?_
    show own_EndW _ _ _ _ _ _ _ T150 (mkF m 85 #[.val (.int p1), .val (.int p2), .val (.int p3), .val (.int p4), .val (.int p5), .val (.int (0 : Int32)), .val (.int (1 : Int32)), .val (.int y0), .val (.int y1), .val (.int y2), .val (.ref b146), .unset, .unset, .unset, .unset] [.null, (.ref wU), (.ref b148), (.ref b148)])
    refine own_goW (fun t k => XS.aconstNull X150.here hx rfl (hb hby at_85) k) ?_
    show own_EndW _ _ _ _ _ _ _ T150 (mkF m 86 #[.val (.int p1), .val (.int p2), .val (.int p3), .val (.int p4), .val (.int p5), .val (.int (0 : Int32)), .val (.int (1 : Int32)), .val (.int y0), .val (.int y1), .val (.int y2), .val (.ref b146), .unset, .unset, .unset, .unset] [.null, .null, (.ref wU), (.ref b148), (.ref b148)])
    refine own_goW (fun t k => XS.goto X150.here hx rfl (pc0 := 86) (pc' := 91) rfl (hb hby at_86) (by decide) (by decide) k) ?_
    show own_EndW _ _ _ _ _ _ _ T150 (mkF m 91 #[.val (.int p1), .val (.int p2), .val (.int p3), .val (.int p4), .val (.int p5), .val (.int (0 : Int32)), .val (.int (1 : Int32)), .val (.int y0), .val (.int y1), .val (.int y2), .val (.ref b146), .unset, .unset, .unset, .unset] [.null, .null, (.ref wU), (.ref b148), (.ref b148)])
    obtain ⟨v151, T151, L151, X151, hQ151, hS151, hZ, hown, st151⟩ := own_callNW (y := (⟨"com/example/coxswain/coxswain/wire/Status", "<init>", "(Lcom/example/coxswain/coxswain/wire/StatusCode;Ljava/lang/String;[B)V"⟩ : MethodName)) X150 hx hZ hown (hw _ (List.mem_of_getElem? (i := 7) rfl)) (hw _ (List.mem_of_getElem? (i := 8) rfl)) (hw _ (List.mem_of_getElem? (i := 9) rfl)) (by decide) (hw _ (List.mem_of_getElem? (i := 3) rfl)) (rmIN l Z a0 hw [] b148 wU wN h148 n0 (Nat.le_trans (Nat.le_trans Z0 E146.1) E148.1) A148 g_b148 F148_code F148_description F148_details (own_StaK SN K149)) e150 (W := 1) (by decide) (by decide) (g := (mkF m 91 #[.val (.int p1), .val (.int p2), .val (.int p3), .val (.int p4), .val (.int p5), .val (.int (0 : Int32)), .val (.int (1 : Int32)), .val (.int y0), .val (.int y1), .val (.int y2), .val (.ref b146), .unset, .unset, .unset, .unset] [.null, .null, (.ref wU), (.ref b148), (.ref b148)])) rfl (by rw [hml]; rfl) (argsL := [(.ref wU), .null, .null]) (rest := [(.ref b148)]) (a := b148) rfl rfl (lenOf pd__Lcom_example_coxswain_coxswain_wire_StatusCode_Ljava_lang_String__B_V rfl) rfl (by show 2 * 0 + _ ≤ _; exact Nat.le_of_eq rfl) (hb hby at_91) (by decide) (by decide)
    obtain ⟨rfl, N151q, Kc151, Ec151, Fd151⟩ := hQ151
    have N151 := Fr.app N0 N151q
    have K151 : Keep h0 T151.heap [] := K149.trans Kc151 (fun x hx => by cases List.mem_singleton.mp hx; exact Or.inr sz_b148)
    refine own_goW st151 ?_
    show own_EndW _ _ _ _ _ _ _ T151 (mkF m 94 #[.val (.int p1), .val (.int p2), .val (.int p3), .val (.int p4), .val (.int p5), .val (.int (0 : Int32)), .val (.int (1 : Int32)), .val (.int y0), .val (.int y1), .val (.int y2), .val (.ref b146), .unset, .unset, .unset, .unset] [(.ref b148)])
    refine own_goW (fun t k => XS.astore X151.here hx rfl (hb hby at_94) rfl rfl (l' := #[.val (.int p1), .val (.int p2), .val (.int p3), .val (.int p4), .val (.int p5), .val (.int (0 : Int32)), .val (.int (1 : Int32)), .val (.int y0), .val (.int y1), .val (.int y2), .val (.ref b146), .val (.ref b148), .unset, .unset, .unset]) rfl k) ?_
    show own_EndW _ _ _ _ _ _ _ T151 (mkF m 96 #[.val (.int p1), .val (.int p2), .val (.int p3), .val (.int p4), .val (.int p5), .val (.int (0 : Int32)), .val (.int (1 : Int32)), .val (.int y0), .val (.int y1), .val (.int y2), .val (.ref b146), .val (.ref b148), .unset, .unset, .unset] [])
    refine own_goW (fun t k => XS.aload X151.here hx rfl (hb hby at_96) rfl rfl k) ?_
    show own_EndW _ _ _ _ _ _ _ T151 (mkF m 98 #[.val (.int p1), .val (.int p2), .val (.int p3), .val (.int p4), .val (.int p5), .val (.int (0 : Int32)), .val (.int (1 : Int32)), .val (.int y0), .val (.int y1), .val (.int y2), .val (.ref b146), .val (.ref b148), .unset, .unset, .unset] [(.ref b146)])
    obtain ⟨cl152, Ar152, q152, S152, M152, H152, G152⟩ := id ((V146.ext E148).keep Kc151 (ninS ne_b146_b148 nin0))
    obtain ⟨v153, T153, L153, X153, hQ153, st153⟩ := own_callS (y := (⟨"com/example/coxswain/coxswain/wire/StatusDetailsPinLaw", "scramble", "([B)V"⟩ : MethodName)) X151 hx hZ hown (hw _ (List.mem_of_getElem? (i := 38) rfl)) (hw _ (List.mem_of_getElem? (i := 39) rfl)) (hw _ (List.mem_of_getElem? (i := 41) rfl)) (by decide) (hw _ (List.mem_of_getElem? (i := 40) rfl)) (rmS0 l Z a0 hw [] b146 cl152 T151.heap n0 (Nat.le_trans (Nat.le_trans (Nat.le_trans Z0 E146.1) E148.1) Kc151.1) Ar152 S152) rfl (W := 0) (by decide) (by decide) (g := (mkF m 98 #[.val (.int p1), .val (.int p2), .val (.int p3), .val (.int p4), .val (.int p5), .val (.int (0 : Int32)), .val (.int (1 : Int32)), .val (.int y0), .val (.int y1), .val (.int y2), .val (.ref b146), .val (.ref b148), .unset, .unset, .unset] [(.ref b146)])) rfl (by rw [hml]; rfl) (argsL := [(.ref b146)]) (rest := []) rfl (lenOf pd___B_V rfl) rfl (by show 2 * 0 + _ ≤ _; exact Nat.le_of_eq rfl) (hb hby at_98) (by decide) (by decide)
    obtain ⟨rfl, N153q, e153⟩ := hQ153
    have N153 := Fr.app N151 N153q
    refine own_goW st153 ?_
    show own_EndW _ _ _ _ _ _ _ T153 (mkF m 101 #[.val (.int p1), .val (.int p2), .val (.int p3), .val (.int p4), .val (.int p5), .val (.int (0 : Int32)), .val (.int (1 : Int32)), .val (.int y0), .val (.int y1), .val (.int y2), .val (.ref b146), .val (.ref b148), .unset, .unset, .unset] [])
    refine own_goW (fun t k => XS.iload X153.here hx rfl (hb hby at_101) rfl k) ?_
    show own_EndW _ _ _ _ _ _ _ T153 (mkF m 103 #[.val (.int p1), .val (.int p2), .val (.int p3), .val (.int p4), .val (.int p5), .val (.int (0 : Int32)), .val (.int (1 : Int32)), .val (.int y0), .val (.int y1), .val (.int y2), .val (.ref b146), .val (.ref b148), .unset, .unset, .unset] [(.int (1 : Int32))])
    refine own_goW (fun t k => XS.ifNo X153.here hx rfl (hb hby at_103) rfl ((if0 _ _).trans (feq (by decide : ¬ ((1 : Int32) = (0 : Int32)))).1) k) ?_
    show own_EndW _ _ _ _ _ _ _ T153 (mkF m 106 #[.val (.int p1), .val (.int p2), .val (.int p3), .val (.int p4), .val (.int p5), .val (.int (0 : Int32)), .val (.int (1 : Int32)), .val (.int y0), .val (.int y1), .val (.int y2), .val (.ref b146), .val (.ref b148), .unset, .unset, .unset] [])
    refine own_goW (fun t k => XS.iconst X153.here hx rfl (hb hby at_106) k) ?_
    show own_EndW _ _ _ _ _ _ _ T153 (mkF m 107 #[.val (.int p1), .val (.int p2), .val (.int p3), .val (.int p4), .val (.int p5), .val (.int (0 : Int32)), .val (.int (1 : Int32)), .val (.int y0), .val (.int y1), .val (.int y2), .val (.ref b146), .val (.ref b148), .unset, .unset, .unset] [(.int (0 : Int32))])
    refine own_goW (fun t k => XS.goto X153.here hx rfl (pc0 := 107) (pc' := 112) rfl (hb hby at_107) (by decide) (by decide) k) ?_
    show own_EndW _ _ _ _ _ _ _ T153 (mkF m 112 #[.val (.int p1), .val (.int p2), .val (.int p3), .val (.int p4), .val (.int p5), .val (.int (0 : Int32)), .val (.int (1 : Int32)), .val (.int y0), .val (.int y1), .val (.int y2), .val (.ref b146), .val (.ref b148), .unset, .unset, .unset] [(.int (0 : Int32))])
    refine own_goW (fun t k => XS.istore X153.here hx rfl (hb hby at_112) rfl (l' := #[.val (.int p1), .val (.int p2), .val (.int p3), .val (.int p4), .val (.int p5), .val (.int (0 : Int32)), .val (.int (1 : Int32)), .val (.int y0), .val (.int y1), .val (.int y2), .val (.ref b146), .val (.ref b148), .val (.int (0 : Int32)), .unset, .unset]) rfl k) ?_
    show own_EndW _ _ _ _ _ _ _ T153 (mkF m 114 #[.val (.int p1), .val (.int p2), .val (.int p3), .val (.int p4), .val (.int p5), .val (.int (0 : Int32)), .val (.int (1 : Int32)), .val (.int y0), .val (.int y1), .val (.int y2), .val (.ref b146), .val (.ref b148), .val (.int (0 : Int32)), .unset, .unset] [])
    refine own_goW (fun t k => XS.aload X153.here hx rfl (hb hby at_114) rfl rfl k) ?_
    show own_EndW _ _ _ _ _ _ _ T153 (mkF m 116 #[.val (.int p1), .val (.int p2), .val (.int p3), .val (.int p4), .val (.int p5), .val (.int (0 : Int32)), .val (.int (1 : Int32)), .val (.int y0), .val (.int y1), .val (.int y2), .val (.ref b146), .val (.ref b148), .val (.int (0 : Int32)), .unset, .unset] [(.ref b148)])
    obtain ⟨v154, T154, L154, X154, hQ154, st154⟩ := own_callV (y := (⟨"com/example/coxswain/coxswain/wire/Status", "details", "()[B"⟩ : MethodName)) (z := (⟨"com/example/coxswain/coxswain/wire/Status", "details", "()[B"⟩ : MethodName)) X153 hx hZ hown (hw _ (List.mem_of_getElem? (i := 42) rfl)) (hw _ (List.mem_of_getElem? (i := 43) rfl)) (hw _ (List.mem_of_getElem? (i := 45) rfl)) (hw _ (List.mem_of_getElem? (i := 44) rfl)) Ec151 (hw _ (List.mem_of_getElem? (i := 46) rfl)) (by decide) (hw _ (List.mem_of_getElem? (i := 3) rfl)) (rmT0 l Z a0 hw [] b148 wN cl T151.heap n0 (Nat.le_trans (Nat.le_trans (Nat.le_trans Z0 E146.1) E148.1) Kc151.1) Fd151 (own_StaK SN K151) (own_ArrK Ar K151) Sz) e153 (W := 0) (by decide) (by decide) (g := (mkF m 116 #[.val (.int p1), .val (.int p2), .val (.int p3), .val (.int p4), .val (.int p5), .val (.int (0 : Int32)), .val (.int (1 : Int32)), .val (.int y0), .val (.int y1), .val (.int y2), .val (.ref b146), .val (.ref b148), .val (.int (0 : Int32)), .unset, .unset] [(.ref b148)])) rfl (by rw [hml]; rfl) (argsL := []) (rest := []) (b := b148) rfl (notFace_of_selects (args := #[]) (mvT hZ (hw _ (List.mem_of_getElem? (i := 45) rfl)))) (lenOf pd____B rfl) rfl (by show 2 * 0 + _ ≤ _; exact Nat.le_of_eq rfl) (hb hby at_116) (by decide) (by decide)
    obtain ⟨rfl, N154q, e154⟩ := hQ154
    have N154 := Fr.app N153 N154q
    refine own_goW st154 ?_
    show own_EndW _ _ _ _ _ _ _ T154 (mkF m 119 #[.val (.int p1), .val (.int p2), .val (.int p3), .val (.int p4), .val (.int p5), .val (.int (0 : Int32)), .val (.int (1 : Int32)), .val (.int y0), .val (.int y1), .val (.int y2), .val (.ref b146), .val (.ref b148), .val (.int (0 : Int32)), .unset, .unset] [(.ref wN)])
    refine own_goW (fun t k => XS.astore X154.here hx rfl (hb hby at_119) rfl rfl (l' := #[.val (.int p1), .val (.int p2), .val (.int p3), .val (.int p4), .val (.int p5), .val (.int (0 : Int32)), .val (.int (1 : Int32)), .val (.int y0), .val (.int y1), .val (.int y2), .val (.ref b146), .val (.ref b148), .val (.int (0 : Int32)), .val (.ref wN), .unset]) rfl k) ?_
    show own_EndW _ _ _ _ _ _ _ T154 (mkF m 121 #[.val (.int p1), .val (.int p2), .val (.int p3), .val (.int p4), .val (.int p5), .val (.int (0 : Int32)), .val (.int (1 : Int32)), .val (.int y0), .val (.int y1), .val (.int y2), .val (.ref b146), .val (.ref b148), .val (.int (0 : Int32)), .val (.ref wN), .unset] [])
    refine own_goW (fun t k => XS.aload X154.here hx rfl (hb hby at_121) rfl rfl k) ?_
    show own_EndW _ _ _ _ _ _ _ T154 (mkF m 123 #[.val (.int p1), .val (.int p2), .val (.int p3), .val (.int p4), .val (.int p5), .val (.int (0 : Int32)), .val (.int (1 : Int32)), .val (.int y0), .val (.int y1), .val (.int y2), .val (.ref b146), .val (.ref b148), .val (.int (0 : Int32)), .val (.ref wN), .unset] [(.ref wN)])
    refine own_goW (fun t k => XS.iload X154.here hx rfl (hb hby at_123) rfl k) ?_
    show own_EndW _ _ _ _ _ _ _ T154 (mkF m 125 #[.val (.int p1), .val (.int p2), .val (.int p3), .val (.int p4), .val (.int p5), .val (.int (0 : Int32)), .val (.int (1 : Int32)), .val (.int y0), .val (.int y1), .val (.int y2), .val (.ref b146), .val (.ref b148), .val (.int (0 : Int32)), .val (.ref wN), .unset] [(.int (0 : Int32)), (.ref wN)])
    refine own_goW (fun t k => XS.iload X154.here hx rfl (hb hby at_125) rfl k) ?_
    show own_EndW _ _ _ _ _ _ _ T154 (mkF m 127 #[.val (.int p1), .val (.int p2), .val (.int p3), .val (.int p4), .val (.int p5), .val (.int (0 : Int32)), .val (.int (1 : Int32)), .val (.int y0), .val (.int y1), .val (.int y2), .val (.ref b146), .val (.ref b148), .val (.int (0 : Int32)), .val (.ref wN), .unset] [(.int y0), (.int (0 : Int32)), (.ref wN)])
    refine own_goW (fun t k => XS.iload X154.here hx rfl (hb hby at_127) rfl k) ?_
    show own_EndW _ _ _ _ _ _ _ T154 (mkF m 129 #[.val (.int p1), .val (.int p2), .val (.int p3), .val (.int p4), .val (.int p5), .val (.int (0 : Int32)), .val (.int (1 : Int32)), .val (.int y0), .val (.int y1), .val (.int y2), .val (.ref b146), .val (.ref b148), .val (.int (0 : Int32)), .val (.ref wN), .unset] [(.int y1), (.int y0), (.int (0 : Int32)), (.ref wN)])
    refine own_goW (fun t k => XS.iload X154.here hx rfl (hb hby at_129) rfl k) ?_
    show own_EndW _ _ _ _ _ _ _ T154 (mkF m 131 #[.val (.int p1), .val (.int p2), .val (.int p3), .val (.int p4), .val (.int p5), .val (.int (0 : Int32)), .val (.int (1 : Int32)), .val (.int y0), .val (.int y1), .val (.int y2), .val (.ref b146), .val (.ref b148), .val (.int (0 : Int32)), .val (.ref wN), .unset] [(.int y2), (.int y1), (.int y0), (.int (0 : Int32)), (.ref wN)])
    obtain ⟨v155, T155, L155, X155, hQ155, st155⟩ := own_callS (y := (⟨"com/example/coxswain/coxswain/wire/StatusDetailsPinLaw", "same", "([BIBBB)Z"⟩ : MethodName)) X154 hx hZ hown (hw _ (List.mem_of_getElem? (i := 47) rfl)) (hw _ (List.mem_of_getElem? (i := 48) rfl)) (hw _ (List.mem_of_getElem? (i := 49) rfl)) (by decide) (hw _ (List.mem_of_getElem? (i := 40) rfl)) (rmM0 l Z a0 hw [] wN y0 y1 y2 cl T151.heap n0 (Nat.le_trans (Nat.le_trans (Nat.le_trans Z0 E146.1) E148.1) Kc151.1) (own_ArrK Ar K151) Sz) e154 (W := 0) (by decide) (by decide) (g := (mkF m 131 #[.val (.int p1), .val (.int p2), .val (.int p3), .val (.int p4), .val (.int p5), .val (.int (0 : Int32)), .val (.int (1 : Int32)), .val (.int y0), .val (.int y1), .val (.int y2), .val (.ref b146), .val (.ref b148), .val (.int (0 : Int32)), .val (.ref wN), .unset] [(.int y2), (.int y1), (.int y0), (.int (0 : Int32)), (.ref wN)])) rfl (by rw [hml]; rfl) (argsL := [(.ref wN), (.int (0 : Int32)), (.int y0), (.int y1), (.int y2)]) (rest := []) rfl (lenOf pd___BIBBB_Z rfl) rfl (by show 2 * 0 + _ ≤ _; exact Nat.le_of_eq rfl) (hb hby at_131) (by decide) (by decide)
    obtain ⟨rfl, N155q, e155⟩ := hQ155
    have N155 := Fr.app N154 N155q
    refine own_goW st155 ?_
    show own_EndW _ _ _ _ _ _ _ T155 (mkF m 134 #[.val (.int p1), .val (.int p2), .val (.int p3), .val (.int p4), .val (.int p5), .val (.int (0 : Int32)), .val (.int (1 : Int32)), .val (.int y0), .val (.int y1), .val (.int y2), .val (.ref b146), .val (.ref b148), .val (.int (0 : Int32)), .val (.ref wN), .unset] [(.int (1 : Int32))])
    refine own_goW (fun t k => XS.ifYes X155.here hx rfl (pc0 := 134) (pc' := 139) rfl (hb hby at_134) rfl ((if0 _ _).trans (feq (by decide : ¬ ((1 : Int32) = (0 : Int32)))).2) (by decide) (by decide) k) ?_
    show own_EndW _ _ _ _ _ _ _ T155 (mkF m 139 #[.val (.int p1), .val (.int p2), .val (.int p3), .val (.int p4), .val (.int p5), .val (.int (0 : Int32)), .val (.int (1 : Int32)), .val (.int y0), .val (.int y1), .val (.int y2), .val (.ref b146), .val (.ref b148), .val (.int (0 : Int32)), .val (.ref wN), .unset] [])
    refine own_goW (fun t k => XS.aload X155.here hx rfl (hb hby at_139) rfl rfl k) ?_
    show own_EndW _ _ _ _ _ _ _ T155 (mkF m 141 #[.val (.int p1), .val (.int p2), .val (.int p3), .val (.int p4), .val (.int p5), .val (.int (0 : Int32)), .val (.int (1 : Int32)), .val (.int y0), .val (.int y1), .val (.int y2), .val (.ref b146), .val (.ref b148), .val (.int (0 : Int32)), .val (.ref wN), .unset] [(.ref wN)])
    obtain ⟨v156, T156, L156, X156, hQ156, st156⟩ := own_callS (y := (⟨"com/example/coxswain/coxswain/wire/StatusDetailsPinLaw", "scramble", "([B)V"⟩ : MethodName)) X155 hx hZ hown (hw _ (List.mem_of_getElem? (i := 38) rfl)) (hw _ (List.mem_of_getElem? (i := 39) rfl)) (hw _ (List.mem_of_getElem? (i := 41) rfl)) (by decide) (hw _ (List.mem_of_getElem? (i := 40) rfl)) (rmS0 l Z a0 hw [] wN cl T151.heap n0 (Nat.le_trans (Nat.le_trans (Nat.le_trans Z0 E146.1) E148.1) Kc151.1) (own_ArrK Ar K151) Sz) e155 (W := 0) (by decide) (by decide) (g := (mkF m 141 #[.val (.int p1), .val (.int p2), .val (.int p3), .val (.int p4), .val (.int p5), .val (.int (0 : Int32)), .val (.int (1 : Int32)), .val (.int y0), .val (.int y1), .val (.int y2), .val (.ref b146), .val (.ref b148), .val (.int (0 : Int32)), .val (.ref wN), .unset] [(.ref wN)])) rfl (by rw [hml]; rfl) (argsL := [(.ref wN)]) (rest := []) rfl (lenOf pd___B_V rfl) rfl (by show 2 * 0 + _ ≤ _; exact Nat.le_of_eq rfl) (hb hby at_141) (by decide) (by decide)
    obtain ⟨rfl, N156q, e156⟩ := hQ156
    have N156 := Fr.app N155 N156q
    refine own_goW st156 ?_
    show own_EndW _ _ _ _ _ _ _ T156 (mkF m 144 #[.val (.int p1), .val (.int p2), .val (.int p3), .val (.int p4), .val (.int p5), .val (.int (0 : Int32)), .val (.int (1 : Int32)), .val (.int y0), .val (.int y1), .val (.int y2), .val (.ref b146), .val (.ref b148), .val (.int (0 : Int32)), .val (.ref wN), .unset] [])
    refine own_goW (fun t k => XS.aload X156.here hx rfl (hb hby at_144) rfl rfl k) ?_
    show own_EndW _ _ _ _ _ _ _ T156 (mkF m 146 #[.val (.int p1), .val (.int p2), .val (.int p3), .val (.int p4), .val (.int p5), .val (.int (0 : Int32)), .val (.int (1 : Int32)), .val (.int y0), .val (.int y1), .val (.int y2), .val (.ref b146), .val (.ref b148), .val (.int (0 : Int32)), .val (.ref wN), .unset] [(.ref b148)])
    obtain ⟨v157, T157, L157, X157, hQ157, st157⟩ := own_callV (y := (⟨"com/example/coxswain/coxswain/wire/Status", "details", "()[B"⟩ : MethodName)) (z := (⟨"com/example/coxswain/coxswain/wire/Status", "details", "()[B"⟩ : MethodName)) X156 hx hZ hown (hw _ (List.mem_of_getElem? (i := 42) rfl)) (hw _ (List.mem_of_getElem? (i := 43) rfl)) (hw _ (List.mem_of_getElem? (i := 45) rfl)) (hw _ (List.mem_of_getElem? (i := 44) rfl)) Ec151 (hw _ (List.mem_of_getElem? (i := 46) rfl)) (by decide) (hw _ (List.mem_of_getElem? (i := 3) rfl)) (rmT0 l Z a0 hw [] b148 wN cl T151.heap n0 (Nat.le_trans (Nat.le_trans (Nat.le_trans Z0 E146.1) E148.1) Kc151.1) Fd151 (own_StaK SN K151) (own_ArrK Ar K151) Sz) e156 (W := 0) (by decide) (by decide) (g := (mkF m 146 #[.val (.int p1), .val (.int p2), .val (.int p3), .val (.int p4), .val (.int p5), .val (.int (0 : Int32)), .val (.int (1 : Int32)), .val (.int y0), .val (.int y1), .val (.int y2), .val (.ref b146), .val (.ref b148), .val (.int (0 : Int32)), .val (.ref wN), .unset] [(.ref b148)])) rfl (by rw [hml]; rfl) (argsL := []) (rest := []) (b := b148) rfl (notFace_of_selects (args := #[]) (mvT hZ (hw _ (List.mem_of_getElem? (i := 45) rfl)))) (lenOf pd____B rfl) rfl (by show 2 * 0 + _ ≤ _; exact Nat.le_of_eq rfl) (hb hby at_146) (by decide) (by decide)
    obtain ⟨rfl, N157q, e157⟩ := hQ157
    have N157 := Fr.app N156 N157q
    refine own_goW st157 ?_
    show own_EndW _ _ _ _ _ _ _ T157 (mkF m 149 #[.val (.int p1), .val (.int p2), .val (.int p3), .val (.int p4), .val (.int p5), .val (.int (0 : Int32)), .val (.int (1 : Int32)), .val (.int y0), .val (.int y1), .val (.int y2), .val (.ref b146), .val (.ref b148), .val (.int (0 : Int32)), .val (.ref wN), .unset] [(.ref wN)])
    refine own_goW (fun t k => XS.astore X157.here hx rfl (hb hby at_149) rfl rfl (l' := #[.val (.int p1), .val (.int p2), .val (.int p3), .val (.int p4), .val (.int p5), .val (.int (0 : Int32)), .val (.int (1 : Int32)), .val (.int y0), .val (.int y1), .val (.int y2), .val (.ref b146), .val (.ref b148), .val (.int (0 : Int32)), .val (.ref wN), .val (.ref wN)]) rfl k) ?_
    show own_EndW _ _ _ _ _ _ _ T157 (mkF m 151 #[.val (.int p1), .val (.int p2), .val (.int p3), .val (.int p4), .val (.int p5), .val (.int (0 : Int32)), .val (.int (1 : Int32)), .val (.int y0), .val (.int y1), .val (.int y2), .val (.ref b146), .val (.ref b148), .val (.int (0 : Int32)), .val (.ref wN), .val (.ref wN)] [])
    refine own_goW (fun t k => XS.aload X157.here hx rfl (hb hby at_151) rfl rfl k) ?_
    show own_EndW _ _ _ _ _ _ _ T157 (mkF m 153 #[.val (.int p1), .val (.int p2), .val (.int p3), .val (.int p4), .val (.int p5), .val (.int (0 : Int32)), .val (.int (1 : Int32)), .val (.int y0), .val (.int y1), .val (.int y2), .val (.ref b146), .val (.ref b148), .val (.int (0 : Int32)), .val (.ref wN), .val (.ref wN)] [(.ref wN)])
    refine own_goW (fun t k => XS.iload X157.here hx rfl (hb hby at_153) rfl k) ?_
    show own_EndW _ _ _ _ _ _ _ T157 (mkF m 155 #[.val (.int p1), .val (.int p2), .val (.int p3), .val (.int p4), .val (.int p5), .val (.int (0 : Int32)), .val (.int (1 : Int32)), .val (.int y0), .val (.int y1), .val (.int y2), .val (.ref b146), .val (.ref b148), .val (.int (0 : Int32)), .val (.ref wN), .val (.ref wN)] [(.int (0 : Int32)), (.ref wN)])
    refine own_goW (fun t k => XS.iload X157.here hx rfl (hb hby at_155) rfl k) ?_
    show own_EndW _ _ _ _ _ _ _ T157 (mkF m 157 #[.val (.int p1), .val (.int p2), .val (.int p3), .val (.int p4), .val (.int p5), .val (.int (0 : Int32)), .val (.int (1 : Int32)), .val (.int y0), .val (.int y1), .val (.int y2), .val (.ref b146), .val (.ref b148), .val (.int (0 : Int32)), .val (.ref wN), .val (.ref wN)] [(.int y0), (.int (0 : Int32)), (.ref wN)])
    refine own_goW (fun t k => XS.iload X157.here hx rfl (hb hby at_157) rfl k) ?_
    show own_EndW _ _ _ _ _ _ _ T157 (mkF m 159 #[.val (.int p1), .val (.int p2), .val (.int p3), .val (.int p4), .val (.int p5), .val (.int (0 : Int32)), .val (.int (1 : Int32)), .val (.int y0), .val (.int y1), .val (.int y2), .val (.ref b146), .val (.ref b148), .val (.int (0 : Int32)), .val (.ref wN), .val (.ref wN)] [(.int y1), (.int y0), (.int (0 : Int32)), (.ref wN)])
    refine own_goW (fun t k => XS.iload X157.here hx rfl (hb hby at_159) rfl k) ?_
    show own_EndW _ _ _ _ _ _ _ T157 (mkF m 161 #[.val (.int p1), .val (.int p2), .val (.int p3), .val (.int p4), .val (.int p5), .val (.int (0 : Int32)), .val (.int (1 : Int32)), .val (.int y0), .val (.int y1), .val (.int y2), .val (.ref b146), .val (.ref b148), .val (.int (0 : Int32)), .val (.ref wN), .val (.ref wN)] [(.int y2), (.int y1), (.int y0), (.int (0 : Int32)), (.ref wN)])
    obtain ⟨v158, T158, L158, X158, hQ158, st158⟩ := own_callS (y := (⟨"com/example/coxswain/coxswain/wire/StatusDetailsPinLaw", "same", "([BIBBB)Z"⟩ : MethodName)) X157 hx hZ hown (hw _ (List.mem_of_getElem? (i := 47) rfl)) (hw _ (List.mem_of_getElem? (i := 48) rfl)) (hw _ (List.mem_of_getElem? (i := 49) rfl)) (by decide) (hw _ (List.mem_of_getElem? (i := 40) rfl)) (rmM0 l Z a0 hw [] wN y0 y1 y2 cl T151.heap n0 (Nat.le_trans (Nat.le_trans (Nat.le_trans Z0 E146.1) E148.1) Kc151.1) (own_ArrK Ar K151) Sz) e157 (W := 0) (by decide) (by decide) (g := (mkF m 161 #[.val (.int p1), .val (.int p2), .val (.int p3), .val (.int p4), .val (.int p5), .val (.int (0 : Int32)), .val (.int (1 : Int32)), .val (.int y0), .val (.int y1), .val (.int y2), .val (.ref b146), .val (.ref b148), .val (.int (0 : Int32)), .val (.ref wN), .val (.ref wN)] [(.int y2), (.int y1), (.int y0), (.int (0 : Int32)), (.ref wN)])) rfl (by rw [hml]; rfl) (argsL := [(.ref wN), (.int (0 : Int32)), (.int y0), (.int y1), (.int y2)]) (rest := []) rfl (lenOf pd___BIBBB_Z rfl) rfl (by show 2 * 0 + _ ≤ _; exact Nat.le_of_eq rfl) (hb hby at_161) (by decide) (by decide)
    obtain ⟨rfl, N158q, e158⟩ := hQ158
    have N158 := Fr.app N157 N158q
    refine own_goW st158 ?_
    show own_EndW _ _ _ _ _ _ _ T158 (mkF m 164 #[.val (.int p1), .val (.int p2), .val (.int p3), .val (.int p4), .val (.int p5), .val (.int (0 : Int32)), .val (.int (1 : Int32)), .val (.int y0), .val (.int y1), .val (.int y2), .val (.ref b146), .val (.ref b148), .val (.int (0 : Int32)), .val (.ref wN), .val (.ref wN)] [(.int (1 : Int32))])
    exact own_retWW X158 hS151 (by rw [e158]; exact (Nat.le_refl T151.heap.size)) hx Bd.returns Bd.notSynchronized rfl (Or.inl ⟨rfl, by simp, _, rfl⟩) (hb hby at_164) ⟨rfl, N158⟩ (by decide) (by decide)
theorem ef_rm0_1 (m : MethodId) (x0 : Int32) (x1 : Int32) (x2 : Int32) (x3 : Int32) (x4 : Int32) : entryFrame m #[(.int x0), (.int x1), (.int x2), (.int x3), (.int x4)] maxLocals = mkF m 0 #[.val (.int x0), .val (.int x1), .val (.int x2), .val (.int x3), .val (.int x4), .unset, .unset, .unset, .unset, .unset, .unset, .unset, .unset, .unset, .unset] [] := by first | (simp [entryFrame, mkF, argsToLocals, Value.category, maxLocals]; done) | rfl
set_option maxRecDepth 65536 in
set_option maxHeartbeats 40000000 in
theorem rm0_1 (l : Launch) (Z : State) (a0 : Array Value) (hw : ∀ d ∈ tables_1, d.before a0 Z = true) (ws : List Jvm.Cond) (p1 p2 p3 p4 p5 y0 y1 y2 : Int32) (wU wN : Addr) (cl : Cell) (h0 : Heap) (n0 : Nat) (Z0 : n0 ≤ h0.size) (hn : (p1 &&& (3 : Int32)) = (1 : Int32)) (he0 : p3.toInt8.toInt32 = y0) (he1 : p4.toInt8.toInt32 = y1) (he2 : p5.toInt8.toInt32 = y2) (hb0 : y0.toInt8.toInt32 = y0) (hb1 : y1.toInt8.toInt32 = y1) (hb2 : y2.toInt8.toInt32 = y2) (SU : Sta Z h0 "com/example/coxswain/coxswain/wire/StatusCode" "UNKNOWN" "Lcom/example/coxswain/coxswain/wire/StatusCode;" (.ref wU)) (SN : Sta Z h0 "com/example/coxswain/coxswain/wire/Status" "NO_DETAILS" "[B" (.ref wN)) (Ar : Arr Z h0 wN cl .byte) (Sz : cl.slots.size = (0 : Int32).toNatClampNeg) :
    MetFree l x (head1 (Jvm.Cond.code x code maxLocals ret :: ws) room_1) (fun a U => a = #[(.int p1), (.int p2), (.int p3), (.int p4), (.int p5)] ∧ Z.Warmed39 U.vm ∧ U.heap = h0) (fun _ _ _ _ _ => True) (fun _ U o U' => ∃ v L, o = .returned v ∧ own_law n0 v U'.heap L ∧ ReturnedEndW U o U' L room_1.cells room_1.slots) := by
  refine MetFree.of_bodySF (plainFor_of_name pn_com_example_coxswain_coxswain_wire_StatusDetailsPinLaw) hisR ?_
  intro p e s m args below meth c s₁ Bd hml0 hP hK
  obtain ⟨rfl, hZ, hh⟩ := hP
  have hx := Bd.exec
  have hby := Bd.bytes
  have hml : c.maxLocals = 15 := hml0
  have hown : s.vm.findClass "com/example/coxswain/coxswain/wire/StatusDetailsPinLaw" = some m.cls := findClass_of_methodNamed Bd.named
  have hnm := (name_of_methodNamed Bd.named Bd.method).1
  have X0 : Stand p l e room_1 (s.setVm s.vm) m #[(.int p1), (.int p2), (.int p3), (.int p4), (.int p5)] below meth c s₁ [] 0 0 := Stand.of_body Bd
  have e0 : s₁.heap = h0 := by rw [← hh, Bd.state]; rfl
  have N0 := Fr.nil n0
  suffices own_main : own_EndW p e below s (own_law n0) room_1.cells room_1.slots s₁ (mkF m 0 #[.val (.int p1), .val (.int p2), .val (.int p3), .val (.int p4), .val (.int p5), .unset, .unset, .unset, .unset, .unset, .unset, .unset, .unset, .unset, .unset] []) by
    obtain ⟨s₂, o, k1, k2, k3, k4⟩ := own_main
    exact ⟨s₂, o, castTop (ef_rm0_1 m p1 p2 p3 p4 p5) k1, k2, k3, k4⟩
  have hS0 : s.Since s.vm h0.size := (State.WarmedH.refl s).since _
  have hk0 : h0.size ≤ h0.size := Nat.le_refl _
  show own_EndW _ _ _ _ _ _ _ s₁ (mkF m 0 #[.val (.int p1), .val (.int p2), .val (.int p3), .val (.int p4), .val (.int p5), .unset, .unset, .unset, .unset, .unset, .unset, .unset, .unset, .unset, .unset] [])
  refine own_goW (fun t k => XS.iloadN X0.here hx rfl (hb hby at_0) rfl k) ?_
  show own_EndW _ _ _ _ _ _ _ s₁ (mkF m 1 #[.val (.int p1), .val (.int p2), .val (.int p3), .val (.int p4), .val (.int p5), .unset, .unset, .unset, .unset, .unset, .unset, .unset, .unset, .unset, .unset] [(.int p1)])
  refine own_goW (fun t k => XS.iconst X0.here hx rfl (hb hby at_1) k) ?_
  show own_EndW _ _ _ _ _ _ _ s₁ (mkF m 2 #[.val (.int p1), .val (.int p2), .val (.int p3), .val (.int p4), .val (.int p5), .unset, .unset, .unset, .unset, .unset, .unset, .unset, .unset, .unset, .unset] [(.int (3 : Int32)), (.int p1)])
  refine own_goW (fun t k => XS.iand X0.here hx rfl (hb hby at_2) rfl k) ?_
  show own_EndW _ _ _ _ _ _ _ s₁ (mkF m 3 #[.val (.int p1), .val (.int p2), .val (.int p3), .val (.int p4), .val (.int p5), .unset, .unset, .unset, .unset, .unset, .unset, .unset, .unset, .unset, .unset] [(.int (p1 &&& (3 : Int32)))])
  rw [hn]
  show own_EndW _ _ _ _ _ _ _ s₁ (mkF m 3 #[.val (.int p1), .val (.int p2), .val (.int p3), .val (.int p4), .val (.int p5), .unset, .unset, .unset, .unset, .unset, .unset, .unset, .unset, .unset, .unset] [(.int (1 : Int32))])
  refine own_goW (fun t k => XS.istore X0.here hx rfl (hb hby at_3) rfl (l' := #[.val (.int p1), .val (.int p2), .val (.int p3), .val (.int p4), .val (.int p5), .val (.int (1 : Int32)), .unset, .unset, .unset, .unset, .unset, .unset, .unset, .unset, .unset]) rfl k) ?_
  show own_EndW _ _ _ _ _ _ _ s₁ (mkF m 5 #[.val (.int p1), .val (.int p2), .val (.int p3), .val (.int p4), .val (.int p5), .val (.int (1 : Int32)), .unset, .unset, .unset, .unset, .unset, .unset, .unset, .unset, .unset] [])
  refine own_goW (fun t k => XS.iloadN X0.here hx rfl (hb hby at_5) rfl k) ?_
  show own_EndW _ _ _ _ _ _ _ s₁ (mkF m 6 #[.val (.int p1), .val (.int p2), .val (.int p3), .val (.int p4), .val (.int p5), .val (.int (1 : Int32)), .unset, .unset, .unset, .unset, .unset, .unset, .unset, .unset, .unset] [(.int p2)])
  refine own_goW (fun t k => XS.iconst X0.here hx rfl (hb hby at_6) k) ?_
  show own_EndW _ _ _ _ _ _ _ s₁ (mkF m 7 #[.val (.int p1), .val (.int p2), .val (.int p3), .val (.int p4), .val (.int p5), .val (.int (1 : Int32)), .unset, .unset, .unset, .unset, .unset, .unset, .unset, .unset, .unset] [(.int (1 : Int32)), (.int p2)])
  refine own_goW (fun t k => XS.iand X0.here hx rfl (hb hby at_7) rfl k) ?_
  show own_EndW _ _ _ _ _ _ _ s₁ (mkF m 8 #[.val (.int p1), .val (.int p2), .val (.int p3), .val (.int p4), .val (.int p5), .val (.int (1 : Int32)), .unset, .unset, .unset, .unset, .unset, .unset, .unset, .unset, .unset] [(.int (p2 &&& (1 : Int32)))])
  by_cases hc8 : (p2 &&& (1 : Int32)) = (0 : Int32)
  · refine own_goW (fun t k => XS.ifYes X0.here hx rfl (pc0 := 8) (pc' := 15) rfl (hb hby at_8) rfl ((if0 _ _).trans (teq hc8).1) (by decide) (by decide) k) ?_
    show own_EndW _ _ _ _ _ _ _ s₁ (mkF m 15 #[.val (.int p1), .val (.int p2), .val (.int p3), .val (.int p4), .val (.int p5), .val (.int (1 : Int32)), .unset, .unset, .unset, .unset, .unset, .unset, .unset, .unset, .unset] [])
    refine own_goW (fun t k => XS.iconst X0.here hx rfl (hb hby at_15) k) ?_
    show own_EndW _ _ _ _ _ _ _ s₁ (mkF m 16 #[.val (.int p1), .val (.int p2), .val (.int p3), .val (.int p4), .val (.int p5), .val (.int (1 : Int32)), .unset, .unset, .unset, .unset, .unset, .unset, .unset, .unset, .unset] [(.int (0 : Int32))])
    refine own_goW (fun t k => XS.istore X0.here hx rfl (hb hby at_16) rfl (l' := #[.val (.int p1), .val (.int p2), .val (.int p3), .val (.int p4), .val (.int p5), .val (.int (1 : Int32)), .val (.int (0 : Int32)), .unset, .unset, .unset, .unset, .unset, .unset, .unset, .unset]) rfl k) ?_
    show own_EndW _ _ _ _ _ _ _ s₁ (mkF m 18 #[.val (.int p1), .val (.int p2), .val (.int p3), .val (.int p4), .val (.int p5), .val (.int (1 : Int32)), .val (.int (0 : Int32)), .unset, .unset, .unset, .unset, .unset, .unset, .unset, .unset] [])
    refine own_goW (fun t k => XS.iloadN X0.here hx rfl (hb hby at_18) rfl k) ?_
    show own_EndW _ _ _ _ _ _ _ s₁ (mkF m 19 #[.val (.int p1), .val (.int p2), .val (.int p3), .val (.int p4), .val (.int p5), .val (.int (1 : Int32)), .val (.int (0 : Int32)), .unset, .unset, .unset, .unset, .unset, .unset, .unset, .unset] [(.int p3)])
    refine own_goW (fun t k => XS.i2b X0.here hx rfl (hb hby at_19) rfl k) ?_
    show own_EndW _ _ _ _ _ _ _ s₁ (mkF m 20 #[.val (.int p1), .val (.int p2), .val (.int p3), .val (.int p4), .val (.int p5), .val (.int (1 : Int32)), .val (.int (0 : Int32)), .unset, .unset, .unset, .unset, .unset, .unset, .unset, .unset] [(.int (p3.toInt8.toInt32))])
    rw [he0]
    refine own_goW (fun t k => XS.istore X0.here hx rfl (hb hby at_20) rfl (l' := #[.val (.int p1), .val (.int p2), .val (.int p3), .val (.int p4), .val (.int p5), .val (.int (1 : Int32)), .val (.int (0 : Int32)), .val (.int y0), .unset, .unset, .unset, .unset, .unset, .unset, .unset]) rfl k) ?_
    show own_EndW _ _ _ _ _ _ _ s₁ (mkF m 22 #[.val (.int p1), .val (.int p2), .val (.int p3), .val (.int p4), .val (.int p5), .val (.int (1 : Int32)), .val (.int (0 : Int32)), .val (.int y0), .unset, .unset, .unset, .unset, .unset, .unset, .unset] [])
    refine own_goW (fun t k => XS.iloadN X0.here hx rfl (hb hby at_22) rfl k) ?_
    show own_EndW _ _ _ _ _ _ _ s₁ (mkF m 23 #[.val (.int p1), .val (.int p2), .val (.int p3), .val (.int p4), .val (.int p5), .val (.int (1 : Int32)), .val (.int (0 : Int32)), .val (.int y0), .unset, .unset, .unset, .unset, .unset, .unset, .unset] [(.int p4)])
    refine own_goW (fun t k => XS.i2b X0.here hx rfl (hb hby at_23) rfl k) ?_
    show own_EndW _ _ _ _ _ _ _ s₁ (mkF m 24 #[.val (.int p1), .val (.int p2), .val (.int p3), .val (.int p4), .val (.int p5), .val (.int (1 : Int32)), .val (.int (0 : Int32)), .val (.int y0), .unset, .unset, .unset, .unset, .unset, .unset, .unset] [(.int (p4.toInt8.toInt32))])
    rw [he1]
    refine own_goW (fun t k => XS.istore X0.here hx rfl (hb hby at_24) rfl (l' := #[.val (.int p1), .val (.int p2), .val (.int p3), .val (.int p4), .val (.int p5), .val (.int (1 : Int32)), .val (.int (0 : Int32)), .val (.int y0), .val (.int y1), .unset, .unset, .unset, .unset, .unset, .unset]) rfl k) ?_
    show own_EndW _ _ _ _ _ _ _ s₁ (mkF m 26 #[.val (.int p1), .val (.int p2), .val (.int p3), .val (.int p4), .val (.int p5), .val (.int (1 : Int32)), .val (.int (0 : Int32)), .val (.int y0), .val (.int y1), .unset, .unset, .unset, .unset, .unset, .unset] [])
    refine own_goW (fun t k => XS.iload X0.here hx rfl (hb hby at_26) rfl k) ?_
    show own_EndW _ _ _ _ _ _ _ s₁ (mkF m 28 #[.val (.int p1), .val (.int p2), .val (.int p3), .val (.int p4), .val (.int p5), .val (.int (1 : Int32)), .val (.int (0 : Int32)), .val (.int y0), .val (.int y1), .unset, .unset, .unset, .unset, .unset, .unset] [(.int p5)])
    refine own_goW (fun t k => XS.i2b X0.here hx rfl (hb hby at_28) rfl k) ?_
    show own_EndW _ _ _ _ _ _ _ s₁ (mkF m 29 #[.val (.int p1), .val (.int p2), .val (.int p3), .val (.int p4), .val (.int p5), .val (.int (1 : Int32)), .val (.int (0 : Int32)), .val (.int y0), .val (.int y1), .unset, .unset, .unset, .unset, .unset, .unset] [(.int (p5.toInt8.toInt32))])
    rw [he2]
    refine own_goW (fun t k => XS.istore X0.here hx rfl (hb hby at_29) rfl (l' := #[.val (.int p1), .val (.int p2), .val (.int p3), .val (.int p4), .val (.int p5), .val (.int (1 : Int32)), .val (.int (0 : Int32)), .val (.int y0), .val (.int y1), .val (.int y2), .unset, .unset, .unset, .unset, .unset]) rfl k) ?_
    show own_EndW _ _ _ _ _ _ _ s₁ (mkF m 31 #[.val (.int p1), .val (.int p2), .val (.int p3), .val (.int p4), .val (.int p5), .val (.int (1 : Int32)), .val (.int (0 : Int32)), .val (.int y0), .val (.int y1), .val (.int y2), .unset, .unset, .unset, .unset, .unset] [])
    refine own_goW (fun t k => XS.iload X0.here hx rfl (hb hby at_31) rfl k) ?_
    show own_EndW _ _ _ _ _ _ _ s₁ (mkF m 33 #[.val (.int p1), .val (.int p2), .val (.int p3), .val (.int p4), .val (.int p5), .val (.int (1 : Int32)), .val (.int (0 : Int32)), .val (.int y0), .val (.int y1), .val (.int y2), .unset, .unset, .unset, .unset, .unset] [(.int (1 : Int32))])
    obtain ⟨T159, h159, k159, X159, e159, E159, A159, B159, st159⟩ := newPE X0 hx hZ (hw _ (List.mem_of_getElem? (i := 0) rfl)) e0 (g := (mkF m 33 #[.val (.int p1), .val (.int p2), .val (.int p3), .val (.int p4), .val (.int p5), .val (.int (1 : Int32)), .val (.int (0 : Int32)), .val (.int y0), .val (.int y1), .val (.int y2), .unset, .unset, .unset, .unset, .unset] [(.int (1 : Int32))])) rfl (hb hby at_33) rfl (by decide) (cap := 1) (by decide) (by decide) (by decide) (by decide) (ad := "[B") (by decide)
    obtain ⟨b159, g159⟩ : ∃ z, z = h0.size := ⟨_, rfl⟩
    rw [← g159] at A159 B159 st159
    have g_b159 : n0 ≤ b159 := Nat.le_trans Z0 (Nat.le_of_eq g159.symm)
    have sz_b159 : h0.size ≤ b159 := Nat.le_trans (Keep.refl h0 []).1 (Nat.le_of_eq g159.symm)
    have V159 : Arv Z h159 b159 k159 .byte (1 : Int32) [(.int (0 : Int32))] (.int (0 : Int32)) := (Arv.new A159 (by decide)).pad (pad_rep [] (.int (0 : Int32)) 1)
    have K160 : Keep h0 h159 [] := (Keep.refl h0 []).ext E159
    refine own_goW st159 ?_
    show own_EndW _ _ _ _ _ _ _ T159 (mkF m 35 #[.val (.int p1), .val (.int p2), .val (.int p3), .val (.int p4), .val (.int p5), .val (.int (1 : Int32)), .val (.int (0 : Int32)), .val (.int y0), .val (.int y1), .val (.int y2), .unset, .unset, .unset, .unset, .unset] [(.ref b159)])
    refine own_goW (fun t k => XS.astore X159.here hx rfl (hb hby at_35) rfl rfl (l' := #[.val (.int p1), .val (.int p2), .val (.int p3), .val (.int p4), .val (.int p5), .val (.int (1 : Int32)), .val (.int (0 : Int32)), .val (.int y0), .val (.int y1), .val (.int y2), .val (.ref b159), .unset, .unset, .unset, .unset]) rfl k) ?_
    show own_EndW _ _ _ _ _ _ _ T159 (mkF m 37 #[.val (.int p1), .val (.int p2), .val (.int p3), .val (.int p4), .val (.int p5), .val (.int (1 : Int32)), .val (.int (0 : Int32)), .val (.int y0), .val (.int y1), .val (.int y2), .val (.ref b159), .unset, .unset, .unset, .unset] [])
    refine own_goW (fun t k => XS.iload X159.here hx rfl (hb hby at_37) rfl k) ?_
    show own_EndW _ _ _ _ _ _ _ T159 (mkF m 39 #[.val (.int p1), .val (.int p2), .val (.int p3), .val (.int p4), .val (.int p5), .val (.int (1 : Int32)), .val (.int (0 : Int32)), .val (.int y0), .val (.int y1), .val (.int y2), .val (.ref b159), .unset, .unset, .unset, .unset] [(.int (1 : Int32))])
    refine own_goW (fun t k => XS.ifNo X159.here hx rfl (hb hby at_39) rfl ((if0 _ _).trans (tlt (by decide : (0 : Int32) < (1 : Int32))).2.2.2) k) ?_
    show own_EndW _ _ _ _ _ _ _ T159 (mkF m 42 #[.val (.int p1), .val (.int p2), .val (.int p3), .val (.int p4), .val (.int p5), .val (.int (1 : Int32)), .val (.int (0 : Int32)), .val (.int y0), .val (.int y1), .val (.int y2), .val (.ref b159), .unset, .unset, .unset, .unset] [])
    refine own_goW (fun t k => XS.aload X159.here hx rfl (hb hby at_42) rfl rfl k) ?_
    show own_EndW _ _ _ _ _ _ _ T159 (mkF m 44 #[.val (.int p1), .val (.int p2), .val (.int p3), .val (.int p4), .val (.int p5), .val (.int (1 : Int32)), .val (.int (0 : Int32)), .val (.int y0), .val (.int y1), .val (.int y2), .val (.ref b159), .unset, .unset, .unset, .unset] [(.ref b159)])
    refine own_goW (fun t k => XS.iconst X159.here hx rfl (hb hby at_44) k) ?_
    show own_EndW _ _ _ _ _ _ _ T159 (mkF m 45 #[.val (.int p1), .val (.int p2), .val (.int p3), .val (.int p4), .val (.int p5), .val (.int (1 : Int32)), .val (.int (0 : Int32)), .val (.int y0), .val (.int y1), .val (.int y2), .val (.ref b159), .unset, .unset, .unset, .unset] [(.int (0 : Int32)), (.ref b159)])
    refine own_goW (fun t k => XS.iload X159.here hx rfl (hb hby at_45) rfl k) ?_
    show own_EndW _ _ _ _ _ _ _ T159 (mkF m 47 #[.val (.int p1), .val (.int p2), .val (.int p3), .val (.int p4), .val (.int p5), .val (.int (1 : Int32)), .val (.int (0 : Int32)), .val (.int y0), .val (.int y1), .val (.int y2), .val (.ref b159), .unset, .unset, .unset, .unset] [(.int y0), (.int (0 : Int32)), (.ref b159)])
    obtain ⟨cl161, Ar161, q161, S161, M161, H161, G161⟩ := id V159
    obtain ⟨T161, h161, X161, e161, W161, st161⟩ := stB X159 hx hZ e159 Ar161 (j := (0 : Int32)) (inb_of S161 ⟨by decide, by decide⟩) (g := (mkF m 47 #[.val (.int p1), .val (.int p2), .val (.int p3), .val (.int p4), .val (.int p5), .val (.int (1 : Int32)), .val (.int (0 : Int32)), .val (.int y0), .val (.int y1), .val (.int y2), .val (.ref b159), .unset, .unset, .unset, .unset] [(.int y0), (.int (0 : Int32)), (.ref b159)])) rfl rfl (hb hby at_47)
    have Vs161 := Arv.set Ar161 q161 S161 M161 H161 G161 (fits_nar_byte _) W161 0 rfl (Nat.le_of_ble_eq_true rfl)
    rw [hb0] at Vs161
    have V161v : Arv Z h161 b159 k159 .byte (1 : Int32) [(.int y0)] (.int (0 : Int32)) := Vs161
    have K162 : Keep h0 h161 [] := K160.wr W161 (Or.inr sz_b159)
    have N161 := Fr.snoc X161 N0 g_b159
    refine own_goW st161 ?_
    show own_EndW _ _ _ _ _ _ _ T161 (mkF m 48 #[.val (.int p1), .val (.int p2), .val (.int p3), .val (.int p4), .val (.int p5), .val (.int (1 : Int32)), .val (.int (0 : Int32)), .val (.int y0), .val (.int y1), .val (.int y2), .val (.ref b159), .unset, .unset, .unset, .unset] [])
    refine own_goW (fun t k => XS.iload X161.here hx rfl (hb hby at_48) rfl k) ?_
    show own_EndW _ _ _ _ _ _ _ T161 (mkF m 50 #[.val (.int p1), .val (.int p2), .val (.int p3), .val (.int p4), .val (.int p5), .val (.int (1 : Int32)), .val (.int (0 : Int32)), .val (.int y0), .val (.int y1), .val (.int y2), .val (.ref b159), .unset, .unset, .unset, .unset] [(.int (1 : Int32))])
    refine own_goW (fun t k => XS.iconst X161.here hx rfl (hb hby at_50) k) ?_
    show own_EndW _ _ _ _ _ _ _ T161 (mkF m 51 #[.val (.int p1), .val (.int p2), .val (.int p3), .val (.int p4), .val (.int p5), .val (.int (1 : Int32)), .val (.int (0 : Int32)), .val (.int y0), .val (.int y1), .val (.int y2), .val (.ref b159), .unset, .unset, .unset, .unset] [(.int (1 : Int32)), (.int (1 : Int32))])
    refine own_goW (fun t k => XS.icmpYes X161.here hx rfl (pc0 := 51) (pc' := 60) rfl (hb hby at_51) rfl (flt (by decide : ¬ ((1 : Int32) < (1 : Int32)))).2.2.2 (by decide) (by decide) k) ?_
    show own_EndW _ _ _ _ _ _ _ T161 (mkF m 60 #[.val (.int p1), .val (.int p2), .val (.int p3), .val (.int p4), .val (.int p5), .val (.int (1 : Int32)), .val (.int (0 : Int32)), .val (.int y0), .val (.int y1), .val (.int y2), .val (.ref b159), .unset, .unset, .unset, .unset] [])
    refine own_goW (fun t k => XS.iload X161.here hx rfl (hb hby at_60) rfl k) ?_
    show own_EndW _ _ _ _ _ _ _ T161 (mkF m 62 #[.val (.int p1), .val (.int p2), .val (.int p3), .val (.int p4), .val (.int p5), .val (.int (1 : Int32)), .val (.int (0 : Int32)), .val (.int y0), .val (.int y1), .val (.int y2), .val (.ref b159), .unset, .unset, .unset, .unset] [(.int (1 : Int32))])
    refine own_goW (fun t k => XS.iconst X161.here hx rfl (hb hby at_62) k) ?_
    show own_EndW _ _ _ _ _ _ _ T161 (mkF m 63 #[.val (.int p1), .val (.int p2), .val (.int p3), .val (.int p4), .val (.int p5), .val (.int (1 : Int32)), .val (.int (0 : Int32)), .val (.int y0), .val (.int y1), .val (.int y2), .val (.ref b159), .unset, .unset, .unset, .unset] [(.int (2 : Int32)), (.int (1 : Int32))])
    refine own_goW (fun t k => XS.icmpYes X161.here hx rfl (pc0 := 63) (pc' := 72) rfl (hb hby at_63) rfl (flt (by decide : ¬ ((2 : Int32) < (1 : Int32)))).2.2.2 (by decide) (by decide) k) ?_
    show own_EndW _ _ _ _ _ _ _ T161 (mkF m 72 #[.val (.int p1), .val (.int p2), .val (.int p3), .val (.int p4), .val (.int p5), .val (.int (1 : Int32)), .val (.int (0 : Int32)), .val (.int y0), .val (.int y1), .val (.int y2), .val (.ref b159), .unset, .unset, .unset, .unset] [])
    obtain ⟨T163, h163, X163, e163, E163, A163, D163, -, st163⟩ := newO X161 hx hZ hown (hw _ (List.mem_of_getElem? (i := 1) rfl)) (hw _ (List.mem_of_getElem? (i := 2) rfl)) (hw _ (List.mem_of_getElem? (i := 3) rfl)) e161 (g := (mkF m 72 #[.val (.int p1), .val (.int p2), .val (.int p3), .val (.int p4), .val (.int p5), .val (.int (1 : Int32)), .val (.int (0 : Int32)), .val (.int y0), .val (.int y1), .val (.int y2), .val (.ref b159), .unset, .unset, .unset, .unset] [])) rfl (hb hby at_72) (by decide) (by decide)
    obtain ⟨b163, g163⟩ : ∃ z, z = h161.size := ⟨_, rfl⟩
    rw [← g163] at A163 D163 st163
    have ne_b159_b163 : b159 ≠ b163 := Nat.ne_of_lt (Nat.lt_of_lt_of_le V161v.lt (Nat.le_of_eq g163.symm))
    have g_b163 : n0 ≤ b163 := Nat.le_trans (Nat.le_trans (Nat.le_trans Z0 E159.1) (Keep.of_wr W161).1) (Nat.le_of_eq g163.symm)
    have sz_b163 : h0.size ≤ b163 := Nat.le_trans K162.1 (Nat.le_of_eq g163.symm)
    have F163_code : Fld Z h163 b163 "com/example/coxswain/coxswain/wire/Status" "code" "Lcom/example/coxswain/coxswain/wire/StatusCode;" .null := D163 (Or.inr (hw _ (List.mem_of_getElem? (i := 33) rfl))) (ty := (.object "com/example/coxswain/coxswain/wire/StatusCode")) (by decide)
    have F163_description : Fld Z h163 b163 "com/example/coxswain/coxswain/wire/Status" "description" "Ljava/lang/String;" .null := D163 (Or.inr (hw _ (List.mem_of_getElem? (i := 35) rfl))) (ty := (.object "java/lang/String")) (by decide)
    have F163_details : Fld Z h163 b163 "com/example/coxswain/coxswain/wire/Status" "details" "[B" .null := D163 (Or.inr (hw _ (List.mem_of_getElem? (i := 37) rfl))) (ty := (.array .byte)) (by decide)
    have K164 : Keep h0 h163 [] := K162.ext E163
    refine own_goW st163 ?_
    show own_EndW _ _ _ _ _ _ _ T163 (mkF m 75 #[.val (.int p1), .val (.int p2), .val (.int p3), .val (.int p4), .val (.int p5), .val (.int (1 : Int32)), .val (.int (0 : Int32)), .val (.int y0), .val (.int y1), .val (.int y2), .val (.ref b159), .unset, .unset, .unset, .unset] [(.ref b163)])
    refine own_goW (fun t k => XS.dup X163.here hx rfl (hb hby at_75) rfl rfl k) ?_
    show own_EndW _ _ _ _ _ _ _ T163 (mkF m 76 #[.val (.int p1), .val (.int p2), .val (.int p3), .val (.int p4), .val (.int p5), .val (.int (1 : Int32)), .val (.int (0 : Int32)), .val (.int y0), .val (.int y1), .val (.int y2), .val (.ref b159), .unset, .unset, .unset, .unset] [(.ref b163), (.ref b163)])
    obtain ⟨T165, X165, e165, st165⟩ := getS2 X163 hx hZ hown (host := "") (Or.inl (hw _ (List.mem_of_getElem? (i := 4) rfl))) Via.refl e163 (own_StaK SU K164) (g := (mkF m 76 #[.val (.int p1), .val (.int p2), .val (.int p3), .val (.int p4), .val (.int p5), .val (.int (1 : Int32)), .val (.int (0 : Int32)), .val (.int y0), .val (.int y1), .val (.int y2), .val (.ref b159), .unset, .unset, .unset, .unset] [(.ref b163), (.ref b163)])) rfl (hb hby at_76)
    refine own_goW st165 ?_
    show own_EndW _ _ _ _ _ _ _ T165 (mkF m 79 #[.val (.int p1), .val (.int p2), .val (.int p3), .val (.int p4), .val (.int p5), .val (.int (1 : Int32)), .val (.int (0 : Int32)), .val (.int y0), .val (.int y1), .val (.int y2), .val (.ref b159), .unset, .unset, .unset, .unset] [(.ref wU), (.ref b163), (.ref b163)])
    refine own_goW (fun t k => XS.aconstNull X165.here hx rfl (hb hby at_79) k) ?_
    show own_EndW _ _ _ _ _ _ _ T165 (mkF m 80 #[.val (.int p1), .val (.int p2), .val (.int p3), .val (.int p4), .val (.int p5), .val (.int (1 : Int32)), .val (.int (0 : Int32)), .val (.int y0), .val (.int y1), .val (.int y2), .val (.ref b159), .unset, .unset, .unset, .unset] [.null, (.ref wU), (.ref b163), (.ref b163)])
    refine own_goW (fun t k => XS.iload X165.here hx rfl (hb hby at_80) rfl k) ?_
    show own_EndW _ _ _ _ _ _ _ T165 (mkF m 82 #[.val (.int p1), .val (.int p2), .val (.int p3), .val (.int p4), .val (.int p5), .val (.int (1 : Int32)), .val (.int (0 : Int32)), .val (.int y0), .val (.int y1), .val (.int y2), .val (.ref b159), .unset, .unset, .unset, .unset] [(.int (0 : Int32)), .null, (.ref wU), (.ref b163), (.ref b163)])
    refine own_goW (fun t k => XS.ifYes X165.here hx rfl (pc0 := 82) (pc' := 89) rfl (hb hby at_82) rfl ((if0 _ _).trans (teq (by decide : (0 : Int32) = (0 : Int32))).1) (by decide) (by decide) k) ?_
    show own_EndW _ _ _ _ _ _ _ T165 (mkF m 89 #[.val (.int p1), .val (.int p2), .val (.int p3), .val (.int p4), .val (.int p5), .val (.int (1 : Int32)), .val (.int (0 : Int32)), .val (.int y0), .val (.int y1), .val (.int y2), .val (.ref b159), .unset, .unset, .unset, .unset] [.null, (.ref wU), (.ref b163), (.ref b163)])
    refine own_goW (fun t k => XS.aload X165.here hx rfl (hb hby at_89) rfl rfl k) ?_
    show own_EndW _ _ _ _ _ _ _ T165 (mkF m 91 #[.val (.int p1), .val (.int p2), .val (.int p3), .val (.int p4), .val (.int p5), .val (.int (1 : Int32)), .val (.int (0 : Int32)), .val (.int y0), .val (.int y1), .val (.int y2), .val (.ref b159), .unset, .unset, .unset, .unset] [(.ref b159), .null, (.ref wU), (.ref b163), (.ref b163)])
    obtain ⟨v166, T166, L166, X166, hQ166, hS166, hZ, hown, st166⟩ := own_callNW (y := (⟨"com/example/coxswain/coxswain/wire/Status", "<init>", "(Lcom/example/coxswain/coxswain/wire/StatusCode;Ljava/lang/String;[B)V"⟩ : MethodName)) X165 hx hZ hown (hw _ (List.mem_of_getElem? (i := 7) rfl)) (hw _ (List.mem_of_getElem? (i := 8) rfl)) (hw _ (List.mem_of_getElem? (i := 9) rfl)) (by decide) (hw _ (List.mem_of_getElem? (i := 3) rfl)) (rmI1 l Z a0 hw [] b163 wU b159 k159 y0 h163 n0 (Nat.le_trans (Nat.le_trans (Nat.le_trans Z0 E159.1) (Keep.of_wr W161).1) E163.1) A163 g_b163 F163_code F163_description F163_details (V161v.ext E163) (Ne.symm ne_b159_b163) ((B159.wr W161).ext E163)) e165 (W := 1) (by decide) (by decide) (g := (mkF m 91 #[.val (.int p1), .val (.int p2), .val (.int p3), .val (.int p4), .val (.int p5), .val (.int (1 : Int32)), .val (.int (0 : Int32)), .val (.int y0), .val (.int y1), .val (.int y2), .val (.ref b159), .unset, .unset, .unset, .unset] [(.ref b159), .null, (.ref wU), (.ref b163), (.ref b163)])) rfl (by rw [hml]; rfl) (argsL := [(.ref wU), .null, (.ref b159)]) (rest := [(.ref b163)]) (a := b163) rfl rfl (lenOf pd__Lcom_example_coxswain_coxswain_wire_StatusCode_Ljava_lang_String__B_V rfl) rfl (by show 2 * 0 + _ ≤ _; exact Nat.le_of_eq rfl) (hb hby at_91) (by decide) (by decide)
    obtain ⟨rfl, N166q, Kc166, Ec166, d166, gd166, zd166, Fd166, Vd166, Ed166⟩ := hQ166
    have N166 := Fr.app N161 N166q
    have ne_b159_d166 : b159 ≠ d166 := Nat.ne_of_lt (Nat.lt_of_lt_of_le (V161v.ext E163).lt zd166)
    have ne_b163_d166 : b163 ≠ d166 := Nat.ne_of_lt (Nat.lt_of_lt_of_le A163.lt zd166)
    have K166 : Keep h0 T166.heap [] := K164.trans Kc166 (fun x hx => by cases List.mem_singleton.mp hx; exact Or.inr sz_b163)
    refine own_goW st166 ?_
    show own_EndW _ _ _ _ _ _ _ T166 (mkF m 94 #[.val (.int p1), .val (.int p2), .val (.int p3), .val (.int p4), .val (.int p5), .val (.int (1 : Int32)), .val (.int (0 : Int32)), .val (.int y0), .val (.int y1), .val (.int y2), .val (.ref b159), .unset, .unset, .unset, .unset] [(.ref b163)])
    refine own_goW (fun t k => XS.astore X166.here hx rfl (hb hby at_94) rfl rfl (l' := #[.val (.int p1), .val (.int p2), .val (.int p3), .val (.int p4), .val (.int p5), .val (.int (1 : Int32)), .val (.int (0 : Int32)), .val (.int y0), .val (.int y1), .val (.int y2), .val (.ref b159), .val (.ref b163), .unset, .unset, .unset]) rfl k) ?_
    show own_EndW _ _ _ _ _ _ _ T166 (mkF m 96 #[.val (.int p1), .val (.int p2), .val (.int p3), .val (.int p4), .val (.int p5), .val (.int (1 : Int32)), .val (.int (0 : Int32)), .val (.int y0), .val (.int y1), .val (.int y2), .val (.ref b159), .val (.ref b163), .unset, .unset, .unset] [])
    refine own_goW (fun t k => XS.aload X166.here hx rfl (hb hby at_96) rfl rfl k) ?_
    show own_EndW _ _ _ _ _ _ _ T166 (mkF m 98 #[.val (.int p1), .val (.int p2), .val (.int p3), .val (.int p4), .val (.int p5), .val (.int (1 : Int32)), .val (.int (0 : Int32)), .val (.int y0), .val (.int y1), .val (.int y2), .val (.ref b159), .val (.ref b163), .unset, .unset, .unset] [(.ref b159)])
    obtain ⟨v167, T167, L167, X167, hQ167, st167⟩ := own_callS (y := (⟨"com/example/coxswain/coxswain/wire/StatusDetailsPinLaw", "scramble", "([B)V"⟩ : MethodName)) X166 hx hZ hown (hw _ (List.mem_of_getElem? (i := 38) rfl)) (hw _ (List.mem_of_getElem? (i := 39) rfl)) (hw _ (List.mem_of_getElem? (i := 41) rfl)) (by decide) (hw _ (List.mem_of_getElem? (i := 40) rfl)) (rmS1 l Z a0 hw [] b159 k159 y0 T166.heap n0 (Nat.le_trans (Nat.le_trans (Nat.le_trans (Nat.le_trans Z0 E159.1) (Keep.of_wr W161).1) E163.1) Kc166.1) ((V161v.ext E163).keep Kc166 (ninS ne_b159_b163 nin0)) g_b159) rfl (W := 0) (by decide) (by decide) (g := (mkF m 98 #[.val (.int p1), .val (.int p2), .val (.int p3), .val (.int p4), .val (.int p5), .val (.int (1 : Int32)), .val (.int (0 : Int32)), .val (.int y0), .val (.int y1), .val (.int y2), .val (.ref b159), .val (.ref b163), .unset, .unset, .unset] [(.ref b159)])) rfl (by rw [hml]; rfl) (argsL := [(.ref b159)]) (rest := []) rfl (lenOf pd___B_V rfl) rfl (by show 2 * 0 + _ ≤ _; exact Nat.le_of_eq rfl) (hb hby at_98) (by decide) (by decide)
    obtain ⟨rfl, N167q, Kc167⟩ := hQ167
    have N167 := Fr.app N166 N167q
    refine own_goW st167 ?_
    have K167 : Keep h0 T167.heap [] := K166.trans Kc167 (fun x hx => by cases List.mem_singleton.mp hx; exact Or.inr sz_b159)
    show own_EndW _ _ _ _ _ _ _ T167 (mkF m 101 #[.val (.int p1), .val (.int p2), .val (.int p3), .val (.int p4), .val (.int p5), .val (.int (1 : Int32)), .val (.int (0 : Int32)), .val (.int y0), .val (.int y1), .val (.int y2), .val (.ref b159), .val (.ref b163), .unset, .unset, .unset] [])
    refine own_goW (fun t k => XS.iload X167.here hx rfl (hb hby at_101) rfl k) ?_
    show own_EndW _ _ _ _ _ _ _ T167 (mkF m 103 #[.val (.int p1), .val (.int p2), .val (.int p3), .val (.int p4), .val (.int p5), .val (.int (1 : Int32)), .val (.int (0 : Int32)), .val (.int y0), .val (.int y1), .val (.int y2), .val (.ref b159), .val (.ref b163), .unset, .unset, .unset] [(.int (0 : Int32))])
    refine own_goW (fun t k => XS.ifYes X167.here hx rfl (pc0 := 103) (pc' := 110) rfl (hb hby at_103) rfl ((if0 _ _).trans (teq (by decide : (0 : Int32) = (0 : Int32))).1) (by decide) (by decide) k) ?_
    show own_EndW _ _ _ _ _ _ _ T167 (mkF m 110 #[.val (.int p1), .val (.int p2), .val (.int p3), .val (.int p4), .val (.int p5), .val (.int (1 : Int32)), .val (.int (0 : Int32)), .val (.int y0), .val (.int y1), .val (.int y2), .val (.ref b159), .val (.ref b163), .unset, .unset, .unset] [])
    refine own_goW (fun t k => XS.iload X167.here hx rfl (hb hby at_110) rfl k) ?_
    show own_EndW _ _ _ _ _ _ _ T167 (mkF m 112 #[.val (.int p1), .val (.int p2), .val (.int p3), .val (.int p4), .val (.int p5), .val (.int (1 : Int32)), .val (.int (0 : Int32)), .val (.int y0), .val (.int y1), .val (.int y2), .val (.ref b159), .val (.ref b163), .unset, .unset, .unset] [(.int (1 : Int32))])
    refine own_goW (fun t k => XS.istore X167.here hx rfl (hb hby at_112) rfl (l' := #[.val (.int p1), .val (.int p2), .val (.int p3), .val (.int p4), .val (.int p5), .val (.int (1 : Int32)), .val (.int (0 : Int32)), .val (.int y0), .val (.int y1), .val (.int y2), .val (.ref b159), .val (.ref b163), .val (.int (1 : Int32)), .unset, .unset]) rfl k) ?_
    show own_EndW _ _ _ _ _ _ _ T167 (mkF m 114 #[.val (.int p1), .val (.int p2), .val (.int p3), .val (.int p4), .val (.int p5), .val (.int (1 : Int32)), .val (.int (0 : Int32)), .val (.int y0), .val (.int y1), .val (.int y2), .val (.ref b159), .val (.ref b163), .val (.int (1 : Int32)), .unset, .unset] [])
    refine own_goW (fun t k => XS.aload X167.here hx rfl (hb hby at_114) rfl rfl k) ?_
    show own_EndW _ _ _ _ _ _ _ T167 (mkF m 116 #[.val (.int p1), .val (.int p2), .val (.int p3), .val (.int p4), .val (.int p5), .val (.int (1 : Int32)), .val (.int (0 : Int32)), .val (.int y0), .val (.int y1), .val (.int y2), .val (.ref b159), .val (.ref b163), .val (.int (1 : Int32)), .unset, .unset] [(.ref b163)])
    obtain ⟨v168, T168, L168, X168, hQ168, st168⟩ := own_callV (y := (⟨"com/example/coxswain/coxswain/wire/Status", "details", "()[B"⟩ : MethodName)) (z := (⟨"com/example/coxswain/coxswain/wire/Status", "details", "()[B"⟩ : MethodName)) X167 hx hZ hown (hw _ (List.mem_of_getElem? (i := 42) rfl)) (hw _ (List.mem_of_getElem? (i := 43) rfl)) (hw _ (List.mem_of_getElem? (i := 45) rfl)) (hw _ (List.mem_of_getElem? (i := 44) rfl)) (Ec166.keep Kc167) (hw _ (List.mem_of_getElem? (i := 46) rfl)) (by decide) (hw _ (List.mem_of_getElem? (i := 3) rfl)) (rmT1 l Z a0 hw [] b163 d166 k159 y0 T167.heap n0 (Nat.le_trans (Nat.le_trans (Nat.le_trans (Nat.le_trans (Nat.le_trans Z0 E159.1) (Keep.of_wr W161).1) E163.1) Kc166.1) Kc167.1) (Fd166.keep Kc167 (ninS (Ne.symm ne_b159_b163) nin0)) (Vd166.keep Kc167 (ninS (Ne.symm ne_b159_d166) nin0)) (Ed166.keep Kc167)) rfl (W := 0) (by decide) (by decide) (g := (mkF m 116 #[.val (.int p1), .val (.int p2), .val (.int p3), .val (.int p4), .val (.int p5), .val (.int (1 : Int32)), .val (.int (0 : Int32)), .val (.int y0), .val (.int y1), .val (.int y2), .val (.ref b159), .val (.ref b163), .val (.int (1 : Int32)), .unset, .unset] [(.ref b163)])) rfl (by rw [hml]; rfl) (argsL := []) (rest := []) (b := b163) rfl (notFace_of_selects (args := #[]) (mvT hZ (hw _ (List.mem_of_getElem? (i := 45) rfl)))) (lenOf pd____B rfl) rfl (by show 2 * 0 + _ ≤ _; exact Nat.le_of_eq rfl) (hb hby at_116) (by decide) (by decide)
    obtain ⟨x168, rfl, N168q, Kc168, gx168, zx168, Vx168⟩ := hQ168
    have N168 := Fr.app N167 N168q
    refine own_goW st168 ?_
    have ne_b159_x168 : b159 ≠ x168 := Nat.ne_of_lt (Nat.lt_of_lt_of_le ((((B159.wr W161).ext E163).keep Kc166).keep Kc167).lt zx168)
    have ne_b163_x168 : b163 ≠ x168 := Nat.ne_of_lt (Nat.lt_of_lt_of_le (Ec166.keep Kc167).lt zx168)
    have ne_d166_x168 : d166 ≠ x168 := Nat.ne_of_lt (Nat.lt_of_lt_of_le (Vd166.keep Kc167 (ninS (Ne.symm ne_b159_d166) nin0)).lt zx168)
    have sz_x168 : h0.size ≤ x168 := Nat.le_trans K167.1 zx168
    have K168 : Keep h0 T168.heap [] := K167.trans Kc168 (fun x hx => nomatch hx)
    show own_EndW _ _ _ _ _ _ _ T168 (mkF m 119 #[.val (.int p1), .val (.int p2), .val (.int p3), .val (.int p4), .val (.int p5), .val (.int (1 : Int32)), .val (.int (0 : Int32)), .val (.int y0), .val (.int y1), .val (.int y2), .val (.ref b159), .val (.ref b163), .val (.int (1 : Int32)), .unset, .unset] [(.ref x168)])
    refine own_goW (fun t k => XS.astore X168.here hx rfl (hb hby at_119) rfl rfl (l' := #[.val (.int p1), .val (.int p2), .val (.int p3), .val (.int p4), .val (.int p5), .val (.int (1 : Int32)), .val (.int (0 : Int32)), .val (.int y0), .val (.int y1), .val (.int y2), .val (.ref b159), .val (.ref b163), .val (.int (1 : Int32)), .val (.ref x168), .unset]) rfl k) ?_
    show own_EndW _ _ _ _ _ _ _ T168 (mkF m 121 #[.val (.int p1), .val (.int p2), .val (.int p3), .val (.int p4), .val (.int p5), .val (.int (1 : Int32)), .val (.int (0 : Int32)), .val (.int y0), .val (.int y1), .val (.int y2), .val (.ref b159), .val (.ref b163), .val (.int (1 : Int32)), .val (.ref x168), .unset] [])
    refine own_goW (fun t k => XS.aload X168.here hx rfl (hb hby at_121) rfl rfl k) ?_
    show own_EndW _ _ _ _ _ _ _ T168 (mkF m 123 #[.val (.int p1), .val (.int p2), .val (.int p3), .val (.int p4), .val (.int p5), .val (.int (1 : Int32)), .val (.int (0 : Int32)), .val (.int y0), .val (.int y1), .val (.int y2), .val (.ref b159), .val (.ref b163), .val (.int (1 : Int32)), .val (.ref x168), .unset] [(.ref x168)])
    refine own_goW (fun t k => XS.iload X168.here hx rfl (hb hby at_123) rfl k) ?_
    show own_EndW _ _ _ _ _ _ _ T168 (mkF m 125 #[.val (.int p1), .val (.int p2), .val (.int p3), .val (.int p4), .val (.int p5), .val (.int (1 : Int32)), .val (.int (0 : Int32)), .val (.int y0), .val (.int y1), .val (.int y2), .val (.ref b159), .val (.ref b163), .val (.int (1 : Int32)), .val (.ref x168), .unset] [(.int (1 : Int32)), (.ref x168)])
    refine own_goW (fun t k => XS.iload X168.here hx rfl (hb hby at_125) rfl k) ?_
    show own_EndW _ _ _ _ _ _ _ T168 (mkF m 127 #[.val (.int p1), .val (.int p2), .val (.int p3), .val (.int p4), .val (.int p5), .val (.int (1 : Int32)), .val (.int (0 : Int32)), .val (.int y0), .val (.int y1), .val (.int y2), .val (.ref b159), .val (.ref b163), .val (.int (1 : Int32)), .val (.ref x168), .unset] [(.int y0), (.int (1 : Int32)), (.ref x168)])
    refine own_goW (fun t k => XS.iload X168.here hx rfl (hb hby at_127) rfl k) ?_
    show own_EndW _ _ _ _ _ _ _ T168 (mkF m 129 #[.val (.int p1), .val (.int p2), .val (.int p3), .val (.int p4), .val (.int p5), .val (.int (1 : Int32)), .val (.int (0 : Int32)), .val (.int y0), .val (.int y1), .val (.int y2), .val (.ref b159), .val (.ref b163), .val (.int (1 : Int32)), .val (.ref x168), .unset] [(.int y1), (.int y0), (.int (1 : Int32)), (.ref x168)])
    refine own_goW (fun t k => XS.iload X168.here hx rfl (hb hby at_129) rfl k) ?_
    show own_EndW _ _ _ _ _ _ _ T168 (mkF m 131 #[.val (.int p1), .val (.int p2), .val (.int p3), .val (.int p4), .val (.int p5), .val (.int (1 : Int32)), .val (.int (0 : Int32)), .val (.int y0), .val (.int y1), .val (.int y2), .val (.ref b159), .val (.ref b163), .val (.int (1 : Int32)), .val (.ref x168), .unset] [(.int y2), (.int y1), (.int y0), (.int (1 : Int32)), (.ref x168)])
    obtain ⟨v169, T169, L169, X169, hQ169, st169⟩ := own_callS (y := (⟨"com/example/coxswain/coxswain/wire/StatusDetailsPinLaw", "same", "([BIBBB)Z"⟩ : MethodName)) X168 hx hZ hown (hw _ (List.mem_of_getElem? (i := 47) rfl)) (hw _ (List.mem_of_getElem? (i := 48) rfl)) (hw _ (List.mem_of_getElem? (i := 49) rfl)) (by decide) (hw _ (List.mem_of_getElem? (i := 40) rfl)) (rmM1 l Z a0 hw [] x168 y0 y1 y2 k159 T168.heap n0 (Nat.le_trans (Nat.le_trans (Nat.le_trans (Nat.le_trans (Nat.le_trans (Nat.le_trans Z0 E159.1) (Keep.of_wr W161).1) E163.1) Kc166.1) Kc167.1) Kc168.1) Vx168) rfl (W := 0) (by decide) (by decide) (g := (mkF m 131 #[.val (.int p1), .val (.int p2), .val (.int p3), .val (.int p4), .val (.int p5), .val (.int (1 : Int32)), .val (.int (0 : Int32)), .val (.int y0), .val (.int y1), .val (.int y2), .val (.ref b159), .val (.ref b163), .val (.int (1 : Int32)), .val (.ref x168), .unset] [(.int y2), (.int y1), (.int y0), (.int (1 : Int32)), (.ref x168)])) rfl (by rw [hml]; rfl) (argsL := [(.ref x168), (.int (1 : Int32)), (.int y0), (.int y1), (.int y2)]) (rest := []) rfl (lenOf pd___BIBBB_Z rfl) rfl (by show 2 * 0 + _ ≤ _; exact Nat.le_of_eq rfl) (hb hby at_131) (by decide) (by decide)
    obtain ⟨rfl, N169q, e169⟩ := hQ169
    have N169 := Fr.app N168 N169q
    refine own_goW st169 ?_
    show own_EndW _ _ _ _ _ _ _ T169 (mkF m 134 #[.val (.int p1), .val (.int p2), .val (.int p3), .val (.int p4), .val (.int p5), .val (.int (1 : Int32)), .val (.int (0 : Int32)), .val (.int y0), .val (.int y1), .val (.int y2), .val (.ref b159), .val (.ref b163), .val (.int (1 : Int32)), .val (.ref x168), .unset] [(.int (1 : Int32))])
    refine own_goW (fun t k => XS.ifYes X169.here hx rfl (pc0 := 134) (pc' := 139) rfl (hb hby at_134) rfl ((if0 _ _).trans (feq (by decide : ¬ ((1 : Int32) = (0 : Int32)))).2) (by decide) (by decide) k) ?_
    show own_EndW _ _ _ _ _ _ _ T169 (mkF m 139 #[.val (.int p1), .val (.int p2), .val (.int p3), .val (.int p4), .val (.int p5), .val (.int (1 : Int32)), .val (.int (0 : Int32)), .val (.int y0), .val (.int y1), .val (.int y2), .val (.ref b159), .val (.ref b163), .val (.int (1 : Int32)), .val (.ref x168), .unset] [])
    refine own_goW (fun t k => XS.aload X169.here hx rfl (hb hby at_139) rfl rfl k) ?_
    show own_EndW _ _ _ _ _ _ _ T169 (mkF m 141 #[.val (.int p1), .val (.int p2), .val (.int p3), .val (.int p4), .val (.int p5), .val (.int (1 : Int32)), .val (.int (0 : Int32)), .val (.int y0), .val (.int y1), .val (.int y2), .val (.ref b159), .val (.ref b163), .val (.int (1 : Int32)), .val (.ref x168), .unset] [(.ref x168)])
    obtain ⟨v170, T170, L170, X170, hQ170, st170⟩ := own_callS (y := (⟨"com/example/coxswain/coxswain/wire/StatusDetailsPinLaw", "scramble", "([B)V"⟩ : MethodName)) X169 hx hZ hown (hw _ (List.mem_of_getElem? (i := 38) rfl)) (hw _ (List.mem_of_getElem? (i := 39) rfl)) (hw _ (List.mem_of_getElem? (i := 41) rfl)) (by decide) (hw _ (List.mem_of_getElem? (i := 40) rfl)) (rmS1 l Z a0 hw [] x168 k159 y0 T168.heap n0 (Nat.le_trans (Nat.le_trans (Nat.le_trans (Nat.le_trans (Nat.le_trans (Nat.le_trans Z0 E159.1) (Keep.of_wr W161).1) E163.1) Kc166.1) Kc167.1) Kc168.1) Vx168 gx168) e169 (W := 0) (by decide) (by decide) (g := (mkF m 141 #[.val (.int p1), .val (.int p2), .val (.int p3), .val (.int p4), .val (.int p5), .val (.int (1 : Int32)), .val (.int (0 : Int32)), .val (.int y0), .val (.int y1), .val (.int y2), .val (.ref b159), .val (.ref b163), .val (.int (1 : Int32)), .val (.ref x168), .unset] [(.ref x168)])) rfl (by rw [hml]; rfl) (argsL := [(.ref x168)]) (rest := []) rfl (lenOf pd___B_V rfl) rfl (by show 2 * 0 + _ ≤ _; exact Nat.le_of_eq rfl) (hb hby at_141) (by decide) (by decide)
    obtain ⟨rfl, N170q, Kc170⟩ := hQ170
    have N170 := Fr.app N169 N170q
    refine own_goW st170 ?_
    have K170 : Keep h0 T170.heap [] := K168.trans Kc170 (fun x hx => by cases List.mem_singleton.mp hx; exact Or.inr sz_x168)
    show own_EndW _ _ _ _ _ _ _ T170 (mkF m 144 #[.val (.int p1), .val (.int p2), .val (.int p3), .val (.int p4), .val (.int p5), .val (.int (1 : Int32)), .val (.int (0 : Int32)), .val (.int y0), .val (.int y1), .val (.int y2), .val (.ref b159), .val (.ref b163), .val (.int (1 : Int32)), .val (.ref x168), .unset] [])
    refine own_goW (fun t k => XS.aload X170.here hx rfl (hb hby at_144) rfl rfl k) ?_
    show own_EndW _ _ _ _ _ _ _ T170 (mkF m 146 #[.val (.int p1), .val (.int p2), .val (.int p3), .val (.int p4), .val (.int p5), .val (.int (1 : Int32)), .val (.int (0 : Int32)), .val (.int y0), .val (.int y1), .val (.int y2), .val (.ref b159), .val (.ref b163), .val (.int (1 : Int32)), .val (.ref x168), .unset] [(.ref b163)])
    obtain ⟨v171, T171, L171, X171, hQ171, st171⟩ := own_callV (y := (⟨"com/example/coxswain/coxswain/wire/Status", "details", "()[B"⟩ : MethodName)) (z := (⟨"com/example/coxswain/coxswain/wire/Status", "details", "()[B"⟩ : MethodName)) X170 hx hZ hown (hw _ (List.mem_of_getElem? (i := 42) rfl)) (hw _ (List.mem_of_getElem? (i := 43) rfl)) (hw _ (List.mem_of_getElem? (i := 45) rfl)) (hw _ (List.mem_of_getElem? (i := 44) rfl)) (((Ec166.keep Kc167).keep Kc168).keep Kc170) (hw _ (List.mem_of_getElem? (i := 46) rfl)) (by decide) (hw _ (List.mem_of_getElem? (i := 3) rfl)) (rmT1 l Z a0 hw [] b163 d166 k159 y0 T170.heap n0 (Nat.le_trans (Nat.le_trans (Nat.le_trans (Nat.le_trans (Nat.le_trans (Nat.le_trans (Nat.le_trans Z0 E159.1) (Keep.of_wr W161).1) E163.1) Kc166.1) Kc167.1) Kc168.1) Kc170.1) (((Fd166.keep Kc167 (ninS (Ne.symm ne_b159_b163) nin0)).keep Kc168 nin0).keep Kc170 (ninS ne_b163_x168 nin0)) (((Vd166.keep Kc167 (ninS (Ne.symm ne_b159_d166) nin0)).keep Kc168 nin0).keep Kc170 (ninS ne_d166_x168 nin0)) (((Ed166.keep Kc167).keep Kc168).keep Kc170)) rfl (W := 0) (by decide) (by decide) (g := (mkF m 146 #[.val (.int p1), .val (.int p2), .val (.int p3), .val (.int p4), .val (.int p5), .val (.int (1 : Int32)), .val (.int (0 : Int32)), .val (.int y0), .val (.int y1), .val (.int y2), .val (.ref b159), .val (.ref b163), .val (.int (1 : Int32)), .val (.ref x168), .unset] [(.ref b163)])) rfl (by rw [hml]; rfl) (argsL := []) (rest := []) (b := b163) rfl (notFace_of_selects (args := #[]) (mvT hZ (hw _ (List.mem_of_getElem? (i := 45) rfl)))) (lenOf pd____B rfl) rfl (by show 2 * 0 + _ ≤ _; exact Nat.le_of_eq rfl) (hb hby at_146) (by decide) (by decide)
    obtain ⟨x171, rfl, N171q, Kc171, gx171, zx171, Vx171⟩ := hQ171
    have N171 := Fr.app N170 N171q
    refine own_goW st171 ?_
    have ne_b159_x171 : b159 ≠ x171 := Nat.ne_of_lt (Nat.lt_of_lt_of_le ((((((B159.wr W161).ext E163).keep Kc166).keep Kc167).keep Kc168).keep Kc170).lt zx171)
    have ne_b163_x171 : b163 ≠ x171 := Nat.ne_of_lt (Nat.lt_of_lt_of_le (((Ec166.keep Kc167).keep Kc168).keep Kc170).lt zx171)
    have ne_d166_x171 : d166 ≠ x171 := Nat.ne_of_lt (Nat.lt_of_lt_of_le (((Vd166.keep Kc167 (ninS (Ne.symm ne_b159_d166) nin0)).keep Kc168 nin0).keep Kc170 (ninS ne_d166_x168 nin0)).lt zx171)
    have sz_x171 : h0.size ≤ x171 := Nat.le_trans K170.1 zx171
    have K171 : Keep h0 T171.heap [] := K170.trans Kc171 (fun x hx => nomatch hx)
    show own_EndW _ _ _ _ _ _ _ T171 (mkF m 149 #[.val (.int p1), .val (.int p2), .val (.int p3), .val (.int p4), .val (.int p5), .val (.int (1 : Int32)), .val (.int (0 : Int32)), .val (.int y0), .val (.int y1), .val (.int y2), .val (.ref b159), .val (.ref b163), .val (.int (1 : Int32)), .val (.ref x168), .unset] [(.ref x171)])
    refine own_goW (fun t k => XS.astore X171.here hx rfl (hb hby at_149) rfl rfl (l' := #[.val (.int p1), .val (.int p2), .val (.int p3), .val (.int p4), .val (.int p5), .val (.int (1 : Int32)), .val (.int (0 : Int32)), .val (.int y0), .val (.int y1), .val (.int y2), .val (.ref b159), .val (.ref b163), .val (.int (1 : Int32)), .val (.ref x168), .val (.ref x171)]) rfl k) ?_
    show own_EndW _ _ _ _ _ _ _ T171 (mkF m 151 #[.val (.int p1), .val (.int p2), .val (.int p3), .val (.int p4), .val (.int p5), .val (.int (1 : Int32)), .val (.int (0 : Int32)), .val (.int y0), .val (.int y1), .val (.int y2), .val (.ref b159), .val (.ref b163), .val (.int (1 : Int32)), .val (.ref x168), .val (.ref x171)] [])
    refine own_goW (fun t k => XS.aload X171.here hx rfl (hb hby at_151) rfl rfl k) ?_
    show own_EndW _ _ _ _ _ _ _ T171 (mkF m 153 #[.val (.int p1), .val (.int p2), .val (.int p3), .val (.int p4), .val (.int p5), .val (.int (1 : Int32)), .val (.int (0 : Int32)), .val (.int y0), .val (.int y1), .val (.int y2), .val (.ref b159), .val (.ref b163), .val (.int (1 : Int32)), .val (.ref x168), .val (.ref x171)] [(.ref x171)])
    refine own_goW (fun t k => XS.iload X171.here hx rfl (hb hby at_153) rfl k) ?_
    show own_EndW _ _ _ _ _ _ _ T171 (mkF m 155 #[.val (.int p1), .val (.int p2), .val (.int p3), .val (.int p4), .val (.int p5), .val (.int (1 : Int32)), .val (.int (0 : Int32)), .val (.int y0), .val (.int y1), .val (.int y2), .val (.ref b159), .val (.ref b163), .val (.int (1 : Int32)), .val (.ref x168), .val (.ref x171)] [(.int (1 : Int32)), (.ref x171)])
    refine own_goW (fun t k => XS.iload X171.here hx rfl (hb hby at_155) rfl k) ?_
    show own_EndW _ _ _ _ _ _ _ T171 (mkF m 157 #[.val (.int p1), .val (.int p2), .val (.int p3), .val (.int p4), .val (.int p5), .val (.int (1 : Int32)), .val (.int (0 : Int32)), .val (.int y0), .val (.int y1), .val (.int y2), .val (.ref b159), .val (.ref b163), .val (.int (1 : Int32)), .val (.ref x168), .val (.ref x171)] [(.int y0), (.int (1 : Int32)), (.ref x171)])
    refine own_goW (fun t k => XS.iload X171.here hx rfl (hb hby at_157) rfl k) ?_
    show own_EndW _ _ _ _ _ _ _ T171 (mkF m 159 #[.val (.int p1), .val (.int p2), .val (.int p3), .val (.int p4), .val (.int p5), .val (.int (1 : Int32)), .val (.int (0 : Int32)), .val (.int y0), .val (.int y1), .val (.int y2), .val (.ref b159), .val (.ref b163), .val (.int (1 : Int32)), .val (.ref x168), .val (.ref x171)] [(.int y1), (.int y0), (.int (1 : Int32)), (.ref x171)])
    refine own_goW (fun t k => XS.iload X171.here hx rfl (hb hby at_159) rfl k) ?_
    show own_EndW _ _ _ _ _ _ _ T171 (mkF m 161 #[.val (.int p1), .val (.int p2), .val (.int p3), .val (.int p4), .val (.int p5), .val (.int (1 : Int32)), .val (.int (0 : Int32)), .val (.int y0), .val (.int y1), .val (.int y2), .val (.ref b159), .val (.ref b163), .val (.int (1 : Int32)), .val (.ref x168), .val (.ref x171)] [(.int y2), (.int y1), (.int y0), (.int (1 : Int32)), (.ref x171)])
    obtain ⟨v172, T172, L172, X172, hQ172, st172⟩ := own_callS (y := (⟨"com/example/coxswain/coxswain/wire/StatusDetailsPinLaw", "same", "([BIBBB)Z"⟩ : MethodName)) X171 hx hZ hown (hw _ (List.mem_of_getElem? (i := 47) rfl)) (hw _ (List.mem_of_getElem? (i := 48) rfl)) (hw _ (List.mem_of_getElem? (i := 49) rfl)) (by decide) (hw _ (List.mem_of_getElem? (i := 40) rfl)) (rmM1 l Z a0 hw [] x171 y0 y1 y2 k159 T171.heap n0 (Nat.le_trans (Nat.le_trans (Nat.le_trans (Nat.le_trans (Nat.le_trans (Nat.le_trans (Nat.le_trans (Nat.le_trans Z0 E159.1) (Keep.of_wr W161).1) E163.1) Kc166.1) Kc167.1) Kc168.1) Kc170.1) Kc171.1) Vx171) rfl (W := 0) (by decide) (by decide) (g := (mkF m 161 #[.val (.int p1), .val (.int p2), .val (.int p3), .val (.int p4), .val (.int p5), .val (.int (1 : Int32)), .val (.int (0 : Int32)), .val (.int y0), .val (.int y1), .val (.int y2), .val (.ref b159), .val (.ref b163), .val (.int (1 : Int32)), .val (.ref x168), .val (.ref x171)] [(.int y2), (.int y1), (.int y0), (.int (1 : Int32)), (.ref x171)])) rfl (by rw [hml]; rfl) (argsL := [(.ref x171), (.int (1 : Int32)), (.int y0), (.int y1), (.int y2)]) (rest := []) rfl (lenOf pd___BIBBB_Z rfl) rfl (by show 2 * 0 + _ ≤ _; exact Nat.le_of_eq rfl) (hb hby at_161) (by decide) (by decide)
    obtain ⟨rfl, N172q, e172⟩ := hQ172
    have N172 := Fr.app N171 N172q
    refine own_goW st172 ?_
    show own_EndW _ _ _ _ _ _ _ T172 (mkF m 164 #[.val (.int p1), .val (.int p2), .val (.int p3), .val (.int p4), .val (.int p5), .val (.int (1 : Int32)), .val (.int (0 : Int32)), .val (.int y0), .val (.int y1), .val (.int y2), .val (.ref b159), .val (.ref b163), .val (.int (1 : Int32)), .val (.ref x168), .val (.ref x171)] [(.int (1 : Int32))])
    exact own_retWW X172 hS166 (by rw [e172]; exact (Nat.le_trans (Nat.le_trans (Nat.le_trans (Nat.le_trans (Nat.le_refl T166.heap.size) Kc167.1) Kc168.1) Kc170.1) Kc171.1)) hx Bd.returns Bd.notSynchronized rfl (Or.inl ⟨rfl, by simp, _, rfl⟩) (hb hby at_164) ⟨rfl, N172⟩ (by decide) (by decide)
  · refine own_goW (fun t k => XS.ifNo X0.here hx rfl (hb hby at_8) rfl ((if0 _ _).trans (feq hc8).1) k) ?_
    show own_EndW _ _ _ _ _ _ _ s₁ (mkF m 11 #[.val (.int p1), .val (.int p2), .val (.int p3), .val (.int p4), .val (.int p5), .val (.int (1 : Int32)), .unset, .unset, .unset, .unset, .unset, .unset, .unset, .unset, .unset] [])
    refine own_goW (fun t k => XS.iconst X0.here hx rfl (hb hby at_11) k) ?_
    show own_EndW _ _ _ _ _ _ _ s₁ (mkF m 12 #[.val (.int p1), .val (.int p2), .val (.int p3), .val (.int p4), .val (.int p5), .val (.int (1 : Int32)), .unset, .unset, .unset, .unset, .unset, .unset, .unset, .unset, .unset] [(.int (1 : Int32))])
    refine own_goW (fun t k => XS.goto X0.here hx rfl (pc0 := 12) (pc' := 16) rfl (hb hby at_12) (by decide) (by decide) k) ?_
    show own_EndW _ _ _ _ _ _ _ s₁ (mkF m 16 #[.val (.int p1), .val (.int p2), .val (.int p3), .val (.int p4), .val (.int p5), .val (.int (1 : Int32)), .unset, .unset, .unset, .unset, .unset, .unset, .unset, .unset, .unset] [(.int (1 : Int32))])
    refine own_goW (fun t k => XS.istore X0.here hx rfl (hb hby at_16) rfl (l' := #[.val (.int p1), .val (.int p2), .val (.int p3), .val (.int p4), .val (.int p5), .val (.int (1 : Int32)), .val (.int (1 : Int32)), .unset, .unset, .unset, .unset, .unset, .unset, .unset, .unset]) rfl k) ?_
    show own_EndW _ _ _ _ _ _ _ s₁ (mkF m 18 #[.val (.int p1), .val (.int p2), .val (.int p3), .val (.int p4), .val (.int p5), .val (.int (1 : Int32)), .val (.int (1 : Int32)), .unset, .unset, .unset, .unset, .unset, .unset, .unset, .unset] [])
    refine own_goW (fun t k => XS.iloadN X0.here hx rfl (hb hby at_18) rfl k) ?_
    show own_EndW _ _ _ _ _ _ _ s₁ (mkF m 19 #[.val (.int p1), .val (.int p2), .val (.int p3), .val (.int p4), .val (.int p5), .val (.int (1 : Int32)), .val (.int (1 : Int32)), .unset, .unset, .unset, .unset, .unset, .unset, .unset, .unset] [(.int p3)])
    refine own_goW (fun t k => XS.i2b X0.here hx rfl (hb hby at_19) rfl k) ?_
    show own_EndW _ _ _ _ _ _ _ s₁ (mkF m 20 #[.val (.int p1), .val (.int p2), .val (.int p3), .val (.int p4), .val (.int p5), .val (.int (1 : Int32)), .val (.int (1 : Int32)), .unset, .unset, .unset, .unset, .unset, .unset, .unset, .unset] [(.int (p3.toInt8.toInt32))])
    rw [he0]
    refine own_goW (fun t k => XS.istore X0.here hx rfl (hb hby at_20) rfl (l' := #[.val (.int p1), .val (.int p2), .val (.int p3), .val (.int p4), .val (.int p5), .val (.int (1 : Int32)), .val (.int (1 : Int32)), .val (.int y0), .unset, .unset, .unset, .unset, .unset, .unset, .unset]) rfl k) ?_
    show own_EndW _ _ _ _ _ _ _ s₁ (mkF m 22 #[.val (.int p1), .val (.int p2), .val (.int p3), .val (.int p4), .val (.int p5), .val (.int (1 : Int32)), .val (.int (1 : Int32)), .val (.int y0), .unset, .unset, .unset, .unset, .unset, .unset, .unset] [])
    refine own_goW (fun t k => XS.iloadN X0.here hx rfl (hb hby at_22) rfl k) ?_
    show own_EndW _ _ _ _ _ _ _ s₁ (mkF m 23 #[.val (.int p1), .val (.int p2), .val (.int p3), .val (.int p4), .val (.int p5), .val (.int (1 : Int32)), .val (.int (1 : Int32)), .val (.int y0), .unset, .unset, .unset, .unset, .unset, .unset, .unset] [(.int p4)])
    refine own_goW (fun t k => XS.i2b X0.here hx rfl (hb hby at_23) rfl k) ?_
    show own_EndW _ _ _ _ _ _ _ s₁ (mkF m 24 #[.val (.int p1), .val (.int p2), .val (.int p3), .val (.int p4), .val (.int p5), .val (.int (1 : Int32)), .val (.int (1 : Int32)), .val (.int y0), .unset, .unset, .unset, .unset, .unset, .unset, .unset] [(.int (p4.toInt8.toInt32))])
    rw [he1]
    refine own_goW (fun t k => XS.istore X0.here hx rfl (hb hby at_24) rfl (l' := #[.val (.int p1), .val (.int p2), .val (.int p3), .val (.int p4), .val (.int p5), .val (.int (1 : Int32)), .val (.int (1 : Int32)), .val (.int y0), .val (.int y1), .unset, .unset, .unset, .unset, .unset, .unset]) rfl k) ?_
    show own_EndW _ _ _ _ _ _ _ s₁ (mkF m 26 #[.val (.int p1), .val (.int p2), .val (.int p3), .val (.int p4), .val (.int p5), .val (.int (1 : Int32)), .val (.int (1 : Int32)), .val (.int y0), .val (.int y1), .unset, .unset, .unset, .unset, .unset, .unset] [])
    refine own_goW (fun t k => XS.iload X0.here hx rfl (hb hby at_26) rfl k) ?_
    show own_EndW _ _ _ _ _ _ _ s₁ (mkF m 28 #[.val (.int p1), .val (.int p2), .val (.int p3), .val (.int p4), .val (.int p5), .val (.int (1 : Int32)), .val (.int (1 : Int32)), .val (.int y0), .val (.int y1), .unset, .unset, .unset, .unset, .unset, .unset] [(.int p5)])
    refine own_goW (fun t k => XS.i2b X0.here hx rfl (hb hby at_28) rfl k) ?_
    show own_EndW _ _ _ _ _ _ _ s₁ (mkF m 29 #[.val (.int p1), .val (.int p2), .val (.int p3), .val (.int p4), .val (.int p5), .val (.int (1 : Int32)), .val (.int (1 : Int32)), .val (.int y0), .val (.int y1), .unset, .unset, .unset, .unset, .unset, .unset] [(.int (p5.toInt8.toInt32))])
    rw [he2]
    refine own_goW (fun t k => XS.istore X0.here hx rfl (hb hby at_29) rfl (l' := #[.val (.int p1), .val (.int p2), .val (.int p3), .val (.int p4), .val (.int p5), .val (.int (1 : Int32)), .val (.int (1 : Int32)), .val (.int y0), .val (.int y1), .val (.int y2), .unset, .unset, .unset, .unset, .unset]) rfl k) ?_
    show own_EndW _ _ _ _ _ _ _ s₁ (mkF m 31 #[.val (.int p1), .val (.int p2), .val (.int p3), .val (.int p4), .val (.int p5), .val (.int (1 : Int32)), .val (.int (1 : Int32)), .val (.int y0), .val (.int y1), .val (.int y2), .unset, .unset, .unset, .unset, .unset] [])
    refine own_goW (fun t k => XS.iload X0.here hx rfl (hb hby at_31) rfl k) ?_
    show own_EndW _ _ _ _ _ _ _ s₁ (mkF m 33 #[.val (.int p1), .val (.int p2), .val (.int p3), .val (.int p4), .val (.int p5), .val (.int (1 : Int32)), .val (.int (1 : Int32)), .val (.int y0), .val (.int y1), .val (.int y2), .unset, .unset, .unset, .unset, .unset] [(.int (1 : Int32))])
    obtain ⟨T173, h173, k173, X173, e173, E173, A173, B173, st173⟩ := newPE X0 hx hZ (hw _ (List.mem_of_getElem? (i := 0) rfl)) e0 (g := (mkF m 33 #[.val (.int p1), .val (.int p2), .val (.int p3), .val (.int p4), .val (.int p5), .val (.int (1 : Int32)), .val (.int (1 : Int32)), .val (.int y0), .val (.int y1), .val (.int y2), .unset, .unset, .unset, .unset, .unset] [(.int (1 : Int32))])) rfl (hb hby at_33) rfl (by decide) (cap := 1) (by decide) (by decide) (by decide) (by decide) (ad := "[B") (by decide)
    obtain ⟨b173, g173⟩ : ∃ z, z = h0.size := ⟨_, rfl⟩
    rw [← g173] at A173 B173 st173
    have g_b173 : n0 ≤ b173 := Nat.le_trans Z0 (Nat.le_of_eq g173.symm)
    have sz_b173 : h0.size ≤ b173 := Nat.le_trans (Keep.refl h0 []).1 (Nat.le_of_eq g173.symm)
    have V173 : Arv Z h173 b173 k173 .byte (1 : Int32) [(.int (0 : Int32))] (.int (0 : Int32)) := (Arv.new A173 (by decide)).pad (pad_rep [] (.int (0 : Int32)) 1)
    have K174 : Keep h0 h173 [] := (Keep.refl h0 []).ext E173
    refine own_goW st173 ?_
    show own_EndW _ _ _ _ _ _ _ T173 (mkF m 35 #[.val (.int p1), .val (.int p2), .val (.int p3), .val (.int p4), .val (.int p5), .val (.int (1 : Int32)), .val (.int (1 : Int32)), .val (.int y0), .val (.int y1), .val (.int y2), .unset, .unset, .unset, .unset, .unset] [(.ref b173)])
    refine own_goW (fun t k => XS.astore X173.here hx rfl (hb hby at_35) rfl rfl (l' := #[.val (.int p1), .val (.int p2), .val (.int p3), .val (.int p4), .val (.int p5), .val (.int (1 : Int32)), .val (.int (1 : Int32)), .val (.int y0), .val (.int y1), .val (.int y2), .val (.ref b173), .unset, .unset, .unset, .unset]) rfl k) ?_
    show own_EndW _ _ _ _ _ _ _ T173 (mkF m 37 #[.val (.int p1), .val (.int p2), .val (.int p3), .val (.int p4), .val (.int p5), .val (.int (1 : Int32)), .val (.int (1 : Int32)), .val (.int y0), .val (.int y1), .val (.int y2), .val (.ref b173), .unset, .unset, .unset, .unset] [])
    refine own_goW (fun t k => XS.iload X173.here hx rfl (hb hby at_37) rfl k) ?_
    show own_EndW _ _ _ _ _ _ _ T173 (mkF m 39 #[.val (.int p1), .val (.int p2), .val (.int p3), .val (.int p4), .val (.int p5), .val (.int (1 : Int32)), .val (.int (1 : Int32)), .val (.int y0), .val (.int y1), .val (.int y2), .val (.ref b173), .unset, .unset, .unset, .unset] [(.int (1 : Int32))])
    refine own_goW (fun t k => XS.ifNo X173.here hx rfl (hb hby at_39) rfl ((if0 _ _).trans (tlt (by decide : (0 : Int32) < (1 : Int32))).2.2.2) k) ?_
    show own_EndW _ _ _ _ _ _ _ T173 (mkF m 42 #[.val (.int p1), .val (.int p2), .val (.int p3), .val (.int p4), .val (.int p5), .val (.int (1 : Int32)), .val (.int (1 : Int32)), .val (.int y0), .val (.int y1), .val (.int y2), .val (.ref b173), .unset, .unset, .unset, .unset] [])
    refine own_goW (fun t k => XS.aload X173.here hx rfl (hb hby at_42) rfl rfl k) ?_
    show own_EndW _ _ _ _ _ _ _ T173 (mkF m 44 #[.val (.int p1), .val (.int p2), .val (.int p3), .val (.int p4), .val (.int p5), .val (.int (1 : Int32)), .val (.int (1 : Int32)), .val (.int y0), .val (.int y1), .val (.int y2), .val (.ref b173), .unset, .unset, .unset, .unset] [(.ref b173)])
    refine own_goW (fun t k => XS.iconst X173.here hx rfl (hb hby at_44) k) ?_
    show own_EndW _ _ _ _ _ _ _ T173 (mkF m 45 #[.val (.int p1), .val (.int p2), .val (.int p3), .val (.int p4), .val (.int p5), .val (.int (1 : Int32)), .val (.int (1 : Int32)), .val (.int y0), .val (.int y1), .val (.int y2), .val (.ref b173), .unset, .unset, .unset, .unset] [(.int (0 : Int32)), (.ref b173)])
    refine own_goW (fun t k => XS.iload X173.here hx rfl (hb hby at_45) rfl k) ?_
    show own_EndW _ _ _ _ _ _ _ T173 (mkF m 47 #[.val (.int p1), .val (.int p2), .val (.int p3), .val (.int p4), .val (.int p5), .val (.int (1 : Int32)), .val (.int (1 : Int32)), .val (.int y0), .val (.int y1), .val (.int y2), .val (.ref b173), .unset, .unset, .unset, .unset] [(.int y0), (.int (0 : Int32)), (.ref b173)])
    obtain ⟨cl175, Ar175, q175, S175, M175, H175, G175⟩ := id V173
    obtain ⟨T175, h175, X175, e175, W175, st175⟩ := stB X173 hx hZ e173 Ar175 (j := (0 : Int32)) (inb_of S175 ⟨by decide, by decide⟩) (g := (mkF m 47 #[.val (.int p1), .val (.int p2), .val (.int p3), .val (.int p4), .val (.int p5), .val (.int (1 : Int32)), .val (.int (1 : Int32)), .val (.int y0), .val (.int y1), .val (.int y2), .val (.ref b173), .unset, .unset, .unset, .unset] [(.int y0), (.int (0 : Int32)), (.ref b173)])) rfl rfl (hb hby at_47)
    have Vs175 := Arv.set Ar175 q175 S175 M175 H175 G175 (fits_nar_byte _) W175 0 rfl (Nat.le_of_ble_eq_true rfl)
    rw [hb0] at Vs175
    have V175v : Arv Z h175 b173 k173 .byte (1 : Int32) [(.int y0)] (.int (0 : Int32)) := Vs175
    have K176 : Keep h0 h175 [] := K174.wr W175 (Or.inr sz_b173)
    have N175 := Fr.snoc X175 N0 g_b173
    refine own_goW st175 ?_
    show own_EndW _ _ _ _ _ _ _ T175 (mkF m 48 #[.val (.int p1), .val (.int p2), .val (.int p3), .val (.int p4), .val (.int p5), .val (.int (1 : Int32)), .val (.int (1 : Int32)), .val (.int y0), .val (.int y1), .val (.int y2), .val (.ref b173), .unset, .unset, .unset, .unset] [])
    refine own_goW (fun t k => XS.iload X175.here hx rfl (hb hby at_48) rfl k) ?_
    show own_EndW _ _ _ _ _ _ _ T175 (mkF m 50 #[.val (.int p1), .val (.int p2), .val (.int p3), .val (.int p4), .val (.int p5), .val (.int (1 : Int32)), .val (.int (1 : Int32)), .val (.int y0), .val (.int y1), .val (.int y2), .val (.ref b173), .unset, .unset, .unset, .unset] [(.int (1 : Int32))])
    refine own_goW (fun t k => XS.iconst X175.here hx rfl (hb hby at_50) k) ?_
    show own_EndW _ _ _ _ _ _ _ T175 (mkF m 51 #[.val (.int p1), .val (.int p2), .val (.int p3), .val (.int p4), .val (.int p5), .val (.int (1 : Int32)), .val (.int (1 : Int32)), .val (.int y0), .val (.int y1), .val (.int y2), .val (.ref b173), .unset, .unset, .unset, .unset] [(.int (1 : Int32)), (.int (1 : Int32))])
    refine own_goW (fun t k => XS.icmpYes X175.here hx rfl (pc0 := 51) (pc' := 60) rfl (hb hby at_51) rfl (flt (by decide : ¬ ((1 : Int32) < (1 : Int32)))).2.2.2 (by decide) (by decide) k) ?_
    show own_EndW _ _ _ _ _ _ _ T175 (mkF m 60 #[.val (.int p1), .val (.int p2), .val (.int p3), .val (.int p4), .val (.int p5), .val (.int (1 : Int32)), .val (.int (1 : Int32)), .val (.int y0), .val (.int y1), .val (.int y2), .val (.ref b173), .unset, .unset, .unset, .unset] [])
    refine own_goW (fun t k => XS.iload X175.here hx rfl (hb hby at_60) rfl k) ?_
    show own_EndW _ _ _ _ _ _ _ T175 (mkF m 62 #[.val (.int p1), .val (.int p2), .val (.int p3), .val (.int p4), .val (.int p5), .val (.int (1 : Int32)), .val (.int (1 : Int32)), .val (.int y0), .val (.int y1), .val (.int y2), .val (.ref b173), .unset, .unset, .unset, .unset] [(.int (1 : Int32))])
    refine own_goW (fun t k => XS.iconst X175.here hx rfl (hb hby at_62) k) ?_
    show own_EndW _ _ _ _ _ _ _ T175 (mkF m 63 #[.val (.int p1), .val (.int p2), .val (.int p3), .val (.int p4), .val (.int p5), .val (.int (1 : Int32)), .val (.int (1 : Int32)), .val (.int y0), .val (.int y1), .val (.int y2), .val (.ref b173), .unset, .unset, .unset, .unset] [(.int (2 : Int32)), (.int (1 : Int32))])
    refine own_goW (fun t k => XS.icmpYes X175.here hx rfl (pc0 := 63) (pc' := 72) rfl (hb hby at_63) rfl (flt (by decide : ¬ ((2 : Int32) < (1 : Int32)))).2.2.2 (by decide) (by decide) k) ?_
    show own_EndW _ _ _ _ _ _ _ T175 (mkF m 72 #[.val (.int p1), .val (.int p2), .val (.int p3), .val (.int p4), .val (.int p5), .val (.int (1 : Int32)), .val (.int (1 : Int32)), .val (.int y0), .val (.int y1), .val (.int y2), .val (.ref b173), .unset, .unset, .unset, .unset] [])
    obtain ⟨T177, h177, X177, e177, E177, A177, D177, -, st177⟩ := newO X175 hx hZ hown (hw _ (List.mem_of_getElem? (i := 1) rfl)) (hw _ (List.mem_of_getElem? (i := 2) rfl)) (hw _ (List.mem_of_getElem? (i := 3) rfl)) e175 (g := (mkF m 72 #[.val (.int p1), .val (.int p2), .val (.int p3), .val (.int p4), .val (.int p5), .val (.int (1 : Int32)), .val (.int (1 : Int32)), .val (.int y0), .val (.int y1), .val (.int y2), .val (.ref b173), .unset, .unset, .unset, .unset] [])) rfl (hb hby at_72) (by decide) (by decide)
    obtain ⟨b177, g177⟩ : ∃ z, z = h175.size := ⟨_, rfl⟩
    rw [← g177] at A177 D177 st177
    have ne_b173_b177 : b173 ≠ b177 := Nat.ne_of_lt (Nat.lt_of_lt_of_le V175v.lt (Nat.le_of_eq g177.symm))
    have g_b177 : n0 ≤ b177 := Nat.le_trans (Nat.le_trans (Nat.le_trans Z0 E173.1) (Keep.of_wr W175).1) (Nat.le_of_eq g177.symm)
    have sz_b177 : h0.size ≤ b177 := Nat.le_trans K176.1 (Nat.le_of_eq g177.symm)
    have F177_code : Fld Z h177 b177 "com/example/coxswain/coxswain/wire/Status" "code" "Lcom/example/coxswain/coxswain/wire/StatusCode;" .null := D177 (Or.inr (hw _ (List.mem_of_getElem? (i := 33) rfl))) (ty := (.object "com/example/coxswain/coxswain/wire/StatusCode")) (by decide)
    have F177_description : Fld Z h177 b177 "com/example/coxswain/coxswain/wire/Status" "description" "Ljava/lang/String;" .null := D177 (Or.inr (hw _ (List.mem_of_getElem? (i := 35) rfl))) (ty := (.object "java/lang/String")) (by decide)
    have F177_details : Fld Z h177 b177 "com/example/coxswain/coxswain/wire/Status" "details" "[B" .null := D177 (Or.inr (hw _ (List.mem_of_getElem? (i := 37) rfl))) (ty := (.array .byte)) (by decide)
    have K178 : Keep h0 h177 [] := K176.ext E177
    refine own_goW st177 ?_
    show own_EndW _ _ _ _ _ _ _ T177 (mkF m 75 #[.val (.int p1), .val (.int p2), .val (.int p3), .val (.int p4), .val (.int p5), .val (.int (1 : Int32)), .val (.int (1 : Int32)), .val (.int y0), .val (.int y1), .val (.int y2), .val (.ref b173), .unset, .unset, .unset, .unset] [(.ref b177)])
    refine own_goW (fun t k => XS.dup X177.here hx rfl (hb hby at_75) rfl rfl k) ?_
    show own_EndW _ _ _ _ _ _ _ T177 (mkF m 76 #[.val (.int p1), .val (.int p2), .val (.int p3), .val (.int p4), .val (.int p5), .val (.int (1 : Int32)), .val (.int (1 : Int32)), .val (.int y0), .val (.int y1), .val (.int y2), .val (.ref b173), .unset, .unset, .unset, .unset] [(.ref b177), (.ref b177)])
    obtain ⟨T179, X179, e179, st179⟩ := getS2 X177 hx hZ hown (host := "") (Or.inl (hw _ (List.mem_of_getElem? (i := 4) rfl))) Via.refl e177 (own_StaK SU K178) (g := (mkF m 76 #[.val (.int p1), .val (.int p2), .val (.int p3), .val (.int p4), .val (.int p5), .val (.int (1 : Int32)), .val (.int (1 : Int32)), .val (.int y0), .val (.int y1), .val (.int y2), .val (.ref b173), .unset, .unset, .unset, .unset] [(.ref b177), (.ref b177)])) rfl (hb hby at_76)
    refine own_goW st179 ?_
    show own_EndW _ _ _ _ _ _ _ T179 (mkF m 79 #[.val (.int p1), .val (.int p2), .val (.int p3), .val (.int p4), .val (.int p5), .val (.int (1 : Int32)), .val (.int (1 : Int32)), .val (.int y0), .val (.int y1), .val (.int y2), .val (.ref b173), .unset, .unset, .unset, .unset] [(.ref wU), (.ref b177), (.ref b177)])
    refine own_goW (fun t k => XS.aconstNull X179.here hx rfl (hb hby at_79) k) ?_
    show own_EndW _ _ _ _ _ _ _ T179 (mkF m 80 #[.val (.int p1), .val (.int p2), .val (.int p3), .val (.int p4), .val (.int p5), .val (.int (1 : Int32)), .val (.int (1 : Int32)), .val (.int y0), .val (.int y1), .val (.int y2), .val (.ref b173), .unset, .unset, .unset, .unset] [.null, (.ref wU), (.ref b177), (.ref b177)])
    refine own_goW (fun t k => XS.iload X179.here hx rfl (hb hby at_80) rfl k) ?_
    show own_EndW _ _ _ _ _ _ _ T179 (mkF m 82 #[.val (.int p1), .val (.int p2), .val (.int p3), .val (.int p4), .val (.int p5), .val (.int (1 : Int32)), .val (.int (1 : Int32)), .val (.int y0), .val (.int y1), .val (.int y2), .val (.ref b173), .unset, .unset, .unset, .unset] [(.int (1 : Int32)), .null, (.ref wU), (.ref b177), (.ref b177)])
    refine own_goW (fun t k => XS.ifNo X179.here hx rfl (hb hby at_82) rfl ((if0 _ _).trans (feq (by decide : ¬ ((1 : Int32) = (0 : Int32)))).1) k) ?_
    show own_EndW _ _ _ _ _ _ _ T179 (mkF m 85 #[.val (.int p1), .val (.int p2), .val (.int p3), .val (.int p4), .val (.int p5), .val (.int (1 : Int32)), .val (.int (1 : Int32)), .val (.int y0), .val (.int y1), .val (.int y2), .val (.ref b173), .unset, .unset, .unset, .unset] [.null, (.ref wU), (.ref b177), (.ref b177)])
    refine own_goW (fun t k => XS.aconstNull X179.here hx rfl (hb hby at_85) k) ?_
    show own_EndW _ _ _ _ _ _ _ T179 (mkF m 86 #[.val (.int p1), .val (.int p2), .val (.int p3), .val (.int p4), .val (.int p5), .val (.int (1 : Int32)), .val (.int (1 : Int32)), .val (.int y0), .val (.int y1), .val (.int y2), .val (.ref b173), .unset, .unset, .unset, .unset] [.null, .null, (.ref wU), (.ref b177), (.ref b177)])
    refine own_goW (fun t k => XS.goto X179.here hx rfl (pc0 := 86) (pc' := 91) rfl (hb hby at_86) (by decide) (by decide) k) ?_
    show own_EndW _ _ _ _ _ _ _ T179 (mkF m 91 #[.val (.int p1), .val (.int p2), .val (.int p3), .val (.int p4), .val (.int p5), .val (.int (1 : Int32)), .val (.int (1 : Int32)), .val (.int y0), .val (.int y1), .val (.int y2), .val (.ref b173), .unset, .unset, .unset, .unset] [.null, .null, (.ref wU), (.ref b177), (.ref b177)])
    obtain ⟨v180, T180, L180, X180, hQ180, hS180, hZ, hown, st180⟩ := own_callNW (y := (⟨"com/example/coxswain/coxswain/wire/Status", "<init>", "(Lcom/example/coxswain/coxswain/wire/StatusCode;Ljava/lang/String;[B)V"⟩ : MethodName)) X179 hx hZ hown (hw _ (List.mem_of_getElem? (i := 7) rfl)) (hw _ (List.mem_of_getElem? (i := 8) rfl)) (hw _ (List.mem_of_getElem? (i := 9) rfl)) (by decide) (hw _ (List.mem_of_getElem? (i := 3) rfl)) (rmIN l Z a0 hw [] b177 wU wN h177 n0 (Nat.le_trans (Nat.le_trans (Nat.le_trans Z0 E173.1) (Keep.of_wr W175).1) E177.1) A177 g_b177 F177_code F177_description F177_details (own_StaK SN K178)) e179 (W := 1) (by decide) (by decide) (g := (mkF m 91 #[.val (.int p1), .val (.int p2), .val (.int p3), .val (.int p4), .val (.int p5), .val (.int (1 : Int32)), .val (.int (1 : Int32)), .val (.int y0), .val (.int y1), .val (.int y2), .val (.ref b173), .unset, .unset, .unset, .unset] [.null, .null, (.ref wU), (.ref b177), (.ref b177)])) rfl (by rw [hml]; rfl) (argsL := [(.ref wU), .null, .null]) (rest := [(.ref b177)]) (a := b177) rfl rfl (lenOf pd__Lcom_example_coxswain_coxswain_wire_StatusCode_Ljava_lang_String__B_V rfl) rfl (by show 2 * 0 + _ ≤ _; exact Nat.le_of_eq rfl) (hb hby at_91) (by decide) (by decide)
    obtain ⟨rfl, N180q, Kc180, Ec180, Fd180⟩ := hQ180
    have N180 := Fr.app N175 N180q
    have K180 : Keep h0 T180.heap [] := K178.trans Kc180 (fun x hx => by cases List.mem_singleton.mp hx; exact Or.inr sz_b177)
    refine own_goW st180 ?_
    show own_EndW _ _ _ _ _ _ _ T180 (mkF m 94 #[.val (.int p1), .val (.int p2), .val (.int p3), .val (.int p4), .val (.int p5), .val (.int (1 : Int32)), .val (.int (1 : Int32)), .val (.int y0), .val (.int y1), .val (.int y2), .val (.ref b173), .unset, .unset, .unset, .unset] [(.ref b177)])
    refine own_goW (fun t k => XS.astore X180.here hx rfl (hb hby at_94) rfl rfl (l' := #[.val (.int p1), .val (.int p2), .val (.int p3), .val (.int p4), .val (.int p5), .val (.int (1 : Int32)), .val (.int (1 : Int32)), .val (.int y0), .val (.int y1), .val (.int y2), .val (.ref b173), .val (.ref b177), .unset, .unset, .unset]) rfl k) ?_
    show own_EndW _ _ _ _ _ _ _ T180 (mkF m 96 #[.val (.int p1), .val (.int p2), .val (.int p3), .val (.int p4), .val (.int p5), .val (.int (1 : Int32)), .val (.int (1 : Int32)), .val (.int y0), .val (.int y1), .val (.int y2), .val (.ref b173), .val (.ref b177), .unset, .unset, .unset] [])
    refine own_goW (fun t k => XS.aload X180.here hx rfl (hb hby at_96) rfl rfl k) ?_
    show own_EndW _ _ _ _ _ _ _ T180 (mkF m 98 #[.val (.int p1), .val (.int p2), .val (.int p3), .val (.int p4), .val (.int p5), .val (.int (1 : Int32)), .val (.int (1 : Int32)), .val (.int y0), .val (.int y1), .val (.int y2), .val (.ref b173), .val (.ref b177), .unset, .unset, .unset] [(.ref b173)])
    obtain ⟨v181, T181, L181, X181, hQ181, st181⟩ := own_callS (y := (⟨"com/example/coxswain/coxswain/wire/StatusDetailsPinLaw", "scramble", "([B)V"⟩ : MethodName)) X180 hx hZ hown (hw _ (List.mem_of_getElem? (i := 38) rfl)) (hw _ (List.mem_of_getElem? (i := 39) rfl)) (hw _ (List.mem_of_getElem? (i := 41) rfl)) (by decide) (hw _ (List.mem_of_getElem? (i := 40) rfl)) (rmS1 l Z a0 hw [] b173 k173 y0 T180.heap n0 (Nat.le_trans (Nat.le_trans (Nat.le_trans (Nat.le_trans Z0 E173.1) (Keep.of_wr W175).1) E177.1) Kc180.1) ((V175v.ext E177).keep Kc180 (ninS ne_b173_b177 nin0)) g_b173) rfl (W := 0) (by decide) (by decide) (g := (mkF m 98 #[.val (.int p1), .val (.int p2), .val (.int p3), .val (.int p4), .val (.int p5), .val (.int (1 : Int32)), .val (.int (1 : Int32)), .val (.int y0), .val (.int y1), .val (.int y2), .val (.ref b173), .val (.ref b177), .unset, .unset, .unset] [(.ref b173)])) rfl (by rw [hml]; rfl) (argsL := [(.ref b173)]) (rest := []) rfl (lenOf pd___B_V rfl) rfl (by show 2 * 0 + _ ≤ _; exact Nat.le_of_eq rfl) (hb hby at_98) (by decide) (by decide)
    obtain ⟨rfl, N181q, Kc181⟩ := hQ181
    have N181 := Fr.app N180 N181q
    refine own_goW st181 ?_
    have K181 : Keep h0 T181.heap [] := K180.trans Kc181 (fun x hx => by cases List.mem_singleton.mp hx; exact Or.inr sz_b173)
    show own_EndW _ _ _ _ _ _ _ T181 (mkF m 101 #[.val (.int p1), .val (.int p2), .val (.int p3), .val (.int p4), .val (.int p5), .val (.int (1 : Int32)), .val (.int (1 : Int32)), .val (.int y0), .val (.int y1), .val (.int y2), .val (.ref b173), .val (.ref b177), .unset, .unset, .unset] [])
    refine own_goW (fun t k => XS.iload X181.here hx rfl (hb hby at_101) rfl k) ?_
    show own_EndW _ _ _ _ _ _ _ T181 (mkF m 103 #[.val (.int p1), .val (.int p2), .val (.int p3), .val (.int p4), .val (.int p5), .val (.int (1 : Int32)), .val (.int (1 : Int32)), .val (.int y0), .val (.int y1), .val (.int y2), .val (.ref b173), .val (.ref b177), .unset, .unset, .unset] [(.int (1 : Int32))])
    refine own_goW (fun t k => XS.ifNo X181.here hx rfl (hb hby at_103) rfl ((if0 _ _).trans (feq (by decide : ¬ ((1 : Int32) = (0 : Int32)))).1) k) ?_
    show own_EndW _ _ _ _ _ _ _ T181 (mkF m 106 #[.val (.int p1), .val (.int p2), .val (.int p3), .val (.int p4), .val (.int p5), .val (.int (1 : Int32)), .val (.int (1 : Int32)), .val (.int y0), .val (.int y1), .val (.int y2), .val (.ref b173), .val (.ref b177), .unset, .unset, .unset] [])
    refine own_goW (fun t k => XS.iconst X181.here hx rfl (hb hby at_106) k) ?_
    show own_EndW _ _ _ _ _ _ _ T181 (mkF m 107 #[.val (.int p1), .val (.int p2), .val (.int p3), .val (.int p4), .val (.int p5), .val (.int (1 : Int32)), .val (.int (1 : Int32)), .val (.int y0), .val (.int y1), .val (.int y2), .val (.ref b173), .val (.ref b177), .unset, .unset, .unset] [(.int (0 : Int32))])
    refine own_goW (fun t k => XS.goto X181.here hx rfl (pc0 := 107) (pc' := 112) rfl (hb hby at_107) (by decide) (by decide) k) ?_
    show own_EndW _ _ _ _ _ _ _ T181 (mkF m 112 #[.val (.int p1), .val (.int p2), .val (.int p3), .val (.int p4), .val (.int p5), .val (.int (1 : Int32)), .val (.int (1 : Int32)), .val (.int y0), .val (.int y1), .val (.int y2), .val (.ref b173), .val (.ref b177), .unset, .unset, .unset] [(.int (0 : Int32))])
    refine own_goW (fun t k => XS.istore X181.here hx rfl (hb hby at_112) rfl (l' := #[.val (.int p1), .val (.int p2), .val (.int p3), .val (.int p4), .val (.int p5), .val (.int (1 : Int32)), .val (.int (1 : Int32)), .val (.int y0), .val (.int y1), .val (.int y2), .val (.ref b173), .val (.ref b177), .val (.int (0 : Int32)), .unset, .unset]) rfl k) ?_
    show own_EndW _ _ _ _ _ _ _ T181 (mkF m 114 #[.val (.int p1), .val (.int p2), .val (.int p3), .val (.int p4), .val (.int p5), .val (.int (1 : Int32)), .val (.int (1 : Int32)), .val (.int y0), .val (.int y1), .val (.int y2), .val (.ref b173), .val (.ref b177), .val (.int (0 : Int32)), .unset, .unset] [])
    refine own_goW (fun t k => XS.aload X181.here hx rfl (hb hby at_114) rfl rfl k) ?_
    show own_EndW _ _ _ _ _ _ _ T181 (mkF m 116 #[.val (.int p1), .val (.int p2), .val (.int p3), .val (.int p4), .val (.int p5), .val (.int (1 : Int32)), .val (.int (1 : Int32)), .val (.int y0), .val (.int y1), .val (.int y2), .val (.ref b173), .val (.ref b177), .val (.int (0 : Int32)), .unset, .unset] [(.ref b177)])
    obtain ⟨v182, T182, L182, X182, hQ182, st182⟩ := own_callV (y := (⟨"com/example/coxswain/coxswain/wire/Status", "details", "()[B"⟩ : MethodName)) (z := (⟨"com/example/coxswain/coxswain/wire/Status", "details", "()[B"⟩ : MethodName)) X181 hx hZ hown (hw _ (List.mem_of_getElem? (i := 42) rfl)) (hw _ (List.mem_of_getElem? (i := 43) rfl)) (hw _ (List.mem_of_getElem? (i := 45) rfl)) (hw _ (List.mem_of_getElem? (i := 44) rfl)) (Ec180.keep Kc181) (hw _ (List.mem_of_getElem? (i := 46) rfl)) (by decide) (hw _ (List.mem_of_getElem? (i := 3) rfl)) (rmT0 l Z a0 hw [] b177 wN cl T181.heap n0 (Nat.le_trans (Nat.le_trans (Nat.le_trans (Nat.le_trans (Nat.le_trans Z0 E173.1) (Keep.of_wr W175).1) E177.1) Kc180.1) Kc181.1) (Fd180.keep Kc181 (ninS (Ne.symm ne_b173_b177) nin0)) (own_StaK SN K181) (own_ArrK Ar K181) Sz) rfl (W := 0) (by decide) (by decide) (g := (mkF m 116 #[.val (.int p1), .val (.int p2), .val (.int p3), .val (.int p4), .val (.int p5), .val (.int (1 : Int32)), .val (.int (1 : Int32)), .val (.int y0), .val (.int y1), .val (.int y2), .val (.ref b173), .val (.ref b177), .val (.int (0 : Int32)), .unset, .unset] [(.ref b177)])) rfl (by rw [hml]; rfl) (argsL := []) (rest := []) (b := b177) rfl (notFace_of_selects (args := #[]) (mvT hZ (hw _ (List.mem_of_getElem? (i := 45) rfl)))) (lenOf pd____B rfl) rfl (by show 2 * 0 + _ ≤ _; exact Nat.le_of_eq rfl) (hb hby at_116) (by decide) (by decide)
    obtain ⟨rfl, N182q, e182⟩ := hQ182
    have N182 := Fr.app N181 N182q
    refine own_goW st182 ?_
    show own_EndW _ _ _ _ _ _ _ T182 (mkF m 119 #[.val (.int p1), .val (.int p2), .val (.int p3), .val (.int p4), .val (.int p5), .val (.int (1 : Int32)), .val (.int (1 : Int32)), .val (.int y0), .val (.int y1), .val (.int y2), .val (.ref b173), .val (.ref b177), .val (.int (0 : Int32)), .unset, .unset] [(.ref wN)])
    refine own_goW (fun t k => XS.astore X182.here hx rfl (hb hby at_119) rfl rfl (l' := #[.val (.int p1), .val (.int p2), .val (.int p3), .val (.int p4), .val (.int p5), .val (.int (1 : Int32)), .val (.int (1 : Int32)), .val (.int y0), .val (.int y1), .val (.int y2), .val (.ref b173), .val (.ref b177), .val (.int (0 : Int32)), .val (.ref wN), .unset]) rfl k) ?_
    show own_EndW _ _ _ _ _ _ _ T182 (mkF m 121 #[.val (.int p1), .val (.int p2), .val (.int p3), .val (.int p4), .val (.int p5), .val (.int (1 : Int32)), .val (.int (1 : Int32)), .val (.int y0), .val (.int y1), .val (.int y2), .val (.ref b173), .val (.ref b177), .val (.int (0 : Int32)), .val (.ref wN), .unset] [])
    refine own_goW (fun t k => XS.aload X182.here hx rfl (hb hby at_121) rfl rfl k) ?_
    show own_EndW _ _ _ _ _ _ _ T182 (mkF m 123 #[.val (.int p1), .val (.int p2), .val (.int p3), .val (.int p4), .val (.int p5), .val (.int (1 : Int32)), .val (.int (1 : Int32)), .val (.int y0), .val (.int y1), .val (.int y2), .val (.ref b173), .val (.ref b177), .val (.int (0 : Int32)), .val (.ref wN), .unset] [(.ref wN)])
    refine own_goW (fun t k => XS.iload X182.here hx rfl (hb hby at_123) rfl k) ?_
    show own_EndW _ _ _ _ _ _ _ T182 (mkF m 125 #[.val (.int p1), .val (.int p2), .val (.int p3), .val (.int p4), .val (.int p5), .val (.int (1 : Int32)), .val (.int (1 : Int32)), .val (.int y0), .val (.int y1), .val (.int y2), .val (.ref b173), .val (.ref b177), .val (.int (0 : Int32)), .val (.ref wN), .unset] [(.int (0 : Int32)), (.ref wN)])
    refine own_goW (fun t k => XS.iload X182.here hx rfl (hb hby at_125) rfl k) ?_
    show own_EndW _ _ _ _ _ _ _ T182 (mkF m 127 #[.val (.int p1), .val (.int p2), .val (.int p3), .val (.int p4), .val (.int p5), .val (.int (1 : Int32)), .val (.int (1 : Int32)), .val (.int y0), .val (.int y1), .val (.int y2), .val (.ref b173), .val (.ref b177), .val (.int (0 : Int32)), .val (.ref wN), .unset] [(.int y0), (.int (0 : Int32)), (.ref wN)])
    refine own_goW (fun t k => XS.iload X182.here hx rfl (hb hby at_127) rfl k) ?_
    show own_EndW _ _ _ _ _ _ _ T182 (mkF m 129 #[.val (.int p1), .val (.int p2), .val (.int p3), .val (.int p4), .val (.int p5), .val (.int (1 : Int32)), .val (.int (1 : Int32)), .val (.int y0), .val (.int y1), .val (.int y2), .val (.ref b173), .val (.ref b177), .val (.int (0 : Int32)), .val (.ref wN), .unset] [(.int y1), (.int y0), (.int (0 : Int32)), (.ref wN)])
    refine own_goW (fun t k => XS.iload X182.here hx rfl (hb hby at_129) rfl k) ?_
    show own_EndW _ _ _ _ _ _ _ T182 (mkF m 131 #[.val (.int p1), .val (.int p2), .val (.int p3), .val (.int p4), .val (.int p5), .val (.int (1 : Int32)), .val (.int (1 : Int32)), .val (.int y0), .val (.int y1), .val (.int y2), .val (.ref b173), .val (.ref b177), .val (.int (0 : Int32)), .val (.ref wN), .unset] [(.int y2), (.int y1), (.int y0), (.int (0 : Int32)), (.ref wN)])
    obtain ⟨v183, T183, L183, X183, hQ183, st183⟩ := own_callS (y := (⟨"com/example/coxswain/coxswain/wire/StatusDetailsPinLaw", "same", "([BIBBB)Z"⟩ : MethodName)) X182 hx hZ hown (hw _ (List.mem_of_getElem? (i := 47) rfl)) (hw _ (List.mem_of_getElem? (i := 48) rfl)) (hw _ (List.mem_of_getElem? (i := 49) rfl)) (by decide) (hw _ (List.mem_of_getElem? (i := 40) rfl)) (rmM0 l Z a0 hw [] wN y0 y1 y2 cl T181.heap n0 (Nat.le_trans (Nat.le_trans (Nat.le_trans (Nat.le_trans (Nat.le_trans Z0 E173.1) (Keep.of_wr W175).1) E177.1) Kc180.1) Kc181.1) (own_ArrK Ar K181) Sz) e182 (W := 0) (by decide) (by decide) (g := (mkF m 131 #[.val (.int p1), .val (.int p2), .val (.int p3), .val (.int p4), .val (.int p5), .val (.int (1 : Int32)), .val (.int (1 : Int32)), .val (.int y0), .val (.int y1), .val (.int y2), .val (.ref b173), .val (.ref b177), .val (.int (0 : Int32)), .val (.ref wN), .unset] [(.int y2), (.int y1), (.int y0), (.int (0 : Int32)), (.ref wN)])) rfl (by rw [hml]; rfl) (argsL := [(.ref wN), (.int (0 : Int32)), (.int y0), (.int y1), (.int y2)]) (rest := []) rfl (lenOf pd___BIBBB_Z rfl) rfl (by show 2 * 0 + _ ≤ _; exact Nat.le_of_eq rfl) (hb hby at_131) (by decide) (by decide)
    obtain ⟨rfl, N183q, e183⟩ := hQ183
    have N183 := Fr.app N182 N183q
    refine own_goW st183 ?_
    show own_EndW _ _ _ _ _ _ _ T183 (mkF m 134 #[.val (.int p1), .val (.int p2), .val (.int p3), .val (.int p4), .val (.int p5), .val (.int (1 : Int32)), .val (.int (1 : Int32)), .val (.int y0), .val (.int y1), .val (.int y2), .val (.ref b173), .val (.ref b177), .val (.int (0 : Int32)), .val (.ref wN), .unset] [(.int (1 : Int32))])
    refine own_goW (fun t k => XS.ifYes X183.here hx rfl (pc0 := 134) (pc' := 139) rfl (hb hby at_134) rfl ((if0 _ _).trans (feq (by decide : ¬ ((1 : Int32) = (0 : Int32)))).2) (by decide) (by decide) k) ?_
    show own_EndW _ _ _ _ _ _ _ T183 (mkF m 139 #[.val (.int p1), .val (.int p2), .val (.int p3), .val (.int p4), .val (.int p5), .val (.int (1 : Int32)), .val (.int (1 : Int32)), .val (.int y0), .val (.int y1), .val (.int y2), .val (.ref b173), .val (.ref b177), .val (.int (0 : Int32)), .val (.ref wN), .unset] [])
    refine own_goW (fun t k => XS.aload X183.here hx rfl (hb hby at_139) rfl rfl k) ?_
    show own_EndW _ _ _ _ _ _ _ T183 (mkF m 141 #[.val (.int p1), .val (.int p2), .val (.int p3), .val (.int p4), .val (.int p5), .val (.int (1 : Int32)), .val (.int (1 : Int32)), .val (.int y0), .val (.int y1), .val (.int y2), .val (.ref b173), .val (.ref b177), .val (.int (0 : Int32)), .val (.ref wN), .unset] [(.ref wN)])
    obtain ⟨v184, T184, L184, X184, hQ184, st184⟩ := own_callS (y := (⟨"com/example/coxswain/coxswain/wire/StatusDetailsPinLaw", "scramble", "([B)V"⟩ : MethodName)) X183 hx hZ hown (hw _ (List.mem_of_getElem? (i := 38) rfl)) (hw _ (List.mem_of_getElem? (i := 39) rfl)) (hw _ (List.mem_of_getElem? (i := 41) rfl)) (by decide) (hw _ (List.mem_of_getElem? (i := 40) rfl)) (rmS0 l Z a0 hw [] wN cl T181.heap n0 (Nat.le_trans (Nat.le_trans (Nat.le_trans (Nat.le_trans (Nat.le_trans Z0 E173.1) (Keep.of_wr W175).1) E177.1) Kc180.1) Kc181.1) (own_ArrK Ar K181) Sz) e183 (W := 0) (by decide) (by decide) (g := (mkF m 141 #[.val (.int p1), .val (.int p2), .val (.int p3), .val (.int p4), .val (.int p5), .val (.int (1 : Int32)), .val (.int (1 : Int32)), .val (.int y0), .val (.int y1), .val (.int y2), .val (.ref b173), .val (.ref b177), .val (.int (0 : Int32)), .val (.ref wN), .unset] [(.ref wN)])) rfl (by rw [hml]; rfl) (argsL := [(.ref wN)]) (rest := []) rfl (lenOf pd___B_V rfl) rfl (by show 2 * 0 + _ ≤ _; exact Nat.le_of_eq rfl) (hb hby at_141) (by decide) (by decide)
    obtain ⟨rfl, N184q, e184⟩ := hQ184
    have N184 := Fr.app N183 N184q
    refine own_goW st184 ?_
    show own_EndW _ _ _ _ _ _ _ T184 (mkF m 144 #[.val (.int p1), .val (.int p2), .val (.int p3), .val (.int p4), .val (.int p5), .val (.int (1 : Int32)), .val (.int (1 : Int32)), .val (.int y0), .val (.int y1), .val (.int y2), .val (.ref b173), .val (.ref b177), .val (.int (0 : Int32)), .val (.ref wN), .unset] [])
    refine own_goW (fun t k => XS.aload X184.here hx rfl (hb hby at_144) rfl rfl k) ?_
    show own_EndW _ _ _ _ _ _ _ T184 (mkF m 146 #[.val (.int p1), .val (.int p2), .val (.int p3), .val (.int p4), .val (.int p5), .val (.int (1 : Int32)), .val (.int (1 : Int32)), .val (.int y0), .val (.int y1), .val (.int y2), .val (.ref b173), .val (.ref b177), .val (.int (0 : Int32)), .val (.ref wN), .unset] [(.ref b177)])
    obtain ⟨v185, T185, L185, X185, hQ185, st185⟩ := own_callV (y := (⟨"com/example/coxswain/coxswain/wire/Status", "details", "()[B"⟩ : MethodName)) (z := (⟨"com/example/coxswain/coxswain/wire/Status", "details", "()[B"⟩ : MethodName)) X184 hx hZ hown (hw _ (List.mem_of_getElem? (i := 42) rfl)) (hw _ (List.mem_of_getElem? (i := 43) rfl)) (hw _ (List.mem_of_getElem? (i := 45) rfl)) (hw _ (List.mem_of_getElem? (i := 44) rfl)) (Ec180.keep Kc181) (hw _ (List.mem_of_getElem? (i := 46) rfl)) (by decide) (hw _ (List.mem_of_getElem? (i := 3) rfl)) (rmT0 l Z a0 hw [] b177 wN cl T181.heap n0 (Nat.le_trans (Nat.le_trans (Nat.le_trans (Nat.le_trans (Nat.le_trans Z0 E173.1) (Keep.of_wr W175).1) E177.1) Kc180.1) Kc181.1) (Fd180.keep Kc181 (ninS (Ne.symm ne_b173_b177) nin0)) (own_StaK SN K181) (own_ArrK Ar K181) Sz) e184 (W := 0) (by decide) (by decide) (g := (mkF m 146 #[.val (.int p1), .val (.int p2), .val (.int p3), .val (.int p4), .val (.int p5), .val (.int (1 : Int32)), .val (.int (1 : Int32)), .val (.int y0), .val (.int y1), .val (.int y2), .val (.ref b173), .val (.ref b177), .val (.int (0 : Int32)), .val (.ref wN), .unset] [(.ref b177)])) rfl (by rw [hml]; rfl) (argsL := []) (rest := []) (b := b177) rfl (notFace_of_selects (args := #[]) (mvT hZ (hw _ (List.mem_of_getElem? (i := 45) rfl)))) (lenOf pd____B rfl) rfl (by show 2 * 0 + _ ≤ _; exact Nat.le_of_eq rfl) (hb hby at_146) (by decide) (by decide)
    obtain ⟨rfl, N185q, e185⟩ := hQ185
    have N185 := Fr.app N184 N185q
    refine own_goW st185 ?_
    show own_EndW _ _ _ _ _ _ _ T185 (mkF m 149 #[.val (.int p1), .val (.int p2), .val (.int p3), .val (.int p4), .val (.int p5), .val (.int (1 : Int32)), .val (.int (1 : Int32)), .val (.int y0), .val (.int y1), .val (.int y2), .val (.ref b173), .val (.ref b177), .val (.int (0 : Int32)), .val (.ref wN), .unset] [(.ref wN)])
    refine own_goW (fun t k => XS.astore X185.here hx rfl (hb hby at_149) rfl rfl (l' := #[.val (.int p1), .val (.int p2), .val (.int p3), .val (.int p4), .val (.int p5), .val (.int (1 : Int32)), .val (.int (1 : Int32)), .val (.int y0), .val (.int y1), .val (.int y2), .val (.ref b173), .val (.ref b177), .val (.int (0 : Int32)), .val (.ref wN), .val (.ref wN)]) rfl k) ?_
    show own_EndW _ _ _ _ _ _ _ T185 (mkF m 151 #[.val (.int p1), .val (.int p2), .val (.int p3), .val (.int p4), .val (.int p5), .val (.int (1 : Int32)), .val (.int (1 : Int32)), .val (.int y0), .val (.int y1), .val (.int y2), .val (.ref b173), .val (.ref b177), .val (.int (0 : Int32)), .val (.ref wN), .val (.ref wN)] [])
    refine own_goW (fun t k => XS.aload X185.here hx rfl (hb hby at_151) rfl rfl k) ?_
    show own_EndW _ _ _ _ _ _ _ T185 (mkF m 153 #[.val (.int p1), .val (.int p2), .val (.int p3), .val (.int p4), .val (.int p5), .val (.int (1 : Int32)), .val (.int (1 : Int32)), .val (.int y0), .val (.int y1), .val (.int y2), .val (.ref b173), .val (.ref b177), .val (.int (0 : Int32)), .val (.ref wN), .val (.ref wN)] [(.ref wN)])
    refine own_goW (fun t k => XS.iload X185.here hx rfl (hb hby at_153) rfl k) ?_
    show own_EndW _ _ _ _ _ _ _ T185 (mkF m 155 #[.val (.int p1), .val (.int p2), .val (.int p3), .val (.int p4), .val (.int p5), .val (.int (1 : Int32)), .val (.int (1 : Int32)), .val (.int y0), .val (.int y1), .val (.int y2), .val (.ref b173), .val (.ref b177), .val (.int (0 : Int32)), .val (.ref wN), .val (.ref wN)] [(.int (0 : Int32)), (.ref wN)])
    refine own_goW (fun t k => XS.iload X185.here hx rfl (hb hby at_155) rfl k) ?_
    show own_EndW _ _ _ _ _ _ _ T185 (mkF m 157 #[.val (.int p1), .val (.int p2), .val (.int p3), .val (.int p4), .val (.int p5), .val (.int (1 : Int32)), .val (.int (1 : Int32)), .val (.int y0), .val (.int y1), .val (.int y2), .val (.ref b173), .val (.ref b177), .val (.int (0 : Int32)), .val (.ref wN), .val (.ref wN)] [(.int y0), (.int (0 : Int32)), (.ref wN)])
    refine own_goW (fun t k => XS.iload X185.here hx rfl (hb hby at_157) rfl k) ?_
    show own_EndW _ _ _ _ _ _ _ T185 (mkF m 159 #[.val (.int p1), .val (.int p2), .val (.int p3), .val (.int p4), .val (.int p5), .val (.int (1 : Int32)), .val (.int (1 : Int32)), .val (.int y0), .val (.int y1), .val (.int y2), .val (.ref b173), .val (.ref b177), .val (.int (0 : Int32)), .val (.ref wN), .val (.ref wN)] [(.int y1), (.int y0), (.int (0 : Int32)), (.ref wN)])
    refine own_goW (fun t k => XS.iload X185.here hx rfl (hb hby at_159) rfl k) ?_
    show own_EndW _ _ _ _ _ _ _ T185 (mkF m 161 #[.val (.int p1), .val (.int p2), .val (.int p3), .val (.int p4), .val (.int p5), .val (.int (1 : Int32)), .val (.int (1 : Int32)), .val (.int y0), .val (.int y1), .val (.int y2), .val (.ref b173), .val (.ref b177), .val (.int (0 : Int32)), .val (.ref wN), .val (.ref wN)] [(.int y2), (.int y1), (.int y0), (.int (0 : Int32)), (.ref wN)])
    obtain ⟨v186, T186, L186, X186, hQ186, st186⟩ := own_callS (y := (⟨"com/example/coxswain/coxswain/wire/StatusDetailsPinLaw", "same", "([BIBBB)Z"⟩ : MethodName)) X185 hx hZ hown (hw _ (List.mem_of_getElem? (i := 47) rfl)) (hw _ (List.mem_of_getElem? (i := 48) rfl)) (hw _ (List.mem_of_getElem? (i := 49) rfl)) (by decide) (hw _ (List.mem_of_getElem? (i := 40) rfl)) (rmM0 l Z a0 hw [] wN y0 y1 y2 cl T181.heap n0 (Nat.le_trans (Nat.le_trans (Nat.le_trans (Nat.le_trans (Nat.le_trans Z0 E173.1) (Keep.of_wr W175).1) E177.1) Kc180.1) Kc181.1) (own_ArrK Ar K181) Sz) e185 (W := 0) (by decide) (by decide) (g := (mkF m 161 #[.val (.int p1), .val (.int p2), .val (.int p3), .val (.int p4), .val (.int p5), .val (.int (1 : Int32)), .val (.int (1 : Int32)), .val (.int y0), .val (.int y1), .val (.int y2), .val (.ref b173), .val (.ref b177), .val (.int (0 : Int32)), .val (.ref wN), .val (.ref wN)] [(.int y2), (.int y1), (.int y0), (.int (0 : Int32)), (.ref wN)])) rfl (by rw [hml]; rfl) (argsL := [(.ref wN), (.int (0 : Int32)), (.int y0), (.int y1), (.int y2)]) (rest := []) rfl (lenOf pd___BIBBB_Z rfl) rfl (by show 2 * 0 + _ ≤ _; exact Nat.le_of_eq rfl) (hb hby at_161) (by decide) (by decide)
    obtain ⟨rfl, N186q, e186⟩ := hQ186
    have N186 := Fr.app N185 N186q
    refine own_goW st186 ?_
    show own_EndW _ _ _ _ _ _ _ T186 (mkF m 164 #[.val (.int p1), .val (.int p2), .val (.int p3), .val (.int p4), .val (.int p5), .val (.int (1 : Int32)), .val (.int (1 : Int32)), .val (.int y0), .val (.int y1), .val (.int y2), .val (.ref b173), .val (.ref b177), .val (.int (0 : Int32)), .val (.ref wN), .val (.ref wN)] [(.int (1 : Int32))])
    exact own_retWW X186 hS180 (by rw [e186]; exact (Nat.le_trans (Nat.le_refl T180.heap.size) Kc181.1)) hx Bd.returns Bd.notSynchronized rfl (Or.inl ⟨rfl, by simp, _, rfl⟩) (hb hby at_164) ⟨rfl, N186⟩ (by decide) (by decide)
theorem ef_rm0_2 (m : MethodId) (x0 : Int32) (x1 : Int32) (x2 : Int32) (x3 : Int32) (x4 : Int32) : entryFrame m #[(.int x0), (.int x1), (.int x2), (.int x3), (.int x4)] maxLocals = mkF m 0 #[.val (.int x0), .val (.int x1), .val (.int x2), .val (.int x3), .val (.int x4), .unset, .unset, .unset, .unset, .unset, .unset, .unset, .unset, .unset, .unset] [] := by first | (simp [entryFrame, mkF, argsToLocals, Value.category, maxLocals]; done) | rfl
set_option maxRecDepth 65536 in
set_option maxHeartbeats 40000000 in
theorem rm0_2 (l : Launch) (Z : State) (a0 : Array Value) (hw : ∀ d ∈ tables_1, d.before a0 Z = true) (ws : List Jvm.Cond) (p1 p2 p3 p4 p5 y0 y1 y2 : Int32) (wU wN : Addr) (cl : Cell) (h0 : Heap) (n0 : Nat) (Z0 : n0 ≤ h0.size) (hn : (p1 &&& (3 : Int32)) = (2 : Int32)) (he0 : p3.toInt8.toInt32 = y0) (he1 : p4.toInt8.toInt32 = y1) (he2 : p5.toInt8.toInt32 = y2) (hb0 : y0.toInt8.toInt32 = y0) (hb1 : y1.toInt8.toInt32 = y1) (hb2 : y2.toInt8.toInt32 = y2) (SU : Sta Z h0 "com/example/coxswain/coxswain/wire/StatusCode" "UNKNOWN" "Lcom/example/coxswain/coxswain/wire/StatusCode;" (.ref wU)) (SN : Sta Z h0 "com/example/coxswain/coxswain/wire/Status" "NO_DETAILS" "[B" (.ref wN)) (Ar : Arr Z h0 wN cl .byte) (Sz : cl.slots.size = (0 : Int32).toNatClampNeg) :
    MetFree l x (head1 (Jvm.Cond.code x code maxLocals ret :: ws) room_1) (fun a U => a = #[(.int p1), (.int p2), (.int p3), (.int p4), (.int p5)] ∧ Z.Warmed39 U.vm ∧ U.heap = h0) (fun _ _ _ _ _ => True) (fun _ U o U' => ∃ v L, o = .returned v ∧ own_law n0 v U'.heap L ∧ ReturnedEndW U o U' L room_1.cells room_1.slots) := by
  refine MetFree.of_bodySF (plainFor_of_name pn_com_example_coxswain_coxswain_wire_StatusDetailsPinLaw) hisR ?_
  intro p e s m args below meth c s₁ Bd hml0 hP hK
  obtain ⟨rfl, hZ, hh⟩ := hP
  have hx := Bd.exec
  have hby := Bd.bytes
  have hml : c.maxLocals = 15 := hml0
  have hown : s.vm.findClass "com/example/coxswain/coxswain/wire/StatusDetailsPinLaw" = some m.cls := findClass_of_methodNamed Bd.named
  have hnm := (name_of_methodNamed Bd.named Bd.method).1
  have X0 : Stand p l e room_1 (s.setVm s.vm) m #[(.int p1), (.int p2), (.int p3), (.int p4), (.int p5)] below meth c s₁ [] 0 0 := Stand.of_body Bd
  have e0 : s₁.heap = h0 := by rw [← hh, Bd.state]; rfl
  have N0 := Fr.nil n0
  suffices own_main : own_EndW p e below s (own_law n0) room_1.cells room_1.slots s₁ (mkF m 0 #[.val (.int p1), .val (.int p2), .val (.int p3), .val (.int p4), .val (.int p5), .unset, .unset, .unset, .unset, .unset, .unset, .unset, .unset, .unset, .unset] []) by
    obtain ⟨s₂, o, k1, k2, k3, k4⟩ := own_main
    exact ⟨s₂, o, castTop (ef_rm0_2 m p1 p2 p3 p4 p5) k1, k2, k3, k4⟩
  have hS0 : s.Since s.vm h0.size := (State.WarmedH.refl s).since _
  have hk0 : h0.size ≤ h0.size := Nat.le_refl _
  show own_EndW _ _ _ _ _ _ _ s₁ (mkF m 0 #[.val (.int p1), .val (.int p2), .val (.int p3), .val (.int p4), .val (.int p5), .unset, .unset, .unset, .unset, .unset, .unset, .unset, .unset, .unset, .unset] [])
  refine own_goW (fun t k => XS.iloadN X0.here hx rfl (hb hby at_0) rfl k) ?_
  show own_EndW _ _ _ _ _ _ _ s₁ (mkF m 1 #[.val (.int p1), .val (.int p2), .val (.int p3), .val (.int p4), .val (.int p5), .unset, .unset, .unset, .unset, .unset, .unset, .unset, .unset, .unset, .unset] [(.int p1)])
  refine own_goW (fun t k => XS.iconst X0.here hx rfl (hb hby at_1) k) ?_
  show own_EndW _ _ _ _ _ _ _ s₁ (mkF m 2 #[.val (.int p1), .val (.int p2), .val (.int p3), .val (.int p4), .val (.int p5), .unset, .unset, .unset, .unset, .unset, .unset, .unset, .unset, .unset, .unset] [(.int (3 : Int32)), (.int p1)])
  refine own_goW (fun t k => XS.iand X0.here hx rfl (hb hby at_2) rfl k) ?_
  show own_EndW _ _ _ _ _ _ _ s₁ (mkF m 3 #[.val (.int p1), .val (.int p2), .val (.int p3), .val (.int p4), .val (.int p5), .unset, .unset, .unset, .unset, .unset, .unset, .unset, .unset, .unset, .unset] [(.int (p1 &&& (3 : Int32)))])
  rw [hn]
  show own_EndW _ _ _ _ _ _ _ s₁ (mkF m 3 #[.val (.int p1), .val (.int p2), .val (.int p3), .val (.int p4), .val (.int p5), .unset, .unset, .unset, .unset, .unset, .unset, .unset, .unset, .unset, .unset] [(.int (2 : Int32))])
  refine own_goW (fun t k => XS.istore X0.here hx rfl (hb hby at_3) rfl (l' := #[.val (.int p1), .val (.int p2), .val (.int p3), .val (.int p4), .val (.int p5), .val (.int (2 : Int32)), .unset, .unset, .unset, .unset, .unset, .unset, .unset, .unset, .unset]) rfl k) ?_
  show own_EndW _ _ _ _ _ _ _ s₁ (mkF m 5 #[.val (.int p1), .val (.int p2), .val (.int p3), .val (.int p4), .val (.int p5), .val (.int (2 : Int32)), .unset, .unset, .unset, .unset, .unset, .unset, .unset, .unset, .unset] [])
  refine own_goW (fun t k => XS.iloadN X0.here hx rfl (hb hby at_5) rfl k) ?_
  show own_EndW _ _ _ _ _ _ _ s₁ (mkF m 6 #[.val (.int p1), .val (.int p2), .val (.int p3), .val (.int p4), .val (.int p5), .val (.int (2 : Int32)), .unset, .unset, .unset, .unset, .unset, .unset, .unset, .unset, .unset] [(.int p2)])
  refine own_goW (fun t k => XS.iconst X0.here hx rfl (hb hby at_6) k) ?_
  show own_EndW _ _ _ _ _ _ _ s₁ (mkF m 7 #[.val (.int p1), .val (.int p2), .val (.int p3), .val (.int p4), .val (.int p5), .val (.int (2 : Int32)), .unset, .unset, .unset, .unset, .unset, .unset, .unset, .unset, .unset] [(.int (1 : Int32)), (.int p2)])
  refine own_goW (fun t k => XS.iand X0.here hx rfl (hb hby at_7) rfl k) ?_
  show own_EndW _ _ _ _ _ _ _ s₁ (mkF m 8 #[.val (.int p1), .val (.int p2), .val (.int p3), .val (.int p4), .val (.int p5), .val (.int (2 : Int32)), .unset, .unset, .unset, .unset, .unset, .unset, .unset, .unset, .unset] [(.int (p2 &&& (1 : Int32)))])
  by_cases hc8 : (p2 &&& (1 : Int32)) = (0 : Int32)
  · refine own_goW (fun t k => XS.ifYes X0.here hx rfl (pc0 := 8) (pc' := 15) rfl (hb hby at_8) rfl ((if0 _ _).trans (teq hc8).1) (by decide) (by decide) k) ?_
    show own_EndW _ _ _ _ _ _ _ s₁ (mkF m 15 #[.val (.int p1), .val (.int p2), .val (.int p3), .val (.int p4), .val (.int p5), .val (.int (2 : Int32)), .unset, .unset, .unset, .unset, .unset, .unset, .unset, .unset, .unset] [])
    refine own_goW (fun t k => XS.iconst X0.here hx rfl (hb hby at_15) k) ?_
    show own_EndW _ _ _ _ _ _ _ s₁ (mkF m 16 #[.val (.int p1), .val (.int p2), .val (.int p3), .val (.int p4), .val (.int p5), .val (.int (2 : Int32)), .unset, .unset, .unset, .unset, .unset, .unset, .unset, .unset, .unset] [(.int (0 : Int32))])
    refine own_goW (fun t k => XS.istore X0.here hx rfl (hb hby at_16) rfl (l' := #[.val (.int p1), .val (.int p2), .val (.int p3), .val (.int p4), .val (.int p5), .val (.int (2 : Int32)), .val (.int (0 : Int32)), .unset, .unset, .unset, .unset, .unset, .unset, .unset, .unset]) rfl k) ?_
    show own_EndW _ _ _ _ _ _ _ s₁ (mkF m 18 #[.val (.int p1), .val (.int p2), .val (.int p3), .val (.int p4), .val (.int p5), .val (.int (2 : Int32)), .val (.int (0 : Int32)), .unset, .unset, .unset, .unset, .unset, .unset, .unset, .unset] [])
    refine own_goW (fun t k => XS.iloadN X0.here hx rfl (hb hby at_18) rfl k) ?_
    show own_EndW _ _ _ _ _ _ _ s₁ (mkF m 19 #[.val (.int p1), .val (.int p2), .val (.int p3), .val (.int p4), .val (.int p5), .val (.int (2 : Int32)), .val (.int (0 : Int32)), .unset, .unset, .unset, .unset, .unset, .unset, .unset, .unset] [(.int p3)])
    refine own_goW (fun t k => XS.i2b X0.here hx rfl (hb hby at_19) rfl k) ?_
    show own_EndW _ _ _ _ _ _ _ s₁ (mkF m 20 #[.val (.int p1), .val (.int p2), .val (.int p3), .val (.int p4), .val (.int p5), .val (.int (2 : Int32)), .val (.int (0 : Int32)), .unset, .unset, .unset, .unset, .unset, .unset, .unset, .unset] [(.int (p3.toInt8.toInt32))])
    rw [he0]
    refine own_goW (fun t k => XS.istore X0.here hx rfl (hb hby at_20) rfl (l' := #[.val (.int p1), .val (.int p2), .val (.int p3), .val (.int p4), .val (.int p5), .val (.int (2 : Int32)), .val (.int (0 : Int32)), .val (.int y0), .unset, .unset, .unset, .unset, .unset, .unset, .unset]) rfl k) ?_
    show own_EndW _ _ _ _ _ _ _ s₁ (mkF m 22 #[.val (.int p1), .val (.int p2), .val (.int p3), .val (.int p4), .val (.int p5), .val (.int (2 : Int32)), .val (.int (0 : Int32)), .val (.int y0), .unset, .unset, .unset, .unset, .unset, .unset, .unset] [])
    refine own_goW (fun t k => XS.iloadN X0.here hx rfl (hb hby at_22) rfl k) ?_
    show own_EndW _ _ _ _ _ _ _ s₁ (mkF m 23 #[.val (.int p1), .val (.int p2), .val (.int p3), .val (.int p4), .val (.int p5), .val (.int (2 : Int32)), .val (.int (0 : Int32)), .val (.int y0), .unset, .unset, .unset, .unset, .unset, .unset, .unset] [(.int p4)])
    refine own_goW (fun t k => XS.i2b X0.here hx rfl (hb hby at_23) rfl k) ?_
    show own_EndW _ _ _ _ _ _ _ s₁ (mkF m 24 #[.val (.int p1), .val (.int p2), .val (.int p3), .val (.int p4), .val (.int p5), .val (.int (2 : Int32)), .val (.int (0 : Int32)), .val (.int y0), .unset, .unset, .unset, .unset, .unset, .unset, .unset] [(.int (p4.toInt8.toInt32))])
    rw [he1]
    refine own_goW (fun t k => XS.istore X0.here hx rfl (hb hby at_24) rfl (l' := #[.val (.int p1), .val (.int p2), .val (.int p3), .val (.int p4), .val (.int p5), .val (.int (2 : Int32)), .val (.int (0 : Int32)), .val (.int y0), .val (.int y1), .unset, .unset, .unset, .unset, .unset, .unset]) rfl k) ?_
    show own_EndW _ _ _ _ _ _ _ s₁ (mkF m 26 #[.val (.int p1), .val (.int p2), .val (.int p3), .val (.int p4), .val (.int p5), .val (.int (2 : Int32)), .val (.int (0 : Int32)), .val (.int y0), .val (.int y1), .unset, .unset, .unset, .unset, .unset, .unset] [])
    refine own_goW (fun t k => XS.iload X0.here hx rfl (hb hby at_26) rfl k) ?_
    show own_EndW _ _ _ _ _ _ _ s₁ (mkF m 28 #[.val (.int p1), .val (.int p2), .val (.int p3), .val (.int p4), .val (.int p5), .val (.int (2 : Int32)), .val (.int (0 : Int32)), .val (.int y0), .val (.int y1), .unset, .unset, .unset, .unset, .unset, .unset] [(.int p5)])
    refine own_goW (fun t k => XS.i2b X0.here hx rfl (hb hby at_28) rfl k) ?_
    show own_EndW _ _ _ _ _ _ _ s₁ (mkF m 29 #[.val (.int p1), .val (.int p2), .val (.int p3), .val (.int p4), .val (.int p5), .val (.int (2 : Int32)), .val (.int (0 : Int32)), .val (.int y0), .val (.int y1), .unset, .unset, .unset, .unset, .unset, .unset] [(.int (p5.toInt8.toInt32))])
    rw [he2]
    refine own_goW (fun t k => XS.istore X0.here hx rfl (hb hby at_29) rfl (l' := #[.val (.int p1), .val (.int p2), .val (.int p3), .val (.int p4), .val (.int p5), .val (.int (2 : Int32)), .val (.int (0 : Int32)), .val (.int y0), .val (.int y1), .val (.int y2), .unset, .unset, .unset, .unset, .unset]) rfl k) ?_
    show own_EndW _ _ _ _ _ _ _ s₁ (mkF m 31 #[.val (.int p1), .val (.int p2), .val (.int p3), .val (.int p4), .val (.int p5), .val (.int (2 : Int32)), .val (.int (0 : Int32)), .val (.int y0), .val (.int y1), .val (.int y2), .unset, .unset, .unset, .unset, .unset] [])
    refine own_goW (fun t k => XS.iload X0.here hx rfl (hb hby at_31) rfl k) ?_
    show own_EndW _ _ _ _ _ _ _ s₁ (mkF m 33 #[.val (.int p1), .val (.int p2), .val (.int p3), .val (.int p4), .val (.int p5), .val (.int (2 : Int32)), .val (.int (0 : Int32)), .val (.int y0), .val (.int y1), .val (.int y2), .unset, .unset, .unset, .unset, .unset] [(.int (2 : Int32))])
    obtain ⟨T187, h187, k187, X187, e187, E187, A187, B187, st187⟩ := newPE X0 hx hZ (hw _ (List.mem_of_getElem? (i := 0) rfl)) e0 (g := (mkF m 33 #[.val (.int p1), .val (.int p2), .val (.int p3), .val (.int p4), .val (.int p5), .val (.int (2 : Int32)), .val (.int (0 : Int32)), .val (.int y0), .val (.int y1), .val (.int y2), .unset, .unset, .unset, .unset, .unset] [(.int (2 : Int32))])) rfl (hb hby at_33) rfl (by decide) (cap := 2) (by decide) (by decide) (by decide) (by decide) (ad := "[B") (by decide)
    obtain ⟨b187, g187⟩ : ∃ z, z = h0.size := ⟨_, rfl⟩
    rw [← g187] at A187 B187 st187
    have g_b187 : n0 ≤ b187 := Nat.le_trans Z0 (Nat.le_of_eq g187.symm)
    have sz_b187 : h0.size ≤ b187 := Nat.le_trans (Keep.refl h0 []).1 (Nat.le_of_eq g187.symm)
    have V187 : Arv Z h187 b187 k187 .byte (2 : Int32) [(.int (0 : Int32)), (.int (0 : Int32))] (.int (0 : Int32)) := (Arv.new A187 (by decide)).pad (pad_rep [] (.int (0 : Int32)) 2)
    have K188 : Keep h0 h187 [] := (Keep.refl h0 []).ext E187
    refine own_goW st187 ?_
    show own_EndW _ _ _ _ _ _ _ T187 (mkF m 35 #[.val (.int p1), .val (.int p2), .val (.int p3), .val (.int p4), .val (.int p5), .val (.int (2 : Int32)), .val (.int (0 : Int32)), .val (.int y0), .val (.int y1), .val (.int y2), .unset, .unset, .unset, .unset, .unset] [(.ref b187)])
    refine own_goW (fun t k => XS.astore X187.here hx rfl (hb hby at_35) rfl rfl (l' := #[.val (.int p1), .val (.int p2), .val (.int p3), .val (.int p4), .val (.int p5), .val (.int (2 : Int32)), .val (.int (0 : Int32)), .val (.int y0), .val (.int y1), .val (.int y2), .val (.ref b187), .unset, .unset, .unset, .unset]) rfl k) ?_
    show own_EndW _ _ _ _ _ _ _ T187 (mkF m 37 #[.val (.int p1), .val (.int p2), .val (.int p3), .val (.int p4), .val (.int p5), .val (.int (2 : Int32)), .val (.int (0 : Int32)), .val (.int y0), .val (.int y1), .val (.int y2), .val (.ref b187), .unset, .unset, .unset, .unset] [])
    refine own_goW (fun t k => XS.iload X187.here hx rfl (hb hby at_37) rfl k) ?_
    show own_EndW _ _ _ _ _ _ _ T187 (mkF m 39 #[.val (.int p1), .val (.int p2), .val (.int p3), .val (.int p4), .val (.int p5), .val (.int (2 : Int32)), .val (.int (0 : Int32)), .val (.int y0), .val (.int y1), .val (.int y2), .val (.ref b187), .unset, .unset, .unset, .unset] [(.int (2 : Int32))])
    refine own_goW (fun t k => XS.ifNo X187.here hx rfl (hb hby at_39) rfl ((if0 _ _).trans (tlt (by decide : (0 : Int32) < (2 : Int32))).2.2.2) k) ?_
    show own_EndW _ _ _ _ _ _ _ T187 (mkF m 42 #[.val (.int p1), .val (.int p2), .val (.int p3), .val (.int p4), .val (.int p5), .val (.int (2 : Int32)), .val (.int (0 : Int32)), .val (.int y0), .val (.int y1), .val (.int y2), .val (.ref b187), .unset, .unset, .unset, .unset] [])
    refine own_goW (fun t k => XS.aload X187.here hx rfl (hb hby at_42) rfl rfl k) ?_
    show own_EndW _ _ _ _ _ _ _ T187 (mkF m 44 #[.val (.int p1), .val (.int p2), .val (.int p3), .val (.int p4), .val (.int p5), .val (.int (2 : Int32)), .val (.int (0 : Int32)), .val (.int y0), .val (.int y1), .val (.int y2), .val (.ref b187), .unset, .unset, .unset, .unset] [(.ref b187)])
    refine own_goW (fun t k => XS.iconst X187.here hx rfl (hb hby at_44) k) ?_
    show own_EndW _ _ _ _ _ _ _ T187 (mkF m 45 #[.val (.int p1), .val (.int p2), .val (.int p3), .val (.int p4), .val (.int p5), .val (.int (2 : Int32)), .val (.int (0 : Int32)), .val (.int y0), .val (.int y1), .val (.int y2), .val (.ref b187), .unset, .unset, .unset, .unset] [(.int (0 : Int32)), (.ref b187)])
    refine own_goW (fun t k => XS.iload X187.here hx rfl (hb hby at_45) rfl k) ?_
    show own_EndW _ _ _ _ _ _ _ T187 (mkF m 47 #[.val (.int p1), .val (.int p2), .val (.int p3), .val (.int p4), .val (.int p5), .val (.int (2 : Int32)), .val (.int (0 : Int32)), .val (.int y0), .val (.int y1), .val (.int y2), .val (.ref b187), .unset, .unset, .unset, .unset] [(.int y0), (.int (0 : Int32)), (.ref b187)])
    obtain ⟨cl189, Ar189, q189, S189, M189, H189, G189⟩ := id V187
    obtain ⟨T189, h189, X189, e189, W189, st189⟩ := stB X187 hx hZ e187 Ar189 (j := (0 : Int32)) (inb_of S189 ⟨by decide, by decide⟩) (g := (mkF m 47 #[.val (.int p1), .val (.int p2), .val (.int p3), .val (.int p4), .val (.int p5), .val (.int (2 : Int32)), .val (.int (0 : Int32)), .val (.int y0), .val (.int y1), .val (.int y2), .val (.ref b187), .unset, .unset, .unset, .unset] [(.int y0), (.int (0 : Int32)), (.ref b187)])) rfl rfl (hb hby at_47)
    have Vs189 := Arv.set Ar189 q189 S189 M189 H189 G189 (fits_nar_byte _) W189 0 rfl (Nat.le_of_ble_eq_true rfl)
    rw [hb0] at Vs189
    have V189v : Arv Z h189 b187 k187 .byte (2 : Int32) [(.int y0), (.int (0 : Int32))] (.int (0 : Int32)) := Vs189
    have K190 : Keep h0 h189 [] := K188.wr W189 (Or.inr sz_b187)
    have N189 := Fr.snoc X189 N0 g_b187
    refine own_goW st189 ?_
    show own_EndW _ _ _ _ _ _ _ T189 (mkF m 48 #[.val (.int p1), .val (.int p2), .val (.int p3), .val (.int p4), .val (.int p5), .val (.int (2 : Int32)), .val (.int (0 : Int32)), .val (.int y0), .val (.int y1), .val (.int y2), .val (.ref b187), .unset, .unset, .unset, .unset] [])
    refine own_goW (fun t k => XS.iload X189.here hx rfl (hb hby at_48) rfl k) ?_
    show own_EndW _ _ _ _ _ _ _ T189 (mkF m 50 #[.val (.int p1), .val (.int p2), .val (.int p3), .val (.int p4), .val (.int p5), .val (.int (2 : Int32)), .val (.int (0 : Int32)), .val (.int y0), .val (.int y1), .val (.int y2), .val (.ref b187), .unset, .unset, .unset, .unset] [(.int (2 : Int32))])
    refine own_goW (fun t k => XS.iconst X189.here hx rfl (hb hby at_50) k) ?_
    show own_EndW _ _ _ _ _ _ _ T189 (mkF m 51 #[.val (.int p1), .val (.int p2), .val (.int p3), .val (.int p4), .val (.int p5), .val (.int (2 : Int32)), .val (.int (0 : Int32)), .val (.int y0), .val (.int y1), .val (.int y2), .val (.ref b187), .unset, .unset, .unset, .unset] [(.int (1 : Int32)), (.int (2 : Int32))])
    refine own_goW (fun t k => XS.icmpNo X189.here hx rfl (hb hby at_51) rfl (tlt (by decide : (1 : Int32) < (2 : Int32))).2.2.2 k) ?_
    show own_EndW _ _ _ _ _ _ _ T189 (mkF m 54 #[.val (.int p1), .val (.int p2), .val (.int p3), .val (.int p4), .val (.int p5), .val (.int (2 : Int32)), .val (.int (0 : Int32)), .val (.int y0), .val (.int y1), .val (.int y2), .val (.ref b187), .unset, .unset, .unset, .unset] [])
    refine own_goW (fun t k => XS.aload X189.here hx rfl (hb hby at_54) rfl rfl k) ?_
    show own_EndW _ _ _ _ _ _ _ T189 (mkF m 56 #[.val (.int p1), .val (.int p2), .val (.int p3), .val (.int p4), .val (.int p5), .val (.int (2 : Int32)), .val (.int (0 : Int32)), .val (.int y0), .val (.int y1), .val (.int y2), .val (.ref b187), .unset, .unset, .unset, .unset] [(.ref b187)])
    refine own_goW (fun t k => XS.iconst X189.here hx rfl (hb hby at_56) k) ?_
    show own_EndW _ _ _ _ _ _ _ T189 (mkF m 57 #[.val (.int p1), .val (.int p2), .val (.int p3), .val (.int p4), .val (.int p5), .val (.int (2 : Int32)), .val (.int (0 : Int32)), .val (.int y0), .val (.int y1), .val (.int y2), .val (.ref b187), .unset, .unset, .unset, .unset] [(.int (1 : Int32)), (.ref b187)])
    refine own_goW (fun t k => XS.iload X189.here hx rfl (hb hby at_57) rfl k) ?_
    show own_EndW _ _ _ _ _ _ _ T189 (mkF m 59 #[.val (.int p1), .val (.int p2), .val (.int p3), .val (.int p4), .val (.int p5), .val (.int (2 : Int32)), .val (.int (0 : Int32)), .val (.int y0), .val (.int y1), .val (.int y2), .val (.ref b187), .unset, .unset, .unset, .unset] [(.int y1), (.int (1 : Int32)), (.ref b187)])
    obtain ⟨cl191, Ar191, q191, S191, M191, H191, G191⟩ := id V189v
    obtain ⟨T191, h191, X191, e191, W191, st191⟩ := stB X189 hx hZ e189 Ar191 (j := (1 : Int32)) (inb_of S191 ⟨by decide, by decide⟩) (g := (mkF m 59 #[.val (.int p1), .val (.int p2), .val (.int p3), .val (.int p4), .val (.int p5), .val (.int (2 : Int32)), .val (.int (0 : Int32)), .val (.int y0), .val (.int y1), .val (.int y2), .val (.ref b187), .unset, .unset, .unset, .unset] [(.int y1), (.int (1 : Int32)), (.ref b187)])) rfl rfl (hb hby at_59)
    have Vs191 := Arv.set Ar191 q191 S191 M191 H191 G191 (fits_nar_byte _) W191 1 rfl (Nat.le_of_ble_eq_true rfl)
    rw [hb1] at Vs191
    have V191v : Arv Z h191 b187 k187 .byte (2 : Int32) [(.int y0), (.int y1)] (.int (0 : Int32)) := Vs191
    have K192 : Keep h0 h191 [] := K190.wr W191 (Or.inr sz_b187)
    have N191 := Fr.snoc X191 N189 g_b187
    refine own_goW st191 ?_
    show own_EndW _ _ _ _ _ _ _ T191 (mkF m 60 #[.val (.int p1), .val (.int p2), .val (.int p3), .val (.int p4), .val (.int p5), .val (.int (2 : Int32)), .val (.int (0 : Int32)), .val (.int y0), .val (.int y1), .val (.int y2), .val (.ref b187), .unset, .unset, .unset, .unset] [])
    refine own_goW (fun t k => XS.iload X191.here hx rfl (hb hby at_60) rfl k) ?_
    show own_EndW _ _ _ _ _ _ _ T191 (mkF m 62 #[.val (.int p1), .val (.int p2), .val (.int p3), .val (.int p4), .val (.int p5), .val (.int (2 : Int32)), .val (.int (0 : Int32)), .val (.int y0), .val (.int y1), .val (.int y2), .val (.ref b187), .unset, .unset, .unset, .unset] [(.int (2 : Int32))])
    refine own_goW (fun t k => XS.iconst X191.here hx rfl (hb hby at_62) k) ?_
    show own_EndW _ _ _ _ _ _ _ T191 (mkF m 63 #[.val (.int p1), .val (.int p2), .val (.int p3), .val (.int p4), .val (.int p5), .val (.int (2 : Int32)), .val (.int (0 : Int32)), .val (.int y0), .val (.int y1), .val (.int y2), .val (.ref b187), .unset, .unset, .unset, .unset] [(.int (2 : Int32)), (.int (2 : Int32))])
    refine own_goW (fun t k => XS.icmpYes X191.here hx rfl (pc0 := 63) (pc' := 72) rfl (hb hby at_63) rfl (flt (by decide : ¬ ((2 : Int32) < (2 : Int32)))).2.2.2 (by decide) (by decide) k) ?_
    show own_EndW _ _ _ _ _ _ _ T191 (mkF m 72 #[.val (.int p1), .val (.int p2), .val (.int p3), .val (.int p4), .val (.int p5), .val (.int (2 : Int32)), .val (.int (0 : Int32)), .val (.int y0), .val (.int y1), .val (.int y2), .val (.ref b187), .unset, .unset, .unset, .unset] [])
    obtain ⟨T193, h193, X193, e193, E193, A193, D193, -, st193⟩ := newO X191 hx hZ hown (hw _ (List.mem_of_getElem? (i := 1) rfl)) (hw _ (List.mem_of_getElem? (i := 2) rfl)) (hw _ (List.mem_of_getElem? (i := 3) rfl)) e191 (g := (mkF m 72 #[.val (.int p1), .val (.int p2), .val (.int p3), .val (.int p4), .val (.int p5), .val (.int (2 : Int32)), .val (.int (0 : Int32)), .val (.int y0), .val (.int y1), .val (.int y2), .val (.ref b187), .unset, .unset, .unset, .unset] [])) rfl (hb hby at_72) (by decide) (by decide)
    obtain ⟨b193, g193⟩ : ∃ z, z = h191.size := ⟨_, rfl⟩
    rw [← g193] at A193 D193 st193
    have ne_b187_b193 : b187 ≠ b193 := Nat.ne_of_lt (Nat.lt_of_lt_of_le V191v.lt (Nat.le_of_eq g193.symm))
    have g_b193 : n0 ≤ b193 := Nat.le_trans (Nat.le_trans (Nat.le_trans (Nat.le_trans Z0 E187.1) (Keep.of_wr W189).1) (Keep.of_wr W191).1) (Nat.le_of_eq g193.symm)
    have sz_b193 : h0.size ≤ b193 := Nat.le_trans K192.1 (Nat.le_of_eq g193.symm)
    have F193_code : Fld Z h193 b193 "com/example/coxswain/coxswain/wire/Status" "code" "Lcom/example/coxswain/coxswain/wire/StatusCode;" .null := D193 (Or.inr (hw _ (List.mem_of_getElem? (i := 33) rfl))) (ty := (.object "com/example/coxswain/coxswain/wire/StatusCode")) (by decide)
    have F193_description : Fld Z h193 b193 "com/example/coxswain/coxswain/wire/Status" "description" "Ljava/lang/String;" .null := D193 (Or.inr (hw _ (List.mem_of_getElem? (i := 35) rfl))) (ty := (.object "java/lang/String")) (by decide)
    have F193_details : Fld Z h193 b193 "com/example/coxswain/coxswain/wire/Status" "details" "[B" .null := D193 (Or.inr (hw _ (List.mem_of_getElem? (i := 37) rfl))) (ty := (.array .byte)) (by decide)
    have K194 : Keep h0 h193 [] := K192.ext E193
    refine own_goW st193 ?_
    show own_EndW _ _ _ _ _ _ _ T193 (mkF m 75 #[.val (.int p1), .val (.int p2), .val (.int p3), .val (.int p4), .val (.int p5), .val (.int (2 : Int32)), .val (.int (0 : Int32)), .val (.int y0), .val (.int y1), .val (.int y2), .val (.ref b187), .unset, .unset, .unset, .unset] [(.ref b193)])
    refine own_goW (fun t k => XS.dup X193.here hx rfl (hb hby at_75) rfl rfl k) ?_
    show own_EndW _ _ _ _ _ _ _ T193 (mkF m 76 #[.val (.int p1), .val (.int p2), .val (.int p3), .val (.int p4), .val (.int p5), .val (.int (2 : Int32)), .val (.int (0 : Int32)), .val (.int y0), .val (.int y1), .val (.int y2), .val (.ref b187), .unset, .unset, .unset, .unset] [(.ref b193), (.ref b193)])
    obtain ⟨T195, X195, e195, st195⟩ := getS2 X193 hx hZ hown (host := "") (Or.inl (hw _ (List.mem_of_getElem? (i := 4) rfl))) Via.refl e193 (own_StaK SU K194) (g := (mkF m 76 #[.val (.int p1), .val (.int p2), .val (.int p3), .val (.int p4), .val (.int p5), .val (.int (2 : Int32)), .val (.int (0 : Int32)), .val (.int y0), .val (.int y1), .val (.int y2), .val (.ref b187), .unset, .unset, .unset, .unset] [(.ref b193), (.ref b193)])) rfl (hb hby at_76)
    refine own_goW st195 ?_
    show own_EndW _ _ _ _ _ _ _ T195 (mkF m 79 #[.val (.int p1), .val (.int p2), .val (.int p3), .val (.int p4), .val (.int p5), .val (.int (2 : Int32)), .val (.int (0 : Int32)), .val (.int y0), .val (.int y1), .val (.int y2), .val (.ref b187), .unset, .unset, .unset, .unset] [(.ref wU), (.ref b193), (.ref b193)])
    refine own_goW (fun t k => XS.aconstNull X195.here hx rfl (hb hby at_79) k) ?_
    show own_EndW _ _ _ _ _ _ _ T195 (mkF m 80 #[.val (.int p1), .val (.int p2), .val (.int p3), .val (.int p4), .val (.int p5), .val (.int (2 : Int32)), .val (.int (0 : Int32)), .val (.int y0), .val (.int y1), .val (.int y2), .val (.ref b187), .unset, .unset, .unset, .unset] [.null, (.ref wU), (.ref b193), (.ref b193)])
    refine own_goW (fun t k => XS.iload X195.here hx rfl (hb hby at_80) rfl k) ?_
    show own_EndW _ _ _ _ _ _ _ T195 (mkF m 82 #[.val (.int p1), .val (.int p2), .val (.int p3), .val (.int p4), .val (.int p5), .val (.int (2 : Int32)), .val (.int (0 : Int32)), .val (.int y0), .val (.int y1), .val (.int y2), .val (.ref b187), .unset, .unset, .unset, .unset] [(.int (0 : Int32)), .null, (.ref wU), (.ref b193), (.ref b193)])
    refine own_goW (fun t k => XS.ifYes X195.here hx rfl (pc0 := 82) (pc' := 89) rfl (hb hby at_82) rfl ((if0 _ _).trans (teq (by decide : (0 : Int32) = (0 : Int32))).1) (by decide) (by decide) k) ?_
    show own_EndW _ _ _ _ _ _ _ T195 (mkF m 89 #[.val (.int p1), .val (.int p2), .val (.int p3), .val (.int p4), .val (.int p5), .val (.int (2 : Int32)), .val (.int (0 : Int32)), .val (.int y0), .val (.int y1), .val (.int y2), .val (.ref b187), .unset, .unset, .unset, .unset] [.null, (.ref wU), (.ref b193), (.ref b193)])
    refine own_goW (fun t k => XS.aload X195.here hx rfl (hb hby at_89) rfl rfl k) ?_
    show own_EndW _ _ _ _ _ _ _ T195 (mkF m 91 #[.val (.int p1), .val (.int p2), .val (.int p3), .val (.int p4), .val (.int p5), .val (.int (2 : Int32)), .val (.int (0 : Int32)), .val (.int y0), .val (.int y1), .val (.int y2), .val (.ref b187), .unset, .unset, .unset, .unset] [(.ref b187), .null, (.ref wU), (.ref b193), (.ref b193)])
    obtain ⟨v196, T196, L196, X196, hQ196, hS196, hZ, hown, st196⟩ := own_callNW (y := (⟨"com/example/coxswain/coxswain/wire/Status", "<init>", "(Lcom/example/coxswain/coxswain/wire/StatusCode;Ljava/lang/String;[B)V"⟩ : MethodName)) X195 hx hZ hown (hw _ (List.mem_of_getElem? (i := 7) rfl)) (hw _ (List.mem_of_getElem? (i := 8) rfl)) (hw _ (List.mem_of_getElem? (i := 9) rfl)) (by decide) (hw _ (List.mem_of_getElem? (i := 3) rfl)) (rmI2 l Z a0 hw [] b193 wU b187 k187 y0 y1 h193 n0 (Nat.le_trans (Nat.le_trans (Nat.le_trans (Nat.le_trans Z0 E187.1) (Keep.of_wr W189).1) (Keep.of_wr W191).1) E193.1) A193 g_b193 F193_code F193_description F193_details (V191v.ext E193) (Ne.symm ne_b187_b193) (((B187.wr W189).wr W191).ext E193)) e195 (W := 1) (by decide) (by decide) (g := (mkF m 91 #[.val (.int p1), .val (.int p2), .val (.int p3), .val (.int p4), .val (.int p5), .val (.int (2 : Int32)), .val (.int (0 : Int32)), .val (.int y0), .val (.int y1), .val (.int y2), .val (.ref b187), .unset, .unset, .unset, .unset] [(.ref b187), .null, (.ref wU), (.ref b193), (.ref b193)])) rfl (by rw [hml]; rfl) (argsL := [(.ref wU), .null, (.ref b187)]) (rest := [(.ref b193)]) (a := b193) rfl rfl (lenOf pd__Lcom_example_coxswain_coxswain_wire_StatusCode_Ljava_lang_String__B_V rfl) rfl (by show 2 * 0 + _ ≤ _; exact Nat.le_of_eq rfl) (hb hby at_91) (by decide) (by decide)
    obtain ⟨rfl, N196q, Kc196, Ec196, d196, gd196, zd196, Fd196, Vd196, Ed196⟩ := hQ196
    have N196 := Fr.app N191 N196q
    have ne_b187_d196 : b187 ≠ d196 := Nat.ne_of_lt (Nat.lt_of_lt_of_le (V191v.ext E193).lt zd196)
    have ne_b193_d196 : b193 ≠ d196 := Nat.ne_of_lt (Nat.lt_of_lt_of_le A193.lt zd196)
    have K196 : Keep h0 T196.heap [] := K194.trans Kc196 (fun x hx => by cases List.mem_singleton.mp hx; exact Or.inr sz_b193)
    refine own_goW st196 ?_
    show own_EndW _ _ _ _ _ _ _ T196 (mkF m 94 #[.val (.int p1), .val (.int p2), .val (.int p3), .val (.int p4), .val (.int p5), .val (.int (2 : Int32)), .val (.int (0 : Int32)), .val (.int y0), .val (.int y1), .val (.int y2), .val (.ref b187), .unset, .unset, .unset, .unset] [(.ref b193)])
    refine own_goW (fun t k => XS.astore X196.here hx rfl (hb hby at_94) rfl rfl (l' := #[.val (.int p1), .val (.int p2), .val (.int p3), .val (.int p4), .val (.int p5), .val (.int (2 : Int32)), .val (.int (0 : Int32)), .val (.int y0), .val (.int y1), .val (.int y2), .val (.ref b187), .val (.ref b193), .unset, .unset, .unset]) rfl k) ?_
    show own_EndW _ _ _ _ _ _ _ T196 (mkF m 96 #[.val (.int p1), .val (.int p2), .val (.int p3), .val (.int p4), .val (.int p5), .val (.int (2 : Int32)), .val (.int (0 : Int32)), .val (.int y0), .val (.int y1), .val (.int y2), .val (.ref b187), .val (.ref b193), .unset, .unset, .unset] [])
    refine own_goW (fun t k => XS.aload X196.here hx rfl (hb hby at_96) rfl rfl k) ?_
    show own_EndW _ _ _ _ _ _ _ T196 (mkF m 98 #[.val (.int p1), .val (.int p2), .val (.int p3), .val (.int p4), .val (.int p5), .val (.int (2 : Int32)), .val (.int (0 : Int32)), .val (.int y0), .val (.int y1), .val (.int y2), .val (.ref b187), .val (.ref b193), .unset, .unset, .unset] [(.ref b187)])
    obtain ⟨v197, T197, L197, X197, hQ197, st197⟩ := own_callS (y := (⟨"com/example/coxswain/coxswain/wire/StatusDetailsPinLaw", "scramble", "([B)V"⟩ : MethodName)) X196 hx hZ hown (hw _ (List.mem_of_getElem? (i := 38) rfl)) (hw _ (List.mem_of_getElem? (i := 39) rfl)) (hw _ (List.mem_of_getElem? (i := 41) rfl)) (by decide) (hw _ (List.mem_of_getElem? (i := 40) rfl)) (rmS2 l Z a0 hw [] b187 k187 y0 y1 T196.heap n0 (Nat.le_trans (Nat.le_trans (Nat.le_trans (Nat.le_trans (Nat.le_trans Z0 E187.1) (Keep.of_wr W189).1) (Keep.of_wr W191).1) E193.1) Kc196.1) ((V191v.ext E193).keep Kc196 (ninS ne_b187_b193 nin0)) g_b187) rfl (W := 0) (by decide) (by decide) (g := (mkF m 98 #[.val (.int p1), .val (.int p2), .val (.int p3), .val (.int p4), .val (.int p5), .val (.int (2 : Int32)), .val (.int (0 : Int32)), .val (.int y0), .val (.int y1), .val (.int y2), .val (.ref b187), .val (.ref b193), .unset, .unset, .unset] [(.ref b187)])) rfl (by rw [hml]; rfl) (argsL := [(.ref b187)]) (rest := []) rfl (lenOf pd___B_V rfl) rfl (by show 2 * 0 + _ ≤ _; exact Nat.le_of_eq rfl) (hb hby at_98) (by decide) (by decide)
    obtain ⟨rfl, N197q, Kc197⟩ := hQ197
    have N197 := Fr.app N196 N197q
    refine own_goW st197 ?_
    have K197 : Keep h0 T197.heap [] := K196.trans Kc197 (fun x hx => by cases List.mem_singleton.mp hx; exact Or.inr sz_b187)
    show own_EndW _ _ _ _ _ _ _ T197 (mkF m 101 #[.val (.int p1), .val (.int p2), .val (.int p3), .val (.int p4), .val (.int p5), .val (.int (2 : Int32)), .val (.int (0 : Int32)), .val (.int y0), .val (.int y1), .val (.int y2), .val (.ref b187), .val (.ref b193), .unset, .unset, .unset] [])
    refine own_goW (fun t k => XS.iload X197.here hx rfl (hb hby at_101) rfl k) ?_
    show own_EndW _ _ _ _ _ _ _ T197 (mkF m 103 #[.val (.int p1), .val (.int p2), .val (.int p3), .val (.int p4), .val (.int p5), .val (.int (2 : Int32)), .val (.int (0 : Int32)), .val (.int y0), .val (.int y1), .val (.int y2), .val (.ref b187), .val (.ref b193), .unset, .unset, .unset] [(.int (0 : Int32))])
    refine own_goW (fun t k => XS.ifYes X197.here hx rfl (pc0 := 103) (pc' := 110) rfl (hb hby at_103) rfl ((if0 _ _).trans (teq (by decide : (0 : Int32) = (0 : Int32))).1) (by decide) (by decide) k) ?_
    show own_EndW _ _ _ _ _ _ _ T197 (mkF m 110 #[.val (.int p1), .val (.int p2), .val (.int p3), .val (.int p4), .val (.int p5), .val (.int (2 : Int32)), .val (.int (0 : Int32)), .val (.int y0), .val (.int y1), .val (.int y2), .val (.ref b187), .val (.ref b193), .unset, .unset, .unset] [])
    refine own_goW (fun t k => XS.iload X197.here hx rfl (hb hby at_110) rfl k) ?_
    show own_EndW _ _ _ _ _ _ _ T197 (mkF m 112 #[.val (.int p1), .val (.int p2), .val (.int p3), .val (.int p4), .val (.int p5), .val (.int (2 : Int32)), .val (.int (0 : Int32)), .val (.int y0), .val (.int y1), .val (.int y2), .val (.ref b187), .val (.ref b193), .unset, .unset, .unset] [(.int (2 : Int32))])
    refine own_goW (fun t k => XS.istore X197.here hx rfl (hb hby at_112) rfl (l' := #[.val (.int p1), .val (.int p2), .val (.int p3), .val (.int p4), .val (.int p5), .val (.int (2 : Int32)), .val (.int (0 : Int32)), .val (.int y0), .val (.int y1), .val (.int y2), .val (.ref b187), .val (.ref b193), .val (.int (2 : Int32)), .unset, .unset]) rfl k) ?_
    show own_EndW _ _ _ _ _ _ _ T197 (mkF m 114 #[.val (.int p1), .val (.int p2), .val (.int p3), .val (.int p4), .val (.int p5), .val (.int (2 : Int32)), .val (.int (0 : Int32)), .val (.int y0), .val (.int y1), .val (.int y2), .val (.ref b187), .val (.ref b193), .val (.int (2 : Int32)), .unset, .unset] [])
    refine own_goW (fun t k => XS.aload X197.here hx rfl (hb hby at_114) rfl rfl k) ?_
    show own_EndW _ _ _ _ _ _ _ T197 (mkF m 116 #[.val (.int p1), .val (.int p2), .val (.int p3), .val (.int p4), .val (.int p5), .val (.int (2 : Int32)), .val (.int (0 : Int32)), .val (.int y0), .val (.int y1), .val (.int y2), .val (.ref b187), .val (.ref b193), .val (.int (2 : Int32)), .unset, .unset] [(.ref b193)])
    obtain ⟨v198, T198, L198, X198, hQ198, st198⟩ := own_callV (y := (⟨"com/example/coxswain/coxswain/wire/Status", "details", "()[B"⟩ : MethodName)) (z := (⟨"com/example/coxswain/coxswain/wire/Status", "details", "()[B"⟩ : MethodName)) X197 hx hZ hown (hw _ (List.mem_of_getElem? (i := 42) rfl)) (hw _ (List.mem_of_getElem? (i := 43) rfl)) (hw _ (List.mem_of_getElem? (i := 45) rfl)) (hw _ (List.mem_of_getElem? (i := 44) rfl)) (Ec196.keep Kc197) (hw _ (List.mem_of_getElem? (i := 46) rfl)) (by decide) (hw _ (List.mem_of_getElem? (i := 3) rfl)) (rmT2 l Z a0 hw [] b193 d196 k187 y0 y1 T197.heap n0 (Nat.le_trans (Nat.le_trans (Nat.le_trans (Nat.le_trans (Nat.le_trans (Nat.le_trans Z0 E187.1) (Keep.of_wr W189).1) (Keep.of_wr W191).1) E193.1) Kc196.1) Kc197.1) (Fd196.keep Kc197 (ninS (Ne.symm ne_b187_b193) nin0)) (Vd196.keep Kc197 (ninS (Ne.symm ne_b187_d196) nin0)) (Ed196.keep Kc197)) rfl (W := 0) (by decide) (by decide) (g := (mkF m 116 #[.val (.int p1), .val (.int p2), .val (.int p3), .val (.int p4), .val (.int p5), .val (.int (2 : Int32)), .val (.int (0 : Int32)), .val (.int y0), .val (.int y1), .val (.int y2), .val (.ref b187), .val (.ref b193), .val (.int (2 : Int32)), .unset, .unset] [(.ref b193)])) rfl (by rw [hml]; rfl) (argsL := []) (rest := []) (b := b193) rfl (notFace_of_selects (args := #[]) (mvT hZ (hw _ (List.mem_of_getElem? (i := 45) rfl)))) (lenOf pd____B rfl) rfl (by show 2 * 0 + _ ≤ _; exact Nat.le_of_eq rfl) (hb hby at_116) (by decide) (by decide)
    obtain ⟨x198, rfl, N198q, Kc198, gx198, zx198, Vx198⟩ := hQ198
    have N198 := Fr.app N197 N198q
    refine own_goW st198 ?_
    have ne_b187_x198 : b187 ≠ x198 := Nat.ne_of_lt (Nat.lt_of_lt_of_le (((((B187.wr W189).wr W191).ext E193).keep Kc196).keep Kc197).lt zx198)
    have ne_b193_x198 : b193 ≠ x198 := Nat.ne_of_lt (Nat.lt_of_lt_of_le (Ec196.keep Kc197).lt zx198)
    have ne_d196_x198 : d196 ≠ x198 := Nat.ne_of_lt (Nat.lt_of_lt_of_le (Vd196.keep Kc197 (ninS (Ne.symm ne_b187_d196) nin0)).lt zx198)
    have sz_x198 : h0.size ≤ x198 := Nat.le_trans K197.1 zx198
    have K198 : Keep h0 T198.heap [] := K197.trans Kc198 (fun x hx => nomatch hx)
    show own_EndW _ _ _ _ _ _ _ T198 (mkF m 119 #[.val (.int p1), .val (.int p2), .val (.int p3), .val (.int p4), .val (.int p5), .val (.int (2 : Int32)), .val (.int (0 : Int32)), .val (.int y0), .val (.int y1), .val (.int y2), .val (.ref b187), .val (.ref b193), .val (.int (2 : Int32)), .unset, .unset] [(.ref x198)])
    refine own_goW (fun t k => XS.astore X198.here hx rfl (hb hby at_119) rfl rfl (l' := #[.val (.int p1), .val (.int p2), .val (.int p3), .val (.int p4), .val (.int p5), .val (.int (2 : Int32)), .val (.int (0 : Int32)), .val (.int y0), .val (.int y1), .val (.int y2), .val (.ref b187), .val (.ref b193), .val (.int (2 : Int32)), .val (.ref x198), .unset]) rfl k) ?_
    show own_EndW _ _ _ _ _ _ _ T198 (mkF m 121 #[.val (.int p1), .val (.int p2), .val (.int p3), .val (.int p4), .val (.int p5), .val (.int (2 : Int32)), .val (.int (0 : Int32)), .val (.int y0), .val (.int y1), .val (.int y2), .val (.ref b187), .val (.ref b193), .val (.int (2 : Int32)), .val (.ref x198), .unset] [])
    refine own_goW (fun t k => XS.aload X198.here hx rfl (hb hby at_121) rfl rfl k) ?_
    show own_EndW _ _ _ _ _ _ _ T198 (mkF m 123 #[.val (.int p1), .val (.int p2), .val (.int p3), .val (.int p4), .val (.int p5), .val (.int (2 : Int32)), .val (.int (0 : Int32)), .val (.int y0), .val (.int y1), .val (.int y2), .val (.ref b187), .val (.ref b193), .val (.int (2 : Int32)), .val (.ref x198), .unset] [(.ref x198)])
    refine own_goW (fun t k => XS.iload X198.here hx rfl (hb hby at_123) rfl k) ?_
    show own_EndW _ _ _ _ _ _ _ T198 (mkF m 125 #[.val (.int p1), .val (.int p2), .val (.int p3), .val (.int p4), .val (.int p5), .val (.int (2 : Int32)), .val (.int (0 : Int32)), .val (.int y0), .val (.int y1), .val (.int y2), .val (.ref b187), .val (.ref b193), .val (.int (2 : Int32)), .val (.ref x198), .unset] [(.int (2 : Int32)), (.ref x198)])
    refine own_goW (fun t k => XS.iload X198.here hx rfl (hb hby at_125) rfl k) ?_
    show own_EndW _ _ _ _ _ _ _ T198 (mkF m 127 #[.val (.int p1), .val (.int p2), .val (.int p3), .val (.int p4), .val (.int p5), .val (.int (2 : Int32)), .val (.int (0 : Int32)), .val (.int y0), .val (.int y1), .val (.int y2), .val (.ref b187), .val (.ref b193), .val (.int (2 : Int32)), .val (.ref x198), .unset] [(.int y0), (.int (2 : Int32)), (.ref x198)])
    refine own_goW (fun t k => XS.iload X198.here hx rfl (hb hby at_127) rfl k) ?_
    show own_EndW _ _ _ _ _ _ _ T198 (mkF m 129 #[.val (.int p1), .val (.int p2), .val (.int p3), .val (.int p4), .val (.int p5), .val (.int (2 : Int32)), .val (.int (0 : Int32)), .val (.int y0), .val (.int y1), .val (.int y2), .val (.ref b187), .val (.ref b193), .val (.int (2 : Int32)), .val (.ref x198), .unset] [(.int y1), (.int y0), (.int (2 : Int32)), (.ref x198)])
    refine own_goW (fun t k => XS.iload X198.here hx rfl (hb hby at_129) rfl k) ?_
    show own_EndW _ _ _ _ _ _ _ T198 (mkF m 131 #[.val (.int p1), .val (.int p2), .val (.int p3), .val (.int p4), .val (.int p5), .val (.int (2 : Int32)), .val (.int (0 : Int32)), .val (.int y0), .val (.int y1), .val (.int y2), .val (.ref b187), .val (.ref b193), .val (.int (2 : Int32)), .val (.ref x198), .unset] [(.int y2), (.int y1), (.int y0), (.int (2 : Int32)), (.ref x198)])
    obtain ⟨v199, T199, L199, X199, hQ199, st199⟩ := own_callS (y := (⟨"com/example/coxswain/coxswain/wire/StatusDetailsPinLaw", "same", "([BIBBB)Z"⟩ : MethodName)) X198 hx hZ hown (hw _ (List.mem_of_getElem? (i := 47) rfl)) (hw _ (List.mem_of_getElem? (i := 48) rfl)) (hw _ (List.mem_of_getElem? (i := 49) rfl)) (by decide) (hw _ (List.mem_of_getElem? (i := 40) rfl)) (rmM2 l Z a0 hw [] x198 y0 y1 y2 k187 T198.heap n0 (Nat.le_trans (Nat.le_trans (Nat.le_trans (Nat.le_trans (Nat.le_trans (Nat.le_trans (Nat.le_trans Z0 E187.1) (Keep.of_wr W189).1) (Keep.of_wr W191).1) E193.1) Kc196.1) Kc197.1) Kc198.1) Vx198) rfl (W := 0) (by decide) (by decide) (g := (mkF m 131 #[.val (.int p1), .val (.int p2), .val (.int p3), .val (.int p4), .val (.int p5), .val (.int (2 : Int32)), .val (.int (0 : Int32)), .val (.int y0), .val (.int y1), .val (.int y2), .val (.ref b187), .val (.ref b193), .val (.int (2 : Int32)), .val (.ref x198), .unset] [(.int y2), (.int y1), (.int y0), (.int (2 : Int32)), (.ref x198)])) rfl (by rw [hml]; rfl) (argsL := [(.ref x198), (.int (2 : Int32)), (.int y0), (.int y1), (.int y2)]) (rest := []) rfl (lenOf pd___BIBBB_Z rfl) rfl (by show 2 * 0 + _ ≤ _; exact Nat.le_of_eq rfl) (hb hby at_131) (by decide) (by decide)
    obtain ⟨rfl, N199q, e199⟩ := hQ199
    have N199 := Fr.app N198 N199q
    refine own_goW st199 ?_
    show own_EndW _ _ _ _ _ _ _ T199 (mkF m 134 #[.val (.int p1), .val (.int p2), .val (.int p3), .val (.int p4), .val (.int p5), .val (.int (2 : Int32)), .val (.int (0 : Int32)), .val (.int y0), .val (.int y1), .val (.int y2), .val (.ref b187), .val (.ref b193), .val (.int (2 : Int32)), .val (.ref x198), .unset] [(.int (1 : Int32))])
    refine own_goW (fun t k => XS.ifYes X199.here hx rfl (pc0 := 134) (pc' := 139) rfl (hb hby at_134) rfl ((if0 _ _).trans (feq (by decide : ¬ ((1 : Int32) = (0 : Int32)))).2) (by decide) (by decide) k) ?_
    show own_EndW _ _ _ _ _ _ _ T199 (mkF m 139 #[.val (.int p1), .val (.int p2), .val (.int p3), .val (.int p4), .val (.int p5), .val (.int (2 : Int32)), .val (.int (0 : Int32)), .val (.int y0), .val (.int y1), .val (.int y2), .val (.ref b187), .val (.ref b193), .val (.int (2 : Int32)), .val (.ref x198), .unset] [])
    refine own_goW (fun t k => XS.aload X199.here hx rfl (hb hby at_139) rfl rfl k) ?_
    show own_EndW _ _ _ _ _ _ _ T199 (mkF m 141 #[.val (.int p1), .val (.int p2), .val (.int p3), .val (.int p4), .val (.int p5), .val (.int (2 : Int32)), .val (.int (0 : Int32)), .val (.int y0), .val (.int y1), .val (.int y2), .val (.ref b187), .val (.ref b193), .val (.int (2 : Int32)), .val (.ref x198), .unset] [(.ref x198)])
    obtain ⟨v200, T200, L200, X200, hQ200, st200⟩ := own_callS (y := (⟨"com/example/coxswain/coxswain/wire/StatusDetailsPinLaw", "scramble", "([B)V"⟩ : MethodName)) X199 hx hZ hown (hw _ (List.mem_of_getElem? (i := 38) rfl)) (hw _ (List.mem_of_getElem? (i := 39) rfl)) (hw _ (List.mem_of_getElem? (i := 41) rfl)) (by decide) (hw _ (List.mem_of_getElem? (i := 40) rfl)) (rmS2 l Z a0 hw [] x198 k187 y0 y1 T198.heap n0 (Nat.le_trans (Nat.le_trans (Nat.le_trans (Nat.le_trans (Nat.le_trans (Nat.le_trans (Nat.le_trans Z0 E187.1) (Keep.of_wr W189).1) (Keep.of_wr W191).1) E193.1) Kc196.1) Kc197.1) Kc198.1) Vx198 gx198) e199 (W := 0) (by decide) (by decide) (g := (mkF m 141 #[.val (.int p1), .val (.int p2), .val (.int p3), .val (.int p4), .val (.int p5), .val (.int (2 : Int32)), .val (.int (0 : Int32)), .val (.int y0), .val (.int y1), .val (.int y2), .val (.ref b187), .val (.ref b193), .val (.int (2 : Int32)), .val (.ref x198), .unset] [(.ref x198)])) rfl (by rw [hml]; rfl) (argsL := [(.ref x198)]) (rest := []) rfl (lenOf pd___B_V rfl) rfl (by show 2 * 0 + _ ≤ _; exact Nat.le_of_eq rfl) (hb hby at_141) (by decide) (by decide)
    obtain ⟨rfl, N200q, Kc200⟩ := hQ200
    have N200 := Fr.app N199 N200q
    refine own_goW st200 ?_
    have K200 : Keep h0 T200.heap [] := K198.trans Kc200 (fun x hx => by cases List.mem_singleton.mp hx; exact Or.inr sz_x198)
    show own_EndW _ _ _ _ _ _ _ T200 (mkF m 144 #[.val (.int p1), .val (.int p2), .val (.int p3), .val (.int p4), .val (.int p5), .val (.int (2 : Int32)), .val (.int (0 : Int32)), .val (.int y0), .val (.int y1), .val (.int y2), .val (.ref b187), .val (.ref b193), .val (.int (2 : Int32)), .val (.ref x198), .unset] [])
    refine own_goW (fun t k => XS.aload X200.here hx rfl (hb hby at_144) rfl rfl k) ?_
    show own_EndW _ _ _ _ _ _ _ T200 (mkF m 146 #[.val (.int p1), .val (.int p2), .val (.int p3), .val (.int p4), .val (.int p5), .val (.int (2 : Int32)), .val (.int (0 : Int32)), .val (.int y0), .val (.int y1), .val (.int y2), .val (.ref b187), .val (.ref b193), .val (.int (2 : Int32)), .val (.ref x198), .unset] [(.ref b193)])
    obtain ⟨v201, T201, L201, X201, hQ201, st201⟩ := own_callV (y := (⟨"com/example/coxswain/coxswain/wire/Status", "details", "()[B"⟩ : MethodName)) (z := (⟨"com/example/coxswain/coxswain/wire/Status", "details", "()[B"⟩ : MethodName)) X200 hx hZ hown (hw _ (List.mem_of_getElem? (i := 42) rfl)) (hw _ (List.mem_of_getElem? (i := 43) rfl)) (hw _ (List.mem_of_getElem? (i := 45) rfl)) (hw _ (List.mem_of_getElem? (i := 44) rfl)) (((Ec196.keep Kc197).keep Kc198).keep Kc200) (hw _ (List.mem_of_getElem? (i := 46) rfl)) (by decide) (hw _ (List.mem_of_getElem? (i := 3) rfl)) (rmT2 l Z a0 hw [] b193 d196 k187 y0 y1 T200.heap n0 (Nat.le_trans (Nat.le_trans (Nat.le_trans (Nat.le_trans (Nat.le_trans (Nat.le_trans (Nat.le_trans (Nat.le_trans Z0 E187.1) (Keep.of_wr W189).1) (Keep.of_wr W191).1) E193.1) Kc196.1) Kc197.1) Kc198.1) Kc200.1) (((Fd196.keep Kc197 (ninS (Ne.symm ne_b187_b193) nin0)).keep Kc198 nin0).keep Kc200 (ninS ne_b193_x198 nin0)) (((Vd196.keep Kc197 (ninS (Ne.symm ne_b187_d196) nin0)).keep Kc198 nin0).keep Kc200 (ninS ne_d196_x198 nin0)) (((Ed196.keep Kc197).keep Kc198).keep Kc200)) rfl (W := 0) (by decide) (by decide) (g := (mkF m 146 #[.val (.int p1), .val (.int p2), .val (.int p3), .val (.int p4), .val (.int p5), .val (.int (2 : Int32)), .val (.int (0 : Int32)), .val (.int y0), .val (.int y1), .val (.int y2), .val (.ref b187), .val (.ref b193), .val (.int (2 : Int32)), .val (.ref x198), .unset] [(.ref b193)])) rfl (by rw [hml]; rfl) (argsL := []) (rest := []) (b := b193) rfl (notFace_of_selects (args := #[]) (mvT hZ (hw _ (List.mem_of_getElem? (i := 45) rfl)))) (lenOf pd____B rfl) rfl (by show 2 * 0 + _ ≤ _; exact Nat.le_of_eq rfl) (hb hby at_146) (by decide) (by decide)
    obtain ⟨x201, rfl, N201q, Kc201, gx201, zx201, Vx201⟩ := hQ201
    have N201 := Fr.app N200 N201q
    refine own_goW st201 ?_
    have ne_b187_x201 : b187 ≠ x201 := Nat.ne_of_lt (Nat.lt_of_lt_of_le (((((((B187.wr W189).wr W191).ext E193).keep Kc196).keep Kc197).keep Kc198).keep Kc200).lt zx201)
    have ne_b193_x201 : b193 ≠ x201 := Nat.ne_of_lt (Nat.lt_of_lt_of_le (((Ec196.keep Kc197).keep Kc198).keep Kc200).lt zx201)
    have ne_d196_x201 : d196 ≠ x201 := Nat.ne_of_lt (Nat.lt_of_lt_of_le (((Vd196.keep Kc197 (ninS (Ne.symm ne_b187_d196) nin0)).keep Kc198 nin0).keep Kc200 (ninS ne_d196_x198 nin0)).lt zx201)
    have sz_x201 : h0.size ≤ x201 := Nat.le_trans K200.1 zx201
    have K201 : Keep h0 T201.heap [] := K200.trans Kc201 (fun x hx => nomatch hx)
    show own_EndW _ _ _ _ _ _ _ T201 (mkF m 149 #[.val (.int p1), .val (.int p2), .val (.int p3), .val (.int p4), .val (.int p5), .val (.int (2 : Int32)), .val (.int (0 : Int32)), .val (.int y0), .val (.int y1), .val (.int y2), .val (.ref b187), .val (.ref b193), .val (.int (2 : Int32)), .val (.ref x198), .unset] [(.ref x201)])
    refine own_goW (fun t k => XS.astore X201.here hx rfl (hb hby at_149) rfl rfl (l' := #[.val (.int p1), .val (.int p2), .val (.int p3), .val (.int p4), .val (.int p5), .val (.int (2 : Int32)), .val (.int (0 : Int32)), .val (.int y0), .val (.int y1), .val (.int y2), .val (.ref b187), .val (.ref b193), .val (.int (2 : Int32)), .val (.ref x198), .val (.ref x201)]) rfl k) ?_
    show own_EndW _ _ _ _ _ _ _ T201 (mkF m 151 #[.val (.int p1), .val (.int p2), .val (.int p3), .val (.int p4), .val (.int p5), .val (.int (2 : Int32)), .val (.int (0 : Int32)), .val (.int y0), .val (.int y1), .val (.int y2), .val (.ref b187), .val (.ref b193), .val (.int (2 : Int32)), .val (.ref x198), .val (.ref x201)] [])
    refine own_goW (fun t k => XS.aload X201.here hx rfl (hb hby at_151) rfl rfl k) ?_
    show own_EndW _ _ _ _ _ _ _ T201 (mkF m 153 #[.val (.int p1), .val (.int p2), .val (.int p3), .val (.int p4), .val (.int p5), .val (.int (2 : Int32)), .val (.int (0 : Int32)), .val (.int y0), .val (.int y1), .val (.int y2), .val (.ref b187), .val (.ref b193), .val (.int (2 : Int32)), .val (.ref x198), .val (.ref x201)] [(.ref x201)])
    refine own_goW (fun t k => XS.iload X201.here hx rfl (hb hby at_153) rfl k) ?_
    show own_EndW _ _ _ _ _ _ _ T201 (mkF m 155 #[.val (.int p1), .val (.int p2), .val (.int p3), .val (.int p4), .val (.int p5), .val (.int (2 : Int32)), .val (.int (0 : Int32)), .val (.int y0), .val (.int y1), .val (.int y2), .val (.ref b187), .val (.ref b193), .val (.int (2 : Int32)), .val (.ref x198), .val (.ref x201)] [(.int (2 : Int32)), (.ref x201)])
    refine own_goW (fun t k => XS.iload X201.here hx rfl (hb hby at_155) rfl k) ?_
    show own_EndW _ _ _ _ _ _ _ T201 (mkF m 157 #[.val (.int p1), .val (.int p2), .val (.int p3), .val (.int p4), .val (.int p5), .val (.int (2 : Int32)), .val (.int (0 : Int32)), .val (.int y0), .val (.int y1), .val (.int y2), .val (.ref b187), .val (.ref b193), .val (.int (2 : Int32)), .val (.ref x198), .val (.ref x201)] [(.int y0), (.int (2 : Int32)), (.ref x201)])
    refine own_goW (fun t k => XS.iload X201.here hx rfl (hb hby at_157) rfl k) ?_
    show own_EndW _ _ _ _ _ _ _ T201 (mkF m 159 #[.val (.int p1), .val (.int p2), .val (.int p3), .val (.int p4), .val (.int p5), .val (.int (2 : Int32)), .val (.int (0 : Int32)), .val (.int y0), .val (.int y1), .val (.int y2), .val (.ref b187), .val (.ref b193), .val (.int (2 : Int32)), .val (.ref x198), .val (.ref x201)] [(.int y1), (.int y0), (.int (2 : Int32)), (.ref x201)])
    refine own_goW (fun t k => XS.iload X201.here hx rfl (hb hby at_159) rfl k) ?_
    show own_EndW _ _ _ _ _ _ _ T201 (mkF m 161 #[.val (.int p1), .val (.int p2), .val (.int p3), .val (.int p4), .val (.int p5), .val (.int (2 : Int32)), .val (.int (0 : Int32)), .val (.int y0), .val (.int y1), .val (.int y2), .val (.ref b187), .val (.ref b193), .val (.int (2 : Int32)), .val (.ref x198), .val (.ref x201)] [(.int y2), (.int y1), (.int y0), (.int (2 : Int32)), (.ref x201)])
    obtain ⟨v202, T202, L202, X202, hQ202, st202⟩ := own_callS (y := (⟨"com/example/coxswain/coxswain/wire/StatusDetailsPinLaw", "same", "([BIBBB)Z"⟩ : MethodName)) X201 hx hZ hown (hw _ (List.mem_of_getElem? (i := 47) rfl)) (hw _ (List.mem_of_getElem? (i := 48) rfl)) (hw _ (List.mem_of_getElem? (i := 49) rfl)) (by decide) (hw _ (List.mem_of_getElem? (i := 40) rfl)) (rmM2 l Z a0 hw [] x201 y0 y1 y2 k187 T201.heap n0 (Nat.le_trans (Nat.le_trans (Nat.le_trans (Nat.le_trans (Nat.le_trans (Nat.le_trans (Nat.le_trans (Nat.le_trans (Nat.le_trans Z0 E187.1) (Keep.of_wr W189).1) (Keep.of_wr W191).1) E193.1) Kc196.1) Kc197.1) Kc198.1) Kc200.1) Kc201.1) Vx201) rfl (W := 0) (by decide) (by decide) (g := (mkF m 161 #[.val (.int p1), .val (.int p2), .val (.int p3), .val (.int p4), .val (.int p5), .val (.int (2 : Int32)), .val (.int (0 : Int32)), .val (.int y0), .val (.int y1), .val (.int y2), .val (.ref b187), .val (.ref b193), .val (.int (2 : Int32)), .val (.ref x198), .val (.ref x201)] [(.int y2), (.int y1), (.int y0), (.int (2 : Int32)), (.ref x201)])) rfl (by rw [hml]; rfl) (argsL := [(.ref x201), (.int (2 : Int32)), (.int y0), (.int y1), (.int y2)]) (rest := []) rfl (lenOf pd___BIBBB_Z rfl) rfl (by show 2 * 0 + _ ≤ _; exact Nat.le_of_eq rfl) (hb hby at_161) (by decide) (by decide)
    obtain ⟨rfl, N202q, e202⟩ := hQ202
    have N202 := Fr.app N201 N202q
    refine own_goW st202 ?_
    show own_EndW _ _ _ _ _ _ _ T202 (mkF m 164 #[.val (.int p1), .val (.int p2), .val (.int p3), .val (.int p4), .val (.int p5), .val (.int (2 : Int32)), .val (.int (0 : Int32)), .val (.int y0), .val (.int y1), .val (.int y2), .val (.ref b187), .val (.ref b193), .val (.int (2 : Int32)), .val (.ref x198), .val (.ref x201)] [(.int (1 : Int32))])
    exact own_retWW X202 hS196 (by rw [e202]; exact (Nat.le_trans (Nat.le_trans (Nat.le_trans (Nat.le_trans (Nat.le_refl T196.heap.size) Kc197.1) Kc198.1) Kc200.1) Kc201.1)) hx Bd.returns Bd.notSynchronized rfl (Or.inl ⟨rfl, by simp, _, rfl⟩) (hb hby at_164) ⟨rfl, N202⟩ (by decide) (by decide)
  · refine own_goW (fun t k => XS.ifNo X0.here hx rfl (hb hby at_8) rfl ((if0 _ _).trans (feq hc8).1) k) ?_
    show own_EndW _ _ _ _ _ _ _ s₁ (mkF m 11 #[.val (.int p1), .val (.int p2), .val (.int p3), .val (.int p4), .val (.int p5), .val (.int (2 : Int32)), .unset, .unset, .unset, .unset, .unset, .unset, .unset, .unset, .unset] [])
    refine own_goW (fun t k => XS.iconst X0.here hx rfl (hb hby at_11) k) ?_
    show own_EndW _ _ _ _ _ _ _ s₁ (mkF m 12 #[.val (.int p1), .val (.int p2), .val (.int p3), .val (.int p4), .val (.int p5), .val (.int (2 : Int32)), .unset, .unset, .unset, .unset, .unset, .unset, .unset, .unset, .unset] [(.int (1 : Int32))])
    refine own_goW (fun t k => XS.goto X0.here hx rfl (pc0 := 12) (pc' := 16) rfl (hb hby at_12) (by decide) (by decide) k) ?_
    show own_EndW _ _ _ _ _ _ _ s₁ (mkF m 16 #[.val (.int p1), .val (.int p2), .val (.int p3), .val (.int p4), .val (.int p5), .val (.int (2 : Int32)), .unset, .unset, .unset, .unset, .unset, .unset, .unset, .unset, .unset] [(.int (1 : Int32))])
    refine own_goW (fun t k => XS.istore X0.here hx rfl (hb hby at_16) rfl (l' := #[.val (.int p1), .val (.int p2), .val (.int p3), .val (.int p4), .val (.int p5), .val (.int (2 : Int32)), .val (.int (1 : Int32)), .unset, .unset, .unset, .unset, .unset, .unset, .unset, .unset]) rfl k) ?_
    show own_EndW _ _ _ _ _ _ _ s₁ (mkF m 18 #[.val (.int p1), .val (.int p2), .val (.int p3), .val (.int p4), .val (.int p5), .val (.int (2 : Int32)), .val (.int (1 : Int32)), .unset, .unset, .unset, .unset, .unset, .unset, .unset, .unset] [])
    refine own_goW (fun t k => XS.iloadN X0.here hx rfl (hb hby at_18) rfl k) ?_
    show own_EndW _ _ _ _ _ _ _ s₁ (mkF m 19 #[.val (.int p1), .val (.int p2), .val (.int p3), .val (.int p4), .val (.int p5), .val (.int (2 : Int32)), .val (.int (1 : Int32)), .unset, .unset, .unset, .unset, .unset, .unset, .unset, .unset] [(.int p3)])
    refine own_goW (fun t k => XS.i2b X0.here hx rfl (hb hby at_19) rfl k) ?_
    show own_EndW _ _ _ _ _ _ _ s₁ (mkF m 20 #[.val (.int p1), .val (.int p2), .val (.int p3), .val (.int p4), .val (.int p5), .val (.int (2 : Int32)), .val (.int (1 : Int32)), .unset, .unset, .unset, .unset, .unset, .unset, .unset, .unset] [(.int (p3.toInt8.toInt32))])
    rw [he0]
    refine own_goW (fun t k => XS.istore X0.here hx rfl (hb hby at_20) rfl (l' := #[.val (.int p1), .val (.int p2), .val (.int p3), .val (.int p4), .val (.int p5), .val (.int (2 : Int32)), .val (.int (1 : Int32)), .val (.int y0), .unset, .unset, .unset, .unset, .unset, .unset, .unset]) rfl k) ?_
    show own_EndW _ _ _ _ _ _ _ s₁ (mkF m 22 #[.val (.int p1), .val (.int p2), .val (.int p3), .val (.int p4), .val (.int p5), .val (.int (2 : Int32)), .val (.int (1 : Int32)), .val (.int y0), .unset, .unset, .unset, .unset, .unset, .unset, .unset] [])
    refine own_goW (fun t k => XS.iloadN X0.here hx rfl (hb hby at_22) rfl k) ?_
    show own_EndW _ _ _ _ _ _ _ s₁ (mkF m 23 #[.val (.int p1), .val (.int p2), .val (.int p3), .val (.int p4), .val (.int p5), .val (.int (2 : Int32)), .val (.int (1 : Int32)), .val (.int y0), .unset, .unset, .unset, .unset, .unset, .unset, .unset] [(.int p4)])
    refine own_goW (fun t k => XS.i2b X0.here hx rfl (hb hby at_23) rfl k) ?_
    show own_EndW _ _ _ _ _ _ _ s₁ (mkF m 24 #[.val (.int p1), .val (.int p2), .val (.int p3), .val (.int p4), .val (.int p5), .val (.int (2 : Int32)), .val (.int (1 : Int32)), .val (.int y0), .unset, .unset, .unset, .unset, .unset, .unset, .unset] [(.int (p4.toInt8.toInt32))])
    rw [he1]
    refine own_goW (fun t k => XS.istore X0.here hx rfl (hb hby at_24) rfl (l' := #[.val (.int p1), .val (.int p2), .val (.int p3), .val (.int p4), .val (.int p5), .val (.int (2 : Int32)), .val (.int (1 : Int32)), .val (.int y0), .val (.int y1), .unset, .unset, .unset, .unset, .unset, .unset]) rfl k) ?_
    show own_EndW _ _ _ _ _ _ _ s₁ (mkF m 26 #[.val (.int p1), .val (.int p2), .val (.int p3), .val (.int p4), .val (.int p5), .val (.int (2 : Int32)), .val (.int (1 : Int32)), .val (.int y0), .val (.int y1), .unset, .unset, .unset, .unset, .unset, .unset] [])
    refine own_goW (fun t k => XS.iload X0.here hx rfl (hb hby at_26) rfl k) ?_
    show own_EndW _ _ _ _ _ _ _ s₁ (mkF m 28 #[.val (.int p1), .val (.int p2), .val (.int p3), .val (.int p4), .val (.int p5), .val (.int (2 : Int32)), .val (.int (1 : Int32)), .val (.int y0), .val (.int y1), .unset, .unset, .unset, .unset, .unset, .unset] [(.int p5)])
    refine own_goW (fun t k => XS.i2b X0.here hx rfl (hb hby at_28) rfl k) ?_
    show own_EndW _ _ _ _ _ _ _ s₁ (mkF m 29 #[.val (.int p1), .val (.int p2), .val (.int p3), .val (.int p4), .val (.int p5), .val (.int (2 : Int32)), .val (.int (1 : Int32)), .val (.int y0), .val (.int y1), .unset, .unset, .unset, .unset, .unset, .unset] [(.int (p5.toInt8.toInt32))])
    rw [he2]
    refine own_goW (fun t k => XS.istore X0.here hx rfl (hb hby at_29) rfl (l' := #[.val (.int p1), .val (.int p2), .val (.int p3), .val (.int p4), .val (.int p5), .val (.int (2 : Int32)), .val (.int (1 : Int32)), .val (.int y0), .val (.int y1), .val (.int y2), .unset, .unset, .unset, .unset, .unset]) rfl k) ?_
    show own_EndW _ _ _ _ _ _ _ s₁ (mkF m 31 #[.val (.int p1), .val (.int p2), .val (.int p3), .val (.int p4), .val (.int p5), .val (.int (2 : Int32)), .val (.int (1 : Int32)), .val (.int y0), .val (.int y1), .val (.int y2), .unset, .unset, .unset, .unset, .unset] [])
    refine own_goW (fun t k => XS.iload X0.here hx rfl (hb hby at_31) rfl k) ?_
    show own_EndW _ _ _ _ _ _ _ s₁ (mkF m 33 #[.val (.int p1), .val (.int p2), .val (.int p3), .val (.int p4), .val (.int p5), .val (.int (2 : Int32)), .val (.int (1 : Int32)), .val (.int y0), .val (.int y1), .val (.int y2), .unset, .unset, .unset, .unset, .unset] [(.int (2 : Int32))])
    obtain ⟨T203, h203, k203, X203, e203, E203, A203, B203, st203⟩ := newPE X0 hx hZ (hw _ (List.mem_of_getElem? (i := 0) rfl)) e0 (g := (mkF m 33 #[.val (.int p1), .val (.int p2), .val (.int p3), .val (.int p4), .val (.int p5), .val (.int (2 : Int32)), .val (.int (1 : Int32)), .val (.int y0), .val (.int y1), .val (.int y2), .unset, .unset, .unset, .unset, .unset] [(.int (2 : Int32))])) rfl (hb hby at_33) rfl (by decide) (cap := 2) (by decide) (by decide) (by decide) (by decide) (ad := "[B") (by decide)
    obtain ⟨b203, g203⟩ : ∃ z, z = h0.size := ⟨_, rfl⟩
    rw [← g203] at A203 B203 st203
    have g_b203 : n0 ≤ b203 := Nat.le_trans Z0 (Nat.le_of_eq g203.symm)
    have sz_b203 : h0.size ≤ b203 := Nat.le_trans (Keep.refl h0 []).1 (Nat.le_of_eq g203.symm)
    have V203 : Arv Z h203 b203 k203 .byte (2 : Int32) [(.int (0 : Int32)), (.int (0 : Int32))] (.int (0 : Int32)) := (Arv.new A203 (by decide)).pad (pad_rep [] (.int (0 : Int32)) 2)
    have K204 : Keep h0 h203 [] := (Keep.refl h0 []).ext E203
    refine own_goW st203 ?_
    show own_EndW _ _ _ _ _ _ _ T203 (mkF m 35 #[.val (.int p1), .val (.int p2), .val (.int p3), .val (.int p4), .val (.int p5), .val (.int (2 : Int32)), .val (.int (1 : Int32)), .val (.int y0), .val (.int y1), .val (.int y2), .unset, .unset, .unset, .unset, .unset] [(.ref b203)])
    refine own_goW (fun t k => XS.astore X203.here hx rfl (hb hby at_35) rfl rfl (l' := #[.val (.int p1), .val (.int p2), .val (.int p3), .val (.int p4), .val (.int p5), .val (.int (2 : Int32)), .val (.int (1 : Int32)), .val (.int y0), .val (.int y1), .val (.int y2), .val (.ref b203), .unset, .unset, .unset, .unset]) rfl k) ?_
    show own_EndW _ _ _ _ _ _ _ T203 (mkF m 37 #[.val (.int p1), .val (.int p2), .val (.int p3), .val (.int p4), .val (.int p5), .val (.int (2 : Int32)), .val (.int (1 : Int32)), .val (.int y0), .val (.int y1), .val (.int y2), .val (.ref b203), .unset, .unset, .unset, .unset] [])
    refine own_goW (fun t k => XS.iload X203.here hx rfl (hb hby at_37) rfl k) ?_
    show own_EndW _ _ _ _ _ _ _ T203 (mkF m 39 #[.val (.int p1), .val (.int p2), .val (.int p3), .val (.int p4), .val (.int p5), .val (.int (2 : Int32)), .val (.int (1 : Int32)), .val (.int y0), .val (.int y1), .val (.int y2), .val (.ref b203), .unset, .unset, .unset, .unset] [(.int (2 : Int32))])
    refine own_goW (fun t k => XS.ifNo X203.here hx rfl (hb hby at_39) rfl ((if0 _ _).trans (tlt (by decide : (0 : Int32) < (2 : Int32))).2.2.2) k) ?_
    show own_EndW _ _ _ _ _ _ _ T203 (mkF m 42 #[.val (.int p1), .val (.int p2), .val (.int p3), .val (.int p4), .val (.int p5), .val (.int (2 : Int32)), .val (.int (1 : Int32)), .val (.int y0), .val (.int y1), .val (.int y2), .val (.ref b203), .unset, .unset, .unset, .unset] [])
    refine own_goW (fun t k => XS.aload X203.here hx rfl (hb hby at_42) rfl rfl k) ?_
    show own_EndW _ _ _ _ _ _ _ T203 (mkF m 44 #[.val (.int p1), .val (.int p2), .val (.int p3), .val (.int p4), .val (.int p5), .val (.int (2 : Int32)), .val (.int (1 : Int32)), .val (.int y0), .val (.int y1), .val (.int y2), .val (.ref b203), .unset, .unset, .unset, .unset] [(.ref b203)])
    refine own_goW (fun t k => XS.iconst X203.here hx rfl (hb hby at_44) k) ?_
    show own_EndW _ _ _ _ _ _ _ T203 (mkF m 45 #[.val (.int p1), .val (.int p2), .val (.int p3), .val (.int p4), .val (.int p5), .val (.int (2 : Int32)), .val (.int (1 : Int32)), .val (.int y0), .val (.int y1), .val (.int y2), .val (.ref b203), .unset, .unset, .unset, .unset] [(.int (0 : Int32)), (.ref b203)])
    refine own_goW (fun t k => XS.iload X203.here hx rfl (hb hby at_45) rfl k) ?_
    show own_EndW _ _ _ _ _ _ _ T203 (mkF m 47 #[.val (.int p1), .val (.int p2), .val (.int p3), .val (.int p4), .val (.int p5), .val (.int (2 : Int32)), .val (.int (1 : Int32)), .val (.int y0), .val (.int y1), .val (.int y2), .val (.ref b203), .unset, .unset, .unset, .unset] [(.int y0), (.int (0 : Int32)), (.ref b203)])
    obtain ⟨cl205, Ar205, q205, S205, M205, H205, G205⟩ := id V203
    obtain ⟨T205, h205, X205, e205, W205, st205⟩ := stB X203 hx hZ e203 Ar205 (j := (0 : Int32)) (inb_of S205 ⟨by decide, by decide⟩) (g := (mkF m 47 #[.val (.int p1), .val (.int p2), .val (.int p3), .val (.int p4), .val (.int p5), .val (.int (2 : Int32)), .val (.int (1 : Int32)), .val (.int y0), .val (.int y1), .val (.int y2), .val (.ref b203), .unset, .unset, .unset, .unset] [(.int y0), (.int (0 : Int32)), (.ref b203)])) rfl rfl (hb hby at_47)
    have Vs205 := Arv.set Ar205 q205 S205 M205 H205 G205 (fits_nar_byte _) W205 0 rfl (Nat.le_of_ble_eq_true rfl)
    rw [hb0] at Vs205
    have V205v : Arv Z h205 b203 k203 .byte (2 : Int32) [(.int y0), (.int (0 : Int32))] (.int (0 : Int32)) := Vs205
    have K206 : Keep h0 h205 [] := K204.wr W205 (Or.inr sz_b203)
    have N205 := Fr.snoc X205 N0 g_b203
    refine own_goW st205 ?_
    show own_EndW _ _ _ _ _ _ _ T205 (mkF m 48 #[.val (.int p1), .val (.int p2), .val (.int p3), .val (.int p4), .val (.int p5), .val (.int (2 : Int32)), .val (.int (1 : Int32)), .val (.int y0), .val (.int y1), .val (.int y2), .val (.ref b203), .unset, .unset, .unset, .unset] [])
    refine own_goW (fun t k => XS.iload X205.here hx rfl (hb hby at_48) rfl k) ?_
    show own_EndW _ _ _ _ _ _ _ T205 (mkF m 50 #[.val (.int p1), .val (.int p2), .val (.int p3), .val (.int p4), .val (.int p5), .val (.int (2 : Int32)), .val (.int (1 : Int32)), .val (.int y0), .val (.int y1), .val (.int y2), .val (.ref b203), .unset, .unset, .unset, .unset] [(.int (2 : Int32))])
    refine own_goW (fun t k => XS.iconst X205.here hx rfl (hb hby at_50) k) ?_
    show own_EndW _ _ _ _ _ _ _ T205 (mkF m 51 #[.val (.int p1), .val (.int p2), .val (.int p3), .val (.int p4), .val (.int p5), .val (.int (2 : Int32)), .val (.int (1 : Int32)), .val (.int y0), .val (.int y1), .val (.int y2), .val (.ref b203), .unset, .unset, .unset, .unset] [(.int (1 : Int32)), (.int (2 : Int32))])
    refine own_goW (fun t k => XS.icmpNo X205.here hx rfl (hb hby at_51) rfl (tlt (by decide : (1 : Int32) < (2 : Int32))).2.2.2 k) ?_
    show own_EndW _ _ _ _ _ _ _ T205 (mkF m 54 #[.val (.int p1), .val (.int p2), .val (.int p3), .val (.int p4), .val (.int p5), .val (.int (2 : Int32)), .val (.int (1 : Int32)), .val (.int y0), .val (.int y1), .val (.int y2), .val (.ref b203), .unset, .unset, .unset, .unset] [])
    refine own_goW (fun t k => XS.aload X205.here hx rfl (hb hby at_54) rfl rfl k) ?_
    show own_EndW _ _ _ _ _ _ _ T205 (mkF m 56 #[.val (.int p1), .val (.int p2), .val (.int p3), .val (.int p4), .val (.int p5), .val (.int (2 : Int32)), .val (.int (1 : Int32)), .val (.int y0), .val (.int y1), .val (.int y2), .val (.ref b203), .unset, .unset, .unset, .unset] [(.ref b203)])
    refine own_goW (fun t k => XS.iconst X205.here hx rfl (hb hby at_56) k) ?_
    show own_EndW _ _ _ _ _ _ _ T205 (mkF m 57 #[.val (.int p1), .val (.int p2), .val (.int p3), .val (.int p4), .val (.int p5), .val (.int (2 : Int32)), .val (.int (1 : Int32)), .val (.int y0), .val (.int y1), .val (.int y2), .val (.ref b203), .unset, .unset, .unset, .unset] [(.int (1 : Int32)), (.ref b203)])
    refine own_goW (fun t k => XS.iload X205.here hx rfl (hb hby at_57) rfl k) ?_
    show own_EndW _ _ _ _ _ _ _ T205 (mkF m 59 #[.val (.int p1), .val (.int p2), .val (.int p3), .val (.int p4), .val (.int p5), .val (.int (2 : Int32)), .val (.int (1 : Int32)), .val (.int y0), .val (.int y1), .val (.int y2), .val (.ref b203), .unset, .unset, .unset, .unset] [(.int y1), (.int (1 : Int32)), (.ref b203)])
    obtain ⟨cl207, Ar207, q207, S207, M207, H207, G207⟩ := id V205v
    obtain ⟨T207, h207, X207, e207, W207, st207⟩ := stB X205 hx hZ e205 Ar207 (j := (1 : Int32)) (inb_of S207 ⟨by decide, by decide⟩) (g := (mkF m 59 #[.val (.int p1), .val (.int p2), .val (.int p3), .val (.int p4), .val (.int p5), .val (.int (2 : Int32)), .val (.int (1 : Int32)), .val (.int y0), .val (.int y1), .val (.int y2), .val (.ref b203), .unset, .unset, .unset, .unset] [(.int y1), (.int (1 : Int32)), (.ref b203)])) rfl rfl (hb hby at_59)
    have Vs207 := Arv.set Ar207 q207 S207 M207 H207 G207 (fits_nar_byte _) W207 1 rfl (Nat.le_of_ble_eq_true rfl)
    rw [hb1] at Vs207
    have V207v : Arv Z h207 b203 k203 .byte (2 : Int32) [(.int y0), (.int y1)] (.int (0 : Int32)) := Vs207
    have K208 : Keep h0 h207 [] := K206.wr W207 (Or.inr sz_b203)
    have N207 := Fr.snoc X207 N205 g_b203
    refine own_goW st207 ?_
    show own_EndW _ _ _ _ _ _ _ T207 (mkF m 60 #[.val (.int p1), .val (.int p2), .val (.int p3), .val (.int p4), .val (.int p5), .val (.int (2 : Int32)), .val (.int (1 : Int32)), .val (.int y0), .val (.int y1), .val (.int y2), .val (.ref b203), .unset, .unset, .unset, .unset] [])
    refine own_goW (fun t k => XS.iload X207.here hx rfl (hb hby at_60) rfl k) ?_
    show own_EndW _ _ _ _ _ _ _ T207 (mkF m 62 #[.val (.int p1), .val (.int p2), .val (.int p3), .val (.int p4), .val (.int p5), .val (.int (2 : Int32)), .val (.int (1 : Int32)), .val (.int y0), .val (.int y1), .val (.int y2), .val (.ref b203), .unset, .unset, .unset, .unset] [(.int (2 : Int32))])
    refine own_goW (fun t k => XS.iconst X207.here hx rfl (hb hby at_62) k) ?_
    show own_EndW _ _ _ _ _ _ _ T207 (mkF m 63 #[.val (.int p1), .val (.int p2), .val (.int p3), .val (.int p4), .val (.int p5), .val (.int (2 : Int32)), .val (.int (1 : Int32)), .val (.int y0), .val (.int y1), .val (.int y2), .val (.ref b203), .unset, .unset, .unset, .unset] [(.int (2 : Int32)), (.int (2 : Int32))])
    refine own_goW (fun t k => XS.icmpYes X207.here hx rfl (pc0 := 63) (pc' := 72) rfl (hb hby at_63) rfl (flt (by decide : ¬ ((2 : Int32) < (2 : Int32)))).2.2.2 (by decide) (by decide) k) ?_
    show own_EndW _ _ _ _ _ _ _ T207 (mkF m 72 #[.val (.int p1), .val (.int p2), .val (.int p3), .val (.int p4), .val (.int p5), .val (.int (2 : Int32)), .val (.int (1 : Int32)), .val (.int y0), .val (.int y1), .val (.int y2), .val (.ref b203), .unset, .unset, .unset, .unset] [])
    obtain ⟨T209, h209, X209, e209, E209, A209, D209, -, st209⟩ := newO X207 hx hZ hown (hw _ (List.mem_of_getElem? (i := 1) rfl)) (hw _ (List.mem_of_getElem? (i := 2) rfl)) (hw _ (List.mem_of_getElem? (i := 3) rfl)) e207 (g := (mkF m 72 #[.val (.int p1), .val (.int p2), .val (.int p3), .val (.int p4), .val (.int p5), .val (.int (2 : Int32)), .val (.int (1 : Int32)), .val (.int y0), .val (.int y1), .val (.int y2), .val (.ref b203), .unset, .unset, .unset, .unset] [])) rfl (hb hby at_72) (by decide) (by decide)
    obtain ⟨b209, g209⟩ : ∃ z, z = h207.size := ⟨_, rfl⟩
    rw [← g209] at A209 D209 st209
    have ne_b203_b209 : b203 ≠ b209 := Nat.ne_of_lt (Nat.lt_of_lt_of_le V207v.lt (Nat.le_of_eq g209.symm))
    have g_b209 : n0 ≤ b209 := Nat.le_trans (Nat.le_trans (Nat.le_trans (Nat.le_trans Z0 E203.1) (Keep.of_wr W205).1) (Keep.of_wr W207).1) (Nat.le_of_eq g209.symm)
    have sz_b209 : h0.size ≤ b209 := Nat.le_trans K208.1 (Nat.le_of_eq g209.symm)
    have F209_code : Fld Z h209 b209 "com/example/coxswain/coxswain/wire/Status" "code" "Lcom/example/coxswain/coxswain/wire/StatusCode;" .null := D209 (Or.inr (hw _ (List.mem_of_getElem? (i := 33) rfl))) (ty := (.object "com/example/coxswain/coxswain/wire/StatusCode")) (by decide)
    have F209_description : Fld Z h209 b209 "com/example/coxswain/coxswain/wire/Status" "description" "Ljava/lang/String;" .null := D209 (Or.inr (hw _ (List.mem_of_getElem? (i := 35) rfl))) (ty := (.object "java/lang/String")) (by decide)
    have F209_details : Fld Z h209 b209 "com/example/coxswain/coxswain/wire/Status" "details" "[B" .null := D209 (Or.inr (hw _ (List.mem_of_getElem? (i := 37) rfl))) (ty := (.array .byte)) (by decide)
    have K210 : Keep h0 h209 [] := K208.ext E209
    refine own_goW st209 ?_
    show own_EndW _ _ _ _ _ _ _ T209 (mkF m 75 #[.val (.int p1), .val (.int p2), .val (.int p3), .val (.int p4), .val (.int p5), .val (.int (2 : Int32)), .val (.int (1 : Int32)), .val (.int y0), .val (.int y1), .val (.int y2), .val (.ref b203), .unset, .unset, .unset, .unset] [(.ref b209)])
    refine own_goW (fun t k => XS.dup X209.here hx rfl (hb hby at_75) rfl rfl k) ?_
    show own_EndW _ _ _ _ _ _ _ T209 (mkF m 76 #[.val (.int p1), .val (.int p2), .val (.int p3), .val (.int p4), .val (.int p5), .val (.int (2 : Int32)), .val (.int (1 : Int32)), .val (.int y0), .val (.int y1), .val (.int y2), .val (.ref b203), .unset, .unset, .unset, .unset] [(.ref b209), (.ref b209)])
    obtain ⟨T211, X211, e211, st211⟩ := getS2 X209 hx hZ hown (host := "") (Or.inl (hw _ (List.mem_of_getElem? (i := 4) rfl))) Via.refl e209 (own_StaK SU K210) (g := (mkF m 76 #[.val (.int p1), .val (.int p2), .val (.int p3), .val (.int p4), .val (.int p5), .val (.int (2 : Int32)), .val (.int (1 : Int32)), .val (.int y0), .val (.int y1), .val (.int y2), .val (.ref b203), .unset, .unset, .unset, .unset] [(.ref b209), (.ref b209)])) rfl (hb hby at_76)
    refine own_goW st211 ?_
    show own_EndW _ _ _ _ _ _ _ T211 (mkF m 79 #[.val (.int p1), .val (.int p2), .val (.int p3), .val (.int p4), .val (.int p5), .val (.int (2 : Int32)), .val (.int (1 : Int32)), .val (.int y0), .val (.int y1), .val (.int y2), .val (.ref b203), .unset, .unset, .unset, .unset] [(.ref wU), (.ref b209), (.ref b209)])
    refine own_goW (fun t k => XS.aconstNull X211.here hx rfl (hb hby at_79) k) ?_
    show own_EndW _ _ _ _ _ _ _ T211 (mkF m 80 #[.val (.int p1), .val (.int p2), .val (.int p3), .val (.int p4), .val (.int p5), .val (.int (2 : Int32)), .val (.int (1 : Int32)), .val (.int y0), .val (.int y1), .val (.int y2), .val (.ref b203), .unset, .unset, .unset, .unset] [.null, (.ref wU), (.ref b209), (.ref b209)])
    refine own_goW (fun t k => XS.iload X211.here hx rfl (hb hby at_80) rfl k) ?_
    show own_EndW _ _ _ _ _ _ _ T211 (mkF m 82 #[.val (.int p1), .val (.int p2), .val (.int p3), .val (.int p4), .val (.int p5), .val (.int (2 : Int32)), .val (.int (1 : Int32)), .val (.int y0), .val (.int y1), .val (.int y2), .val (.ref b203), .unset, .unset, .unset, .unset] [(.int (1 : Int32)), .null, (.ref wU), (.ref b209), (.ref b209)])
    refine own_goW (fun t k => XS.ifNo X211.here hx rfl (hb hby at_82) rfl ((if0 _ _).trans (feq (by decide : ¬ ((1 : Int32) = (0 : Int32)))).1) k) ?_
    show own_EndW _ _ _ _ _ _ _ T211 (mkF m 85 #[.val (.int p1), .val (.int p2), .val (.int p3), .val (.int p4), .val (.int p5), .val (.int (2 : Int32)), .val (.int (1 : Int32)), .val (.int y0), .val (.int y1), .val (.int y2), .val (.ref b203), .unset, .unset, .unset, .unset] [.null, (.ref wU), (.ref b209), (.ref b209)])
    refine own_goW (fun t k => XS.aconstNull X211.here hx rfl (hb hby at_85) k) ?_
    show own_EndW _ _ _ _ _ _ _ T211 (mkF m 86 #[.val (.int p1), .val (.int p2), .val (.int p3), .val (.int p4), .val (.int p5), .val (.int (2 : Int32)), .val (.int (1 : Int32)), .val (.int y0), .val (.int y1), .val (.int y2), .val (.ref b203), .unset, .unset, .unset, .unset] [.null, .null, (.ref wU), (.ref b209), (.ref b209)])
    refine own_goW (fun t k => XS.goto X211.here hx rfl (pc0 := 86) (pc' := 91) rfl (hb hby at_86) (by decide) (by decide) k) ?_
    show own_EndW _ _ _ _ _ _ _ T211 (mkF m 91 #[.val (.int p1), .val (.int p2), .val (.int p3), .val (.int p4), .val (.int p5), .val (.int (2 : Int32)), .val (.int (1 : Int32)), .val (.int y0), .val (.int y1), .val (.int y2), .val (.ref b203), .unset, .unset, .unset, .unset] [.null, .null, (.ref wU), (.ref b209), (.ref b209)])
    obtain ⟨v212, T212, L212, X212, hQ212, hS212, hZ, hown, st212⟩ := own_callNW (y := (⟨"com/example/coxswain/coxswain/wire/Status", "<init>", "(Lcom/example/coxswain/coxswain/wire/StatusCode;Ljava/lang/String;[B)V"⟩ : MethodName)) X211 hx hZ hown (hw _ (List.mem_of_getElem? (i := 7) rfl)) (hw _ (List.mem_of_getElem? (i := 8) rfl)) (hw _ (List.mem_of_getElem? (i := 9) rfl)) (by decide) (hw _ (List.mem_of_getElem? (i := 3) rfl)) (rmIN l Z a0 hw [] b209 wU wN h209 n0 (Nat.le_trans (Nat.le_trans (Nat.le_trans (Nat.le_trans Z0 E203.1) (Keep.of_wr W205).1) (Keep.of_wr W207).1) E209.1) A209 g_b209 F209_code F209_description F209_details (own_StaK SN K210)) e211 (W := 1) (by decide) (by decide) (g := (mkF m 91 #[.val (.int p1), .val (.int p2), .val (.int p3), .val (.int p4), .val (.int p5), .val (.int (2 : Int32)), .val (.int (1 : Int32)), .val (.int y0), .val (.int y1), .val (.int y2), .val (.ref b203), .unset, .unset, .unset, .unset] [.null, .null, (.ref wU), (.ref b209), (.ref b209)])) rfl (by rw [hml]; rfl) (argsL := [(.ref wU), .null, .null]) (rest := [(.ref b209)]) (a := b209) rfl rfl (lenOf pd__Lcom_example_coxswain_coxswain_wire_StatusCode_Ljava_lang_String__B_V rfl) rfl (by show 2 * 0 + _ ≤ _; exact Nat.le_of_eq rfl) (hb hby at_91) (by decide) (by decide)
    obtain ⟨rfl, N212q, Kc212, Ec212, Fd212⟩ := hQ212
    have N212 := Fr.app N207 N212q
    have K212 : Keep h0 T212.heap [] := K210.trans Kc212 (fun x hx => by cases List.mem_singleton.mp hx; exact Or.inr sz_b209)
    refine own_goW st212 ?_
    show own_EndW _ _ _ _ _ _ _ T212 (mkF m 94 #[.val (.int p1), .val (.int p2), .val (.int p3), .val (.int p4), .val (.int p5), .val (.int (2 : Int32)), .val (.int (1 : Int32)), .val (.int y0), .val (.int y1), .val (.int y2), .val (.ref b203), .unset, .unset, .unset, .unset] [(.ref b209)])
    refine own_goW (fun t k => XS.astore X212.here hx rfl (hb hby at_94) rfl rfl (l' := #[.val (.int p1), .val (.int p2), .val (.int p3), .val (.int p4), .val (.int p5), .val (.int (2 : Int32)), .val (.int (1 : Int32)), .val (.int y0), .val (.int y1), .val (.int y2), .val (.ref b203), .val (.ref b209), .unset, .unset, .unset]) rfl k) ?_
    show own_EndW _ _ _ _ _ _ _ T212 (mkF m 96 #[.val (.int p1), .val (.int p2), .val (.int p3), .val (.int p4), .val (.int p5), .val (.int (2 : Int32)), .val (.int (1 : Int32)), .val (.int y0), .val (.int y1), .val (.int y2), .val (.ref b203), .val (.ref b209), .unset, .unset, .unset] [])
    refine own_goW (fun t k => XS.aload X212.here hx rfl (hb hby at_96) rfl rfl k) ?_
    show own_EndW _ _ _ _ _ _ _ T212 (mkF m 98 #[.val (.int p1), .val (.int p2), .val (.int p3), .val (.int p4), .val (.int p5), .val (.int (2 : Int32)), .val (.int (1 : Int32)), .val (.int y0), .val (.int y1), .val (.int y2), .val (.ref b203), .val (.ref b209), .unset, .unset, .unset] [(.ref b203)])
    obtain ⟨v213, T213, L213, X213, hQ213, st213⟩ := own_callS (y := (⟨"com/example/coxswain/coxswain/wire/StatusDetailsPinLaw", "scramble", "([B)V"⟩ : MethodName)) X212 hx hZ hown (hw _ (List.mem_of_getElem? (i := 38) rfl)) (hw _ (List.mem_of_getElem? (i := 39) rfl)) (hw _ (List.mem_of_getElem? (i := 41) rfl)) (by decide) (hw _ (List.mem_of_getElem? (i := 40) rfl)) (rmS2 l Z a0 hw [] b203 k203 y0 y1 T212.heap n0 (Nat.le_trans (Nat.le_trans (Nat.le_trans (Nat.le_trans (Nat.le_trans Z0 E203.1) (Keep.of_wr W205).1) (Keep.of_wr W207).1) E209.1) Kc212.1) ((V207v.ext E209).keep Kc212 (ninS ne_b203_b209 nin0)) g_b203) rfl (W := 0) (by decide) (by decide) (g := (mkF m 98 #[.val (.int p1), .val (.int p2), .val (.int p3), .val (.int p4), .val (.int p5), .val (.int (2 : Int32)), .val (.int (1 : Int32)), .val (.int y0), .val (.int y1), .val (.int y2), .val (.ref b203), .val (.ref b209), .unset, .unset, .unset] [(.ref b203)])) rfl (by rw [hml]; rfl) (argsL := [(.ref b203)]) (rest := []) rfl (lenOf pd___B_V rfl) rfl (by show 2 * 0 + _ ≤ _; exact Nat.le_of_eq rfl) (hb hby at_98) (by decide) (by decide)
    obtain ⟨rfl, N213q, Kc213⟩ := hQ213
    have N213 := Fr.app N212 N213q
    refine own_goW st213 ?_
    have K213 : Keep h0 T213.heap [] := K212.trans Kc213 (fun x hx => by cases List.mem_singleton.mp hx; exact Or.inr sz_b203)
    show own_EndW _ _ _ _ _ _ _ T213 (mkF m 101 #[.val (.int p1), .val (.int p2), .val (.int p3), .val (.int p4), .val (.int p5), .val (.int (2 : Int32)), .val (.int (1 : Int32)), .val (.int y0), .val (.int y1), .val (.int y2), .val (.ref b203), .val (.ref b209), .unset, .unset, .unset] [])
    refine own_goW (fun t k => XS.iload X213.here hx rfl (hb hby at_101) rfl k) ?_
    show own_EndW _ _ _ _ _ _ _ T213 (mkF m 103 #[.val (.int p1), .val (.int p2), .val (.int p3), .val (.int p4), .val (.int p5), .val (.int (2 : Int32)), .val (.int (1 : Int32)), .val (.int y0), .val (.int y1), .val (.int y2), .val (.ref b203), .val (.ref b209), .unset, .unset, .unset] [(.int (1 : Int32))])
    refine own_goW (fun t k => XS.ifNo X213.here hx rfl (hb hby at_103) rfl ((if0 _ _).trans (feq (by decide : ¬ ((1 : Int32) = (0 : Int32)))).1) k) ?_
    show own_EndW _ _ _ _ _ _ _ T213 (mkF m 106 #[.val (.int p1), .val (.int p2), .val (.int p3), .val (.int p4), .val (.int p5), .val (.int (2 : Int32)), .val (.int (1 : Int32)), .val (.int y0), .val (.int y1), .val (.int y2), .val (.ref b203), .val (.ref b209), .unset, .unset, .unset] [])
    refine own_goW (fun t k => XS.iconst X213.here hx rfl (hb hby at_106) k) ?_
    show own_EndW _ _ _ _ _ _ _ T213 (mkF m 107 #[.val (.int p1), .val (.int p2), .val (.int p3), .val (.int p4), .val (.int p5), .val (.int (2 : Int32)), .val (.int (1 : Int32)), .val (.int y0), .val (.int y1), .val (.int y2), .val (.ref b203), .val (.ref b209), .unset, .unset, .unset] [(.int (0 : Int32))])
    refine own_goW (fun t k => XS.goto X213.here hx rfl (pc0 := 107) (pc' := 112) rfl (hb hby at_107) (by decide) (by decide) k) ?_
    show own_EndW _ _ _ _ _ _ _ T213 (mkF m 112 #[.val (.int p1), .val (.int p2), .val (.int p3), .val (.int p4), .val (.int p5), .val (.int (2 : Int32)), .val (.int (1 : Int32)), .val (.int y0), .val (.int y1), .val (.int y2), .val (.ref b203), .val (.ref b209), .unset, .unset, .unset] [(.int (0 : Int32))])
    refine own_goW (fun t k => XS.istore X213.here hx rfl (hb hby at_112) rfl (l' := #[.val (.int p1), .val (.int p2), .val (.int p3), .val (.int p4), .val (.int p5), .val (.int (2 : Int32)), .val (.int (1 : Int32)), .val (.int y0), .val (.int y1), .val (.int y2), .val (.ref b203), .val (.ref b209), .val (.int (0 : Int32)), .unset, .unset]) rfl k) ?_
    show own_EndW _ _ _ _ _ _ _ T213 (mkF m 114 #[.val (.int p1), .val (.int p2), .val (.int p3), .val (.int p4), .val (.int p5), .val (.int (2 : Int32)), .val (.int (1 : Int32)), .val (.int y0), .val (.int y1), .val (.int y2), .val (.ref b203), .val (.ref b209), .val (.int (0 : Int32)), .unset, .unset] [])
    refine own_goW (fun t k => XS.aload X213.here hx rfl (hb hby at_114) rfl rfl k) ?_
    show own_EndW _ _ _ _ _ _ _ T213 (mkF m 116 #[.val (.int p1), .val (.int p2), .val (.int p3), .val (.int p4), .val (.int p5), .val (.int (2 : Int32)), .val (.int (1 : Int32)), .val (.int y0), .val (.int y1), .val (.int y2), .val (.ref b203), .val (.ref b209), .val (.int (0 : Int32)), .unset, .unset] [(.ref b209)])
    obtain ⟨v214, T214, L214, X214, hQ214, st214⟩ := own_callV (y := (⟨"com/example/coxswain/coxswain/wire/Status", "details", "()[B"⟩ : MethodName)) (z := (⟨"com/example/coxswain/coxswain/wire/Status", "details", "()[B"⟩ : MethodName)) X213 hx hZ hown (hw _ (List.mem_of_getElem? (i := 42) rfl)) (hw _ (List.mem_of_getElem? (i := 43) rfl)) (hw _ (List.mem_of_getElem? (i := 45) rfl)) (hw _ (List.mem_of_getElem? (i := 44) rfl)) (Ec212.keep Kc213) (hw _ (List.mem_of_getElem? (i := 46) rfl)) (by decide) (hw _ (List.mem_of_getElem? (i := 3) rfl)) (rmT0 l Z a0 hw [] b209 wN cl T213.heap n0 (Nat.le_trans (Nat.le_trans (Nat.le_trans (Nat.le_trans (Nat.le_trans (Nat.le_trans Z0 E203.1) (Keep.of_wr W205).1) (Keep.of_wr W207).1) E209.1) Kc212.1) Kc213.1) (Fd212.keep Kc213 (ninS (Ne.symm ne_b203_b209) nin0)) (own_StaK SN K213) (own_ArrK Ar K213) Sz) rfl (W := 0) (by decide) (by decide) (g := (mkF m 116 #[.val (.int p1), .val (.int p2), .val (.int p3), .val (.int p4), .val (.int p5), .val (.int (2 : Int32)), .val (.int (1 : Int32)), .val (.int y0), .val (.int y1), .val (.int y2), .val (.ref b203), .val (.ref b209), .val (.int (0 : Int32)), .unset, .unset] [(.ref b209)])) rfl (by rw [hml]; rfl) (argsL := []) (rest := []) (b := b209) rfl (notFace_of_selects (args := #[]) (mvT hZ (hw _ (List.mem_of_getElem? (i := 45) rfl)))) (lenOf pd____B rfl) rfl (by show 2 * 0 + _ ≤ _; exact Nat.le_of_eq rfl) (hb hby at_116) (by decide) (by decide)
    obtain ⟨rfl, N214q, e214⟩ := hQ214
    have N214 := Fr.app N213 N214q
    refine own_goW st214 ?_
    show own_EndW _ _ _ _ _ _ _ T214 (mkF m 119 #[.val (.int p1), .val (.int p2), .val (.int p3), .val (.int p4), .val (.int p5), .val (.int (2 : Int32)), .val (.int (1 : Int32)), .val (.int y0), .val (.int y1), .val (.int y2), .val (.ref b203), .val (.ref b209), .val (.int (0 : Int32)), .unset, .unset] [(.ref wN)])
    refine own_goW (fun t k => XS.astore X214.here hx rfl (hb hby at_119) rfl rfl (l' := #[.val (.int p1), .val (.int p2), .val (.int p3), .val (.int p4), .val (.int p5), .val (.int (2 : Int32)), .val (.int (1 : Int32)), .val (.int y0), .val (.int y1), .val (.int y2), .val (.ref b203), .val (.ref b209), .val (.int (0 : Int32)), .val (.ref wN), .unset]) rfl k) ?_
    show own_EndW _ _ _ _ _ _ _ T214 (mkF m 121 #[.val (.int p1), .val (.int p2), .val (.int p3), .val (.int p4), .val (.int p5), .val (.int (2 : Int32)), .val (.int (1 : Int32)), .val (.int y0), .val (.int y1), .val (.int y2), .val (.ref b203), .val (.ref b209), .val (.int (0 : Int32)), .val (.ref wN), .unset] [])
    refine own_goW (fun t k => XS.aload X214.here hx rfl (hb hby at_121) rfl rfl k) ?_
    show own_EndW _ _ _ _ _ _ _ T214 (mkF m 123 #[.val (.int p1), .val (.int p2), .val (.int p3), .val (.int p4), .val (.int p5), .val (.int (2 : Int32)), .val (.int (1 : Int32)), .val (.int y0), .val (.int y1), .val (.int y2), .val (.ref b203), .val (.ref b209), .val (.int (0 : Int32)), .val (.ref wN), .unset] [(.ref wN)])
    refine own_goW (fun t k => XS.iload X214.here hx rfl (hb hby at_123) rfl k) ?_
    show own_EndW _ _ _ _ _ _ _ T214 (mkF m 125 #[.val (.int p1), .val (.int p2), .val (.int p3), .val (.int p4), .val (.int p5), .val (.int (2 : Int32)), .val (.int (1 : Int32)), .val (.int y0), .val (.int y1), .val (.int y2), .val (.ref b203), .val (.ref b209), .val (.int (0 : Int32)), .val (.ref wN), .unset] [(.int (0 : Int32)), (.ref wN)])
    refine own_goW (fun t k => XS.iload X214.here hx rfl (hb hby at_125) rfl k) ?_
    show own_EndW _ _ _ _ _ _ _ T214 (mkF m 127 #[.val (.int p1), .val (.int p2), .val (.int p3), .val (.int p4), .val (.int p5), .val (.int (2 : Int32)), .val (.int (1 : Int32)), .val (.int y0), .val (.int y1), .val (.int y2), .val (.ref b203), .val (.ref b209), .val (.int (0 : Int32)), .val (.ref wN), .unset] [(.int y0), (.int (0 : Int32)), (.ref wN)])
    refine own_goW (fun t k => XS.iload X214.here hx rfl (hb hby at_127) rfl k) ?_
    show own_EndW _ _ _ _ _ _ _ T214 (mkF m 129 #[.val (.int p1), .val (.int p2), .val (.int p3), .val (.int p4), .val (.int p5), .val (.int (2 : Int32)), .val (.int (1 : Int32)), .val (.int y0), .val (.int y1), .val (.int y2), .val (.ref b203), .val (.ref b209), .val (.int (0 : Int32)), .val (.ref wN), .unset] [(.int y1), (.int y0), (.int (0 : Int32)), (.ref wN)])
    refine own_goW (fun t k => XS.iload X214.here hx rfl (hb hby at_129) rfl k) ?_
    show own_EndW _ _ _ _ _ _ _ T214 (mkF m 131 #[.val (.int p1), .val (.int p2), .val (.int p3), .val (.int p4), .val (.int p5), .val (.int (2 : Int32)), .val (.int (1 : Int32)), .val (.int y0), .val (.int y1), .val (.int y2), .val (.ref b203), .val (.ref b209), .val (.int (0 : Int32)), .val (.ref wN), .unset] [(.int y2), (.int y1), (.int y0), (.int (0 : Int32)), (.ref wN)])
    obtain ⟨v215, T215, L215, X215, hQ215, st215⟩ := own_callS (y := (⟨"com/example/coxswain/coxswain/wire/StatusDetailsPinLaw", "same", "([BIBBB)Z"⟩ : MethodName)) X214 hx hZ hown (hw _ (List.mem_of_getElem? (i := 47) rfl)) (hw _ (List.mem_of_getElem? (i := 48) rfl)) (hw _ (List.mem_of_getElem? (i := 49) rfl)) (by decide) (hw _ (List.mem_of_getElem? (i := 40) rfl)) (rmM0 l Z a0 hw [] wN y0 y1 y2 cl T213.heap n0 (Nat.le_trans (Nat.le_trans (Nat.le_trans (Nat.le_trans (Nat.le_trans (Nat.le_trans Z0 E203.1) (Keep.of_wr W205).1) (Keep.of_wr W207).1) E209.1) Kc212.1) Kc213.1) (own_ArrK Ar K213) Sz) e214 (W := 0) (by decide) (by decide) (g := (mkF m 131 #[.val (.int p1), .val (.int p2), .val (.int p3), .val (.int p4), .val (.int p5), .val (.int (2 : Int32)), .val (.int (1 : Int32)), .val (.int y0), .val (.int y1), .val (.int y2), .val (.ref b203), .val (.ref b209), .val (.int (0 : Int32)), .val (.ref wN), .unset] [(.int y2), (.int y1), (.int y0), (.int (0 : Int32)), (.ref wN)])) rfl (by rw [hml]; rfl) (argsL := [(.ref wN), (.int (0 : Int32)), (.int y0), (.int y1), (.int y2)]) (rest := []) rfl (lenOf pd___BIBBB_Z rfl) rfl (by show 2 * 0 + _ ≤ _; exact Nat.le_of_eq rfl) (hb hby at_131) (by decide) (by decide)
    obtain ⟨rfl, N215q, e215⟩ := hQ215
    have N215 := Fr.app N214 N215q
    refine own_goW st215 ?_
    show own_EndW _ _ _ _ _ _ _ T215 (mkF m 134 #[.val (.int p1), .val (.int p2), .val (.int p3), .val (.int p4), .val (.int p5), .val (.int (2 : Int32)), .val (.int (1 : Int32)), .val (.int y0), .val (.int y1), .val (.int y2), .val (.ref b203), .val (.ref b209), .val (.int (0 : Int32)), .val (.ref wN), .unset] [(.int (1 : Int32))])
    refine own_goW (fun t k => XS.ifYes X215.here hx rfl (pc0 := 134) (pc' := 139) rfl (hb hby at_134) rfl ((if0 _ _).trans (feq (by decide : ¬ ((1 : Int32) = (0 : Int32)))).2) (by decide) (by decide) k) ?_
    show own_EndW _ _ _ _ _ _ _ T215 (mkF m 139 #[.val (.int p1), .val (.int p2), .val (.int p3), .val (.int p4), .val (.int p5), .val (.int (2 : Int32)), .val (.int (1 : Int32)), .val (.int y0), .val (.int y1), .val (.int y2), .val (.ref b203), .val (.ref b209), .val (.int (0 : Int32)), .val (.ref wN), .unset] [])
    refine own_goW (fun t k => XS.aload X215.here hx rfl (hb hby at_139) rfl rfl k) ?_
    show own_EndW _ _ _ _ _ _ _ T215 (mkF m 141 #[.val (.int p1), .val (.int p2), .val (.int p3), .val (.int p4), .val (.int p5), .val (.int (2 : Int32)), .val (.int (1 : Int32)), .val (.int y0), .val (.int y1), .val (.int y2), .val (.ref b203), .val (.ref b209), .val (.int (0 : Int32)), .val (.ref wN), .unset] [(.ref wN)])
    obtain ⟨v216, T216, L216, X216, hQ216, st216⟩ := own_callS (y := (⟨"com/example/coxswain/coxswain/wire/StatusDetailsPinLaw", "scramble", "([B)V"⟩ : MethodName)) X215 hx hZ hown (hw _ (List.mem_of_getElem? (i := 38) rfl)) (hw _ (List.mem_of_getElem? (i := 39) rfl)) (hw _ (List.mem_of_getElem? (i := 41) rfl)) (by decide) (hw _ (List.mem_of_getElem? (i := 40) rfl)) (rmS0 l Z a0 hw [] wN cl T213.heap n0 (Nat.le_trans (Nat.le_trans (Nat.le_trans (Nat.le_trans (Nat.le_trans (Nat.le_trans Z0 E203.1) (Keep.of_wr W205).1) (Keep.of_wr W207).1) E209.1) Kc212.1) Kc213.1) (own_ArrK Ar K213) Sz) e215 (W := 0) (by decide) (by decide) (g := (mkF m 141 #[.val (.int p1), .val (.int p2), .val (.int p3), .val (.int p4), .val (.int p5), .val (.int (2 : Int32)), .val (.int (1 : Int32)), .val (.int y0), .val (.int y1), .val (.int y2), .val (.ref b203), .val (.ref b209), .val (.int (0 : Int32)), .val (.ref wN), .unset] [(.ref wN)])) rfl (by rw [hml]; rfl) (argsL := [(.ref wN)]) (rest := []) rfl (lenOf pd___B_V rfl) rfl (by show 2 * 0 + _ ≤ _; exact Nat.le_of_eq rfl) (hb hby at_141) (by decide) (by decide)
    obtain ⟨rfl, N216q, e216⟩ := hQ216
    have N216 := Fr.app N215 N216q
    refine own_goW st216 ?_
    show own_EndW _ _ _ _ _ _ _ T216 (mkF m 144 #[.val (.int p1), .val (.int p2), .val (.int p3), .val (.int p4), .val (.int p5), .val (.int (2 : Int32)), .val (.int (1 : Int32)), .val (.int y0), .val (.int y1), .val (.int y2), .val (.ref b203), .val (.ref b209), .val (.int (0 : Int32)), .val (.ref wN), .unset] [])
    refine own_goW (fun t k => XS.aload X216.here hx rfl (hb hby at_144) rfl rfl k) ?_
    show own_EndW _ _ _ _ _ _ _ T216 (mkF m 146 #[.val (.int p1), .val (.int p2), .val (.int p3), .val (.int p4), .val (.int p5), .val (.int (2 : Int32)), .val (.int (1 : Int32)), .val (.int y0), .val (.int y1), .val (.int y2), .val (.ref b203), .val (.ref b209), .val (.int (0 : Int32)), .val (.ref wN), .unset] [(.ref b209)])
    obtain ⟨v217, T217, L217, X217, hQ217, st217⟩ := own_callV (y := (⟨"com/example/coxswain/coxswain/wire/Status", "details", "()[B"⟩ : MethodName)) (z := (⟨"com/example/coxswain/coxswain/wire/Status", "details", "()[B"⟩ : MethodName)) X216 hx hZ hown (hw _ (List.mem_of_getElem? (i := 42) rfl)) (hw _ (List.mem_of_getElem? (i := 43) rfl)) (hw _ (List.mem_of_getElem? (i := 45) rfl)) (hw _ (List.mem_of_getElem? (i := 44) rfl)) (Ec212.keep Kc213) (hw _ (List.mem_of_getElem? (i := 46) rfl)) (by decide) (hw _ (List.mem_of_getElem? (i := 3) rfl)) (rmT0 l Z a0 hw [] b209 wN cl T213.heap n0 (Nat.le_trans (Nat.le_trans (Nat.le_trans (Nat.le_trans (Nat.le_trans (Nat.le_trans Z0 E203.1) (Keep.of_wr W205).1) (Keep.of_wr W207).1) E209.1) Kc212.1) Kc213.1) (Fd212.keep Kc213 (ninS (Ne.symm ne_b203_b209) nin0)) (own_StaK SN K213) (own_ArrK Ar K213) Sz) e216 (W := 0) (by decide) (by decide) (g := (mkF m 146 #[.val (.int p1), .val (.int p2), .val (.int p3), .val (.int p4), .val (.int p5), .val (.int (2 : Int32)), .val (.int (1 : Int32)), .val (.int y0), .val (.int y1), .val (.int y2), .val (.ref b203), .val (.ref b209), .val (.int (0 : Int32)), .val (.ref wN), .unset] [(.ref b209)])) rfl (by rw [hml]; rfl) (argsL := []) (rest := []) (b := b209) rfl (notFace_of_selects (args := #[]) (mvT hZ (hw _ (List.mem_of_getElem? (i := 45) rfl)))) (lenOf pd____B rfl) rfl (by show 2 * 0 + _ ≤ _; exact Nat.le_of_eq rfl) (hb hby at_146) (by decide) (by decide)
    obtain ⟨rfl, N217q, e217⟩ := hQ217
    have N217 := Fr.app N216 N217q
    refine own_goW st217 ?_
    show own_EndW _ _ _ _ _ _ _ T217 (mkF m 149 #[.val (.int p1), .val (.int p2), .val (.int p3), .val (.int p4), .val (.int p5), .val (.int (2 : Int32)), .val (.int (1 : Int32)), .val (.int y0), .val (.int y1), .val (.int y2), .val (.ref b203), .val (.ref b209), .val (.int (0 : Int32)), .val (.ref wN), .unset] [(.ref wN)])
    refine own_goW (fun t k => XS.astore X217.here hx rfl (hb hby at_149) rfl rfl (l' := #[.val (.int p1), .val (.int p2), .val (.int p3), .val (.int p4), .val (.int p5), .val (.int (2 : Int32)), .val (.int (1 : Int32)), .val (.int y0), .val (.int y1), .val (.int y2), .val (.ref b203), .val (.ref b209), .val (.int (0 : Int32)), .val (.ref wN), .val (.ref wN)]) rfl k) ?_
    show own_EndW _ _ _ _ _ _ _ T217 (mkF m 151 #[.val (.int p1), .val (.int p2), .val (.int p3), .val (.int p4), .val (.int p5), .val (.int (2 : Int32)), .val (.int (1 : Int32)), .val (.int y0), .val (.int y1), .val (.int y2), .val (.ref b203), .val (.ref b209), .val (.int (0 : Int32)), .val (.ref wN), .val (.ref wN)] [])
    refine own_goW (fun t k => XS.aload X217.here hx rfl (hb hby at_151) rfl rfl k) ?_
    show own_EndW _ _ _ _ _ _ _ T217 (mkF m 153 #[.val (.int p1), .val (.int p2), .val (.int p3), .val (.int p4), .val (.int p5), .val (.int (2 : Int32)), .val (.int (1 : Int32)), .val (.int y0), .val (.int y1), .val (.int y2), .val (.ref b203), .val (.ref b209), .val (.int (0 : Int32)), .val (.ref wN), .val (.ref wN)] [(.ref wN)])
    refine own_goW (fun t k => XS.iload X217.here hx rfl (hb hby at_153) rfl k) ?_
    show own_EndW _ _ _ _ _ _ _ T217 (mkF m 155 #[.val (.int p1), .val (.int p2), .val (.int p3), .val (.int p4), .val (.int p5), .val (.int (2 : Int32)), .val (.int (1 : Int32)), .val (.int y0), .val (.int y1), .val (.int y2), .val (.ref b203), .val (.ref b209), .val (.int (0 : Int32)), .val (.ref wN), .val (.ref wN)] [(.int (0 : Int32)), (.ref wN)])
    refine own_goW (fun t k => XS.iload X217.here hx rfl (hb hby at_155) rfl k) ?_
    show own_EndW _ _ _ _ _ _ _ T217 (mkF m 157 #[.val (.int p1), .val (.int p2), .val (.int p3), .val (.int p4), .val (.int p5), .val (.int (2 : Int32)), .val (.int (1 : Int32)), .val (.int y0), .val (.int y1), .val (.int y2), .val (.ref b203), .val (.ref b209), .val (.int (0 : Int32)), .val (.ref wN), .val (.ref wN)] [(.int y0), (.int (0 : Int32)), (.ref wN)])
    refine own_goW (fun t k => XS.iload X217.here hx rfl (hb hby at_157) rfl k) ?_
    show own_EndW _ _ _ _ _ _ _ T217 (mkF m 159 #[.val (.int p1), .val (.int p2), .val (.int p3), .val (.int p4), .val (.int p5), .val (.int (2 : Int32)), .val (.int (1 : Int32)), .val (.int y0), .val (.int y1), .val (.int y2), .val (.ref b203), .val (.ref b209), .val (.int (0 : Int32)), .val (.ref wN), .val (.ref wN)] [(.int y1), (.int y0), (.int (0 : Int32)), (.ref wN)])
    refine own_goW (fun t k => XS.iload X217.here hx rfl (hb hby at_159) rfl k) ?_
    show own_EndW _ _ _ _ _ _ _ T217 (mkF m 161 #[.val (.int p1), .val (.int p2), .val (.int p3), .val (.int p4), .val (.int p5), .val (.int (2 : Int32)), .val (.int (1 : Int32)), .val (.int y0), .val (.int y1), .val (.int y2), .val (.ref b203), .val (.ref b209), .val (.int (0 : Int32)), .val (.ref wN), .val (.ref wN)] [(.int y2), (.int y1), (.int y0), (.int (0 : Int32)), (.ref wN)])
    obtain ⟨v218, T218, L218, X218, hQ218, st218⟩ := own_callS (y := (⟨"com/example/coxswain/coxswain/wire/StatusDetailsPinLaw", "same", "([BIBBB)Z"⟩ : MethodName)) X217 hx hZ hown (hw _ (List.mem_of_getElem? (i := 47) rfl)) (hw _ (List.mem_of_getElem? (i := 48) rfl)) (hw _ (List.mem_of_getElem? (i := 49) rfl)) (by decide) (hw _ (List.mem_of_getElem? (i := 40) rfl)) (rmM0 l Z a0 hw [] wN y0 y1 y2 cl T213.heap n0 (Nat.le_trans (Nat.le_trans (Nat.le_trans (Nat.le_trans (Nat.le_trans (Nat.le_trans Z0 E203.1) (Keep.of_wr W205).1) (Keep.of_wr W207).1) E209.1) Kc212.1) Kc213.1) (own_ArrK Ar K213) Sz) e217 (W := 0) (by decide) (by decide) (g := (mkF m 161 #[.val (.int p1), .val (.int p2), .val (.int p3), .val (.int p4), .val (.int p5), .val (.int (2 : Int32)), .val (.int (1 : Int32)), .val (.int y0), .val (.int y1), .val (.int y2), .val (.ref b203), .val (.ref b209), .val (.int (0 : Int32)), .val (.ref wN), .val (.ref wN)] [(.int y2), (.int y1), (.int y0), (.int (0 : Int32)), (.ref wN)])) rfl (by rw [hml]; rfl) (argsL := [(.ref wN), (.int (0 : Int32)), (.int y0), (.int y1), (.int y2)]) (rest := []) rfl (lenOf pd___BIBBB_Z rfl) rfl (by show 2 * 0 + _ ≤ _; exact Nat.le_of_eq rfl) (hb hby at_161) (by decide) (by decide)
    obtain ⟨rfl, N218q, e218⟩ := hQ218
    have N218 := Fr.app N217 N218q
    refine own_goW st218 ?_
    show own_EndW _ _ _ _ _ _ _ T218 (mkF m 164 #[.val (.int p1), .val (.int p2), .val (.int p3), .val (.int p4), .val (.int p5), .val (.int (2 : Int32)), .val (.int (1 : Int32)), .val (.int y0), .val (.int y1), .val (.int y2), .val (.ref b203), .val (.ref b209), .val (.int (0 : Int32)), .val (.ref wN), .val (.ref wN)] [(.int (1 : Int32))])
    exact own_retWW X218 hS212 (by rw [e218]; exact (Nat.le_trans (Nat.le_refl T212.heap.size) Kc213.1)) hx Bd.returns Bd.notSynchronized rfl (Or.inl ⟨rfl, by simp, _, rfl⟩) (hb hby at_164) ⟨rfl, N218⟩ (by decide) (by decide)
theorem ef_rm0_3 (m : MethodId) (x0 : Int32) (x1 : Int32) (x2 : Int32) (x3 : Int32) (x4 : Int32) : entryFrame m #[(.int x0), (.int x1), (.int x2), (.int x3), (.int x4)] maxLocals = mkF m 0 #[.val (.int x0), .val (.int x1), .val (.int x2), .val (.int x3), .val (.int x4), .unset, .unset, .unset, .unset, .unset, .unset, .unset, .unset, .unset, .unset] [] := by first | (simp [entryFrame, mkF, argsToLocals, Value.category, maxLocals]; done) | rfl
set_option maxRecDepth 65536 in
set_option maxHeartbeats 40000000 in
theorem rm0_3 (l : Launch) (Z : State) (a0 : Array Value) (hw : ∀ d ∈ tables_1, d.before a0 Z = true) (ws : List Jvm.Cond) (p1 p2 p3 p4 p5 y0 y1 y2 : Int32) (wU wN : Addr) (cl : Cell) (h0 : Heap) (n0 : Nat) (Z0 : n0 ≤ h0.size) (hn : (p1 &&& (3 : Int32)) = (3 : Int32)) (he0 : p3.toInt8.toInt32 = y0) (he1 : p4.toInt8.toInt32 = y1) (he2 : p5.toInt8.toInt32 = y2) (hb0 : y0.toInt8.toInt32 = y0) (hb1 : y1.toInt8.toInt32 = y1) (hb2 : y2.toInt8.toInt32 = y2) (SU : Sta Z h0 "com/example/coxswain/coxswain/wire/StatusCode" "UNKNOWN" "Lcom/example/coxswain/coxswain/wire/StatusCode;" (.ref wU)) (SN : Sta Z h0 "com/example/coxswain/coxswain/wire/Status" "NO_DETAILS" "[B" (.ref wN)) (Ar : Arr Z h0 wN cl .byte) (Sz : cl.slots.size = (0 : Int32).toNatClampNeg) :
    MetFree l x (head1 (Jvm.Cond.code x code maxLocals ret :: ws) room_1) (fun a U => a = #[(.int p1), (.int p2), (.int p3), (.int p4), (.int p5)] ∧ Z.Warmed39 U.vm ∧ U.heap = h0) (fun _ _ _ _ _ => True) (fun _ U o U' => ∃ v L, o = .returned v ∧ own_law n0 v U'.heap L ∧ ReturnedEndW U o U' L room_1.cells room_1.slots) := by
  refine MetFree.of_bodySF (plainFor_of_name pn_com_example_coxswain_coxswain_wire_StatusDetailsPinLaw) hisR ?_
  intro p e s m args below meth c s₁ Bd hml0 hP hK
  obtain ⟨rfl, hZ, hh⟩ := hP
  have hx := Bd.exec
  have hby := Bd.bytes
  have hml : c.maxLocals = 15 := hml0
  have hown : s.vm.findClass "com/example/coxswain/coxswain/wire/StatusDetailsPinLaw" = some m.cls := findClass_of_methodNamed Bd.named
  have hnm := (name_of_methodNamed Bd.named Bd.method).1
  have X0 : Stand p l e room_1 (s.setVm s.vm) m #[(.int p1), (.int p2), (.int p3), (.int p4), (.int p5)] below meth c s₁ [] 0 0 := Stand.of_body Bd
  have e0 : s₁.heap = h0 := by rw [← hh, Bd.state]; rfl
  have N0 := Fr.nil n0
  suffices own_main : own_EndW p e below s (own_law n0) room_1.cells room_1.slots s₁ (mkF m 0 #[.val (.int p1), .val (.int p2), .val (.int p3), .val (.int p4), .val (.int p5), .unset, .unset, .unset, .unset, .unset, .unset, .unset, .unset, .unset, .unset] []) by
    obtain ⟨s₂, o, k1, k2, k3, k4⟩ := own_main
    exact ⟨s₂, o, castTop (ef_rm0_3 m p1 p2 p3 p4 p5) k1, k2, k3, k4⟩
  have hS0 : s.Since s.vm h0.size := (State.WarmedH.refl s).since _
  have hk0 : h0.size ≤ h0.size := Nat.le_refl _
  show own_EndW _ _ _ _ _ _ _ s₁ (mkF m 0 #[.val (.int p1), .val (.int p2), .val (.int p3), .val (.int p4), .val (.int p5), .unset, .unset, .unset, .unset, .unset, .unset, .unset, .unset, .unset, .unset] [])
  refine own_goW (fun t k => XS.iloadN X0.here hx rfl (hb hby at_0) rfl k) ?_
  show own_EndW _ _ _ _ _ _ _ s₁ (mkF m 1 #[.val (.int p1), .val (.int p2), .val (.int p3), .val (.int p4), .val (.int p5), .unset, .unset, .unset, .unset, .unset, .unset, .unset, .unset, .unset, .unset] [(.int p1)])
  refine own_goW (fun t k => XS.iconst X0.here hx rfl (hb hby at_1) k) ?_
  show own_EndW _ _ _ _ _ _ _ s₁ (mkF m 2 #[.val (.int p1), .val (.int p2), .val (.int p3), .val (.int p4), .val (.int p5), .unset, .unset, .unset, .unset, .unset, .unset, .unset, .unset, .unset, .unset] [(.int (3 : Int32)), (.int p1)])
  refine own_goW (fun t k => XS.iand X0.here hx rfl (hb hby at_2) rfl k) ?_
  show own_EndW _ _ _ _ _ _ _ s₁ (mkF m 3 #[.val (.int p1), .val (.int p2), .val (.int p3), .val (.int p4), .val (.int p5), .unset, .unset, .unset, .unset, .unset, .unset, .unset, .unset, .unset, .unset] [(.int (p1 &&& (3 : Int32)))])
  rw [hn]
  show own_EndW _ _ _ _ _ _ _ s₁ (mkF m 3 #[.val (.int p1), .val (.int p2), .val (.int p3), .val (.int p4), .val (.int p5), .unset, .unset, .unset, .unset, .unset, .unset, .unset, .unset, .unset, .unset] [(.int (3 : Int32))])
  refine own_goW (fun t k => XS.istore X0.here hx rfl (hb hby at_3) rfl (l' := #[.val (.int p1), .val (.int p2), .val (.int p3), .val (.int p4), .val (.int p5), .val (.int (3 : Int32)), .unset, .unset, .unset, .unset, .unset, .unset, .unset, .unset, .unset]) rfl k) ?_
  show own_EndW _ _ _ _ _ _ _ s₁ (mkF m 5 #[.val (.int p1), .val (.int p2), .val (.int p3), .val (.int p4), .val (.int p5), .val (.int (3 : Int32)), .unset, .unset, .unset, .unset, .unset, .unset, .unset, .unset, .unset] [])
  refine own_goW (fun t k => XS.iloadN X0.here hx rfl (hb hby at_5) rfl k) ?_
  show own_EndW _ _ _ _ _ _ _ s₁ (mkF m 6 #[.val (.int p1), .val (.int p2), .val (.int p3), .val (.int p4), .val (.int p5), .val (.int (3 : Int32)), .unset, .unset, .unset, .unset, .unset, .unset, .unset, .unset, .unset] [(.int p2)])
  refine own_goW (fun t k => XS.iconst X0.here hx rfl (hb hby at_6) k) ?_
  show own_EndW _ _ _ _ _ _ _ s₁ (mkF m 7 #[.val (.int p1), .val (.int p2), .val (.int p3), .val (.int p4), .val (.int p5), .val (.int (3 : Int32)), .unset, .unset, .unset, .unset, .unset, .unset, .unset, .unset, .unset] [(.int (1 : Int32)), (.int p2)])
  refine own_goW (fun t k => XS.iand X0.here hx rfl (hb hby at_7) rfl k) ?_
  show own_EndW _ _ _ _ _ _ _ s₁ (mkF m 8 #[.val (.int p1), .val (.int p2), .val (.int p3), .val (.int p4), .val (.int p5), .val (.int (3 : Int32)), .unset, .unset, .unset, .unset, .unset, .unset, .unset, .unset, .unset] [(.int (p2 &&& (1 : Int32)))])
  by_cases hc8 : (p2 &&& (1 : Int32)) = (0 : Int32)
  · refine own_goW (fun t k => XS.ifYes X0.here hx rfl (pc0 := 8) (pc' := 15) rfl (hb hby at_8) rfl ((if0 _ _).trans (teq hc8).1) (by decide) (by decide) k) ?_
    show own_EndW _ _ _ _ _ _ _ s₁ (mkF m 15 #[.val (.int p1), .val (.int p2), .val (.int p3), .val (.int p4), .val (.int p5), .val (.int (3 : Int32)), .unset, .unset, .unset, .unset, .unset, .unset, .unset, .unset, .unset] [])
    refine own_goW (fun t k => XS.iconst X0.here hx rfl (hb hby at_15) k) ?_
    show own_EndW _ _ _ _ _ _ _ s₁ (mkF m 16 #[.val (.int p1), .val (.int p2), .val (.int p3), .val (.int p4), .val (.int p5), .val (.int (3 : Int32)), .unset, .unset, .unset, .unset, .unset, .unset, .unset, .unset, .unset] [(.int (0 : Int32))])
    refine own_goW (fun t k => XS.istore X0.here hx rfl (hb hby at_16) rfl (l' := #[.val (.int p1), .val (.int p2), .val (.int p3), .val (.int p4), .val (.int p5), .val (.int (3 : Int32)), .val (.int (0 : Int32)), .unset, .unset, .unset, .unset, .unset, .unset, .unset, .unset]) rfl k) ?_
    show own_EndW _ _ _ _ _ _ _ s₁ (mkF m 18 #[.val (.int p1), .val (.int p2), .val (.int p3), .val (.int p4), .val (.int p5), .val (.int (3 : Int32)), .val (.int (0 : Int32)), .unset, .unset, .unset, .unset, .unset, .unset, .unset, .unset] [])
    refine own_goW (fun t k => XS.iloadN X0.here hx rfl (hb hby at_18) rfl k) ?_
    show own_EndW _ _ _ _ _ _ _ s₁ (mkF m 19 #[.val (.int p1), .val (.int p2), .val (.int p3), .val (.int p4), .val (.int p5), .val (.int (3 : Int32)), .val (.int (0 : Int32)), .unset, .unset, .unset, .unset, .unset, .unset, .unset, .unset] [(.int p3)])
    refine own_goW (fun t k => XS.i2b X0.here hx rfl (hb hby at_19) rfl k) ?_
    show own_EndW _ _ _ _ _ _ _ s₁ (mkF m 20 #[.val (.int p1), .val (.int p2), .val (.int p3), .val (.int p4), .val (.int p5), .val (.int (3 : Int32)), .val (.int (0 : Int32)), .unset, .unset, .unset, .unset, .unset, .unset, .unset, .unset] [(.int (p3.toInt8.toInt32))])
    rw [he0]
    refine own_goW (fun t k => XS.istore X0.here hx rfl (hb hby at_20) rfl (l' := #[.val (.int p1), .val (.int p2), .val (.int p3), .val (.int p4), .val (.int p5), .val (.int (3 : Int32)), .val (.int (0 : Int32)), .val (.int y0), .unset, .unset, .unset, .unset, .unset, .unset, .unset]) rfl k) ?_
    show own_EndW _ _ _ _ _ _ _ s₁ (mkF m 22 #[.val (.int p1), .val (.int p2), .val (.int p3), .val (.int p4), .val (.int p5), .val (.int (3 : Int32)), .val (.int (0 : Int32)), .val (.int y0), .unset, .unset, .unset, .unset, .unset, .unset, .unset] [])
    refine own_goW (fun t k => XS.iloadN X0.here hx rfl (hb hby at_22) rfl k) ?_
    show own_EndW _ _ _ _ _ _ _ s₁ (mkF m 23 #[.val (.int p1), .val (.int p2), .val (.int p3), .val (.int p4), .val (.int p5), .val (.int (3 : Int32)), .val (.int (0 : Int32)), .val (.int y0), .unset, .unset, .unset, .unset, .unset, .unset, .unset] [(.int p4)])
    refine own_goW (fun t k => XS.i2b X0.here hx rfl (hb hby at_23) rfl k) ?_
    show own_EndW _ _ _ _ _ _ _ s₁ (mkF m 24 #[.val (.int p1), .val (.int p2), .val (.int p3), .val (.int p4), .val (.int p5), .val (.int (3 : Int32)), .val (.int (0 : Int32)), .val (.int y0), .unset, .unset, .unset, .unset, .unset, .unset, .unset] [(.int (p4.toInt8.toInt32))])
    rw [he1]
    refine own_goW (fun t k => XS.istore X0.here hx rfl (hb hby at_24) rfl (l' := #[.val (.int p1), .val (.int p2), .val (.int p3), .val (.int p4), .val (.int p5), .val (.int (3 : Int32)), .val (.int (0 : Int32)), .val (.int y0), .val (.int y1), .unset, .unset, .unset, .unset, .unset, .unset]) rfl k) ?_
    show own_EndW _ _ _ _ _ _ _ s₁ (mkF m 26 #[.val (.int p1), .val (.int p2), .val (.int p3), .val (.int p4), .val (.int p5), .val (.int (3 : Int32)), .val (.int (0 : Int32)), .val (.int y0), .val (.int y1), .unset, .unset, .unset, .unset, .unset, .unset] [])
    refine own_goW (fun t k => XS.iload X0.here hx rfl (hb hby at_26) rfl k) ?_
    show own_EndW _ _ _ _ _ _ _ s₁ (mkF m 28 #[.val (.int p1), .val (.int p2), .val (.int p3), .val (.int p4), .val (.int p5), .val (.int (3 : Int32)), .val (.int (0 : Int32)), .val (.int y0), .val (.int y1), .unset, .unset, .unset, .unset, .unset, .unset] [(.int p5)])
    refine own_goW (fun t k => XS.i2b X0.here hx rfl (hb hby at_28) rfl k) ?_
    show own_EndW _ _ _ _ _ _ _ s₁ (mkF m 29 #[.val (.int p1), .val (.int p2), .val (.int p3), .val (.int p4), .val (.int p5), .val (.int (3 : Int32)), .val (.int (0 : Int32)), .val (.int y0), .val (.int y1), .unset, .unset, .unset, .unset, .unset, .unset] [(.int (p5.toInt8.toInt32))])
    rw [he2]
    refine own_goW (fun t k => XS.istore X0.here hx rfl (hb hby at_29) rfl (l' := #[.val (.int p1), .val (.int p2), .val (.int p3), .val (.int p4), .val (.int p5), .val (.int (3 : Int32)), .val (.int (0 : Int32)), .val (.int y0), .val (.int y1), .val (.int y2), .unset, .unset, .unset, .unset, .unset]) rfl k) ?_
    show own_EndW _ _ _ _ _ _ _ s₁ (mkF m 31 #[.val (.int p1), .val (.int p2), .val (.int p3), .val (.int p4), .val (.int p5), .val (.int (3 : Int32)), .val (.int (0 : Int32)), .val (.int y0), .val (.int y1), .val (.int y2), .unset, .unset, .unset, .unset, .unset] [])
    refine own_goW (fun t k => XS.iload X0.here hx rfl (hb hby at_31) rfl k) ?_
    show own_EndW _ _ _ _ _ _ _ s₁ (mkF m 33 #[.val (.int p1), .val (.int p2), .val (.int p3), .val (.int p4), .val (.int p5), .val (.int (3 : Int32)), .val (.int (0 : Int32)), .val (.int y0), .val (.int y1), .val (.int y2), .unset, .unset, .unset, .unset, .unset] [(.int (3 : Int32))])
    obtain ⟨T219, h219, k219, X219, e219, E219, A219, B219, st219⟩ := newPE X0 hx hZ (hw _ (List.mem_of_getElem? (i := 0) rfl)) e0 (g := (mkF m 33 #[.val (.int p1), .val (.int p2), .val (.int p3), .val (.int p4), .val (.int p5), .val (.int (3 : Int32)), .val (.int (0 : Int32)), .val (.int y0), .val (.int y1), .val (.int y2), .unset, .unset, .unset, .unset, .unset] [(.int (3 : Int32))])) rfl (hb hby at_33) rfl (by decide) (cap := 3) (by decide) (by decide) (by decide) (by decide) (ad := "[B") (by decide)
    obtain ⟨b219, g219⟩ : ∃ z, z = h0.size := ⟨_, rfl⟩
    rw [← g219] at A219 B219 st219
    have g_b219 : n0 ≤ b219 := Nat.le_trans Z0 (Nat.le_of_eq g219.symm)
    have sz_b219 : h0.size ≤ b219 := Nat.le_trans (Keep.refl h0 []).1 (Nat.le_of_eq g219.symm)
    have V219 : Arv Z h219 b219 k219 .byte (3 : Int32) [(.int (0 : Int32)), (.int (0 : Int32)), (.int (0 : Int32))] (.int (0 : Int32)) := (Arv.new A219 (by decide)).pad (pad_rep [] (.int (0 : Int32)) 3)
    have K220 : Keep h0 h219 [] := (Keep.refl h0 []).ext E219
    refine own_goW st219 ?_
    show own_EndW _ _ _ _ _ _ _ T219 (mkF m 35 #[.val (.int p1), .val (.int p2), .val (.int p3), .val (.int p4), .val (.int p5), .val (.int (3 : Int32)), .val (.int (0 : Int32)), .val (.int y0), .val (.int y1), .val (.int y2), .unset, .unset, .unset, .unset, .unset] [(.ref b219)])
    refine own_goW (fun t k => XS.astore X219.here hx rfl (hb hby at_35) rfl rfl (l' := #[.val (.int p1), .val (.int p2), .val (.int p3), .val (.int p4), .val (.int p5), .val (.int (3 : Int32)), .val (.int (0 : Int32)), .val (.int y0), .val (.int y1), .val (.int y2), .val (.ref b219), .unset, .unset, .unset, .unset]) rfl k) ?_
    show own_EndW _ _ _ _ _ _ _ T219 (mkF m 37 #[.val (.int p1), .val (.int p2), .val (.int p3), .val (.int p4), .val (.int p5), .val (.int (3 : Int32)), .val (.int (0 : Int32)), .val (.int y0), .val (.int y1), .val (.int y2), .val (.ref b219), .unset, .unset, .unset, .unset] [])
    refine own_goW (fun t k => XS.iload X219.here hx rfl (hb hby at_37) rfl k) ?_
    show own_EndW _ _ _ _ _ _ _ T219 (mkF m 39 #[.val (.int p1), .val (.int p2), .val (.int p3), .val (.int p4), .val (.int p5), .val (.int (3 : Int32)), .val (.int (0 : Int32)), .val (.int y0), .val (.int y1), .val (.int y2), .val (.ref b219), .unset, .unset, .unset, .unset] [(.int (3 : Int32))])
    refine own_goW (fun t k => XS.ifNo X219.here hx rfl (hb hby at_39) rfl ((if0 _ _).trans (tlt (by decide : (0 : Int32) < (3 : Int32))).2.2.2) k) ?_
    show own_EndW _ _ _ _ _ _ _ T219 (mkF m 42 #[.val (.int p1), .val (.int p2), .val (.int p3), .val (.int p4), .val (.int p5), .val (.int (3 : Int32)), .val (.int (0 : Int32)), .val (.int y0), .val (.int y1), .val (.int y2), .val (.ref b219), .unset, .unset, .unset, .unset] [])
    refine own_goW (fun t k => XS.aload X219.here hx rfl (hb hby at_42) rfl rfl k) ?_
    show own_EndW _ _ _ _ _ _ _ T219 (mkF m 44 #[.val (.int p1), .val (.int p2), .val (.int p3), .val (.int p4), .val (.int p5), .val (.int (3 : Int32)), .val (.int (0 : Int32)), .val (.int y0), .val (.int y1), .val (.int y2), .val (.ref b219), .unset, .unset, .unset, .unset] [(.ref b219)])
    refine own_goW (fun t k => XS.iconst X219.here hx rfl (hb hby at_44) k) ?_
    show own_EndW _ _ _ _ _ _ _ T219 (mkF m 45 #[.val (.int p1), .val (.int p2), .val (.int p3), .val (.int p4), .val (.int p5), .val (.int (3 : Int32)), .val (.int (0 : Int32)), .val (.int y0), .val (.int y1), .val (.int y2), .val (.ref b219), .unset, .unset, .unset, .unset] [(.int (0 : Int32)), (.ref b219)])
    refine own_goW (fun t k => XS.iload X219.here hx rfl (hb hby at_45) rfl k) ?_
    show own_EndW _ _ _ _ _ _ _ T219 (mkF m 47 #[.val (.int p1), .val (.int p2), .val (.int p3), .val (.int p4), .val (.int p5), .val (.int (3 : Int32)), .val (.int (0 : Int32)), .val (.int y0), .val (.int y1), .val (.int y2), .val (.ref b219), .unset, .unset, .unset, .unset] [(.int y0), (.int (0 : Int32)), (.ref b219)])
    obtain ⟨cl221, Ar221, q221, S221, M221, H221, G221⟩ := id V219
    obtain ⟨T221, h221, X221, e221, W221, st221⟩ := stB X219 hx hZ e219 Ar221 (j := (0 : Int32)) (inb_of S221 ⟨by decide, by decide⟩) (g := (mkF m 47 #[.val (.int p1), .val (.int p2), .val (.int p3), .val (.int p4), .val (.int p5), .val (.int (3 : Int32)), .val (.int (0 : Int32)), .val (.int y0), .val (.int y1), .val (.int y2), .val (.ref b219), .unset, .unset, .unset, .unset] [(.int y0), (.int (0 : Int32)), (.ref b219)])) rfl rfl (hb hby at_47)
    have Vs221 := Arv.set Ar221 q221 S221 M221 H221 G221 (fits_nar_byte _) W221 0 rfl (Nat.le_of_ble_eq_true rfl)
    rw [hb0] at Vs221
    have V221v : Arv Z h221 b219 k219 .byte (3 : Int32) [(.int y0), (.int (0 : Int32)), (.int (0 : Int32))] (.int (0 : Int32)) := Vs221
    have K222 : Keep h0 h221 [] := K220.wr W221 (Or.inr sz_b219)
    have N221 := Fr.snoc X221 N0 g_b219
    refine own_goW st221 ?_
    show own_EndW _ _ _ _ _ _ _ T221 (mkF m 48 #[.val (.int p1), .val (.int p2), .val (.int p3), .val (.int p4), .val (.int p5), .val (.int (3 : Int32)), .val (.int (0 : Int32)), .val (.int y0), .val (.int y1), .val (.int y2), .val (.ref b219), .unset, .unset, .unset, .unset] [])
    refine own_goW (fun t k => XS.iload X221.here hx rfl (hb hby at_48) rfl k) ?_
    show own_EndW _ _ _ _ _ _ _ T221 (mkF m 50 #[.val (.int p1), .val (.int p2), .val (.int p3), .val (.int p4), .val (.int p5), .val (.int (3 : Int32)), .val (.int (0 : Int32)), .val (.int y0), .val (.int y1), .val (.int y2), .val (.ref b219), .unset, .unset, .unset, .unset] [(.int (3 : Int32))])
    refine own_goW (fun t k => XS.iconst X221.here hx rfl (hb hby at_50) k) ?_
    show own_EndW _ _ _ _ _ _ _ T221 (mkF m 51 #[.val (.int p1), .val (.int p2), .val (.int p3), .val (.int p4), .val (.int p5), .val (.int (3 : Int32)), .val (.int (0 : Int32)), .val (.int y0), .val (.int y1), .val (.int y2), .val (.ref b219), .unset, .unset, .unset, .unset] [(.int (1 : Int32)), (.int (3 : Int32))])
    refine own_goW (fun t k => XS.icmpNo X221.here hx rfl (hb hby at_51) rfl (tlt (by decide : (1 : Int32) < (3 : Int32))).2.2.2 k) ?_
    show own_EndW _ _ _ _ _ _ _ T221 (mkF m 54 #[.val (.int p1), .val (.int p2), .val (.int p3), .val (.int p4), .val (.int p5), .val (.int (3 : Int32)), .val (.int (0 : Int32)), .val (.int y0), .val (.int y1), .val (.int y2), .val (.ref b219), .unset, .unset, .unset, .unset] [])
    refine own_goW (fun t k => XS.aload X221.here hx rfl (hb hby at_54) rfl rfl k) ?_
    show own_EndW _ _ _ _ _ _ _ T221 (mkF m 56 #[.val (.int p1), .val (.int p2), .val (.int p3), .val (.int p4), .val (.int p5), .val (.int (3 : Int32)), .val (.int (0 : Int32)), .val (.int y0), .val (.int y1), .val (.int y2), .val (.ref b219), .unset, .unset, .unset, .unset] [(.ref b219)])
    refine own_goW (fun t k => XS.iconst X221.here hx rfl (hb hby at_56) k) ?_
    show own_EndW _ _ _ _ _ _ _ T221 (mkF m 57 #[.val (.int p1), .val (.int p2), .val (.int p3), .val (.int p4), .val (.int p5), .val (.int (3 : Int32)), .val (.int (0 : Int32)), .val (.int y0), .val (.int y1), .val (.int y2), .val (.ref b219), .unset, .unset, .unset, .unset] [(.int (1 : Int32)), (.ref b219)])
    refine own_goW (fun t k => XS.iload X221.here hx rfl (hb hby at_57) rfl k) ?_
    show own_EndW _ _ _ _ _ _ _ T221 (mkF m 59 #[.val (.int p1), .val (.int p2), .val (.int p3), .val (.int p4), .val (.int p5), .val (.int (3 : Int32)), .val (.int (0 : Int32)), .val (.int y0), .val (.int y1), .val (.int y2), .val (.ref b219), .unset, .unset, .unset, .unset] [(.int y1), (.int (1 : Int32)), (.ref b219)])
    obtain ⟨cl223, Ar223, q223, S223, M223, H223, G223⟩ := id V221v
    obtain ⟨T223, h223, X223, e223, W223, st223⟩ := stB X221 hx hZ e221 Ar223 (j := (1 : Int32)) (inb_of S223 ⟨by decide, by decide⟩) (g := (mkF m 59 #[.val (.int p1), .val (.int p2), .val (.int p3), .val (.int p4), .val (.int p5), .val (.int (3 : Int32)), .val (.int (0 : Int32)), .val (.int y0), .val (.int y1), .val (.int y2), .val (.ref b219), .unset, .unset, .unset, .unset] [(.int y1), (.int (1 : Int32)), (.ref b219)])) rfl rfl (hb hby at_59)
    have Vs223 := Arv.set Ar223 q223 S223 M223 H223 G223 (fits_nar_byte _) W223 1 rfl (Nat.le_of_ble_eq_true rfl)
    rw [hb1] at Vs223
    have V223v : Arv Z h223 b219 k219 .byte (3 : Int32) [(.int y0), (.int y1), (.int (0 : Int32))] (.int (0 : Int32)) := Vs223
    have K224 : Keep h0 h223 [] := K222.wr W223 (Or.inr sz_b219)
    have N223 := Fr.snoc X223 N221 g_b219
    refine own_goW st223 ?_
    show own_EndW _ _ _ _ _ _ _ T223 (mkF m 60 #[.val (.int p1), .val (.int p2), .val (.int p3), .val (.int p4), .val (.int p5), .val (.int (3 : Int32)), .val (.int (0 : Int32)), .val (.int y0), .val (.int y1), .val (.int y2), .val (.ref b219), .unset, .unset, .unset, .unset] [])
    refine own_goW (fun t k => XS.iload X223.here hx rfl (hb hby at_60) rfl k) ?_
    show own_EndW _ _ _ _ _ _ _ T223 (mkF m 62 #[.val (.int p1), .val (.int p2), .val (.int p3), .val (.int p4), .val (.int p5), .val (.int (3 : Int32)), .val (.int (0 : Int32)), .val (.int y0), .val (.int y1), .val (.int y2), .val (.ref b219), .unset, .unset, .unset, .unset] [(.int (3 : Int32))])
    refine own_goW (fun t k => XS.iconst X223.here hx rfl (hb hby at_62) k) ?_
    show own_EndW _ _ _ _ _ _ _ T223 (mkF m 63 #[.val (.int p1), .val (.int p2), .val (.int p3), .val (.int p4), .val (.int p5), .val (.int (3 : Int32)), .val (.int (0 : Int32)), .val (.int y0), .val (.int y1), .val (.int y2), .val (.ref b219), .unset, .unset, .unset, .unset] [(.int (2 : Int32)), (.int (3 : Int32))])
    refine own_goW (fun t k => XS.icmpNo X223.here hx rfl (hb hby at_63) rfl (tlt (by decide : (2 : Int32) < (3 : Int32))).2.2.2 k) ?_
    show own_EndW _ _ _ _ _ _ _ T223 (mkF m 66 #[.val (.int p1), .val (.int p2), .val (.int p3), .val (.int p4), .val (.int p5), .val (.int (3 : Int32)), .val (.int (0 : Int32)), .val (.int y0), .val (.int y1), .val (.int y2), .val (.ref b219), .unset, .unset, .unset, .unset] [])
    refine own_goW (fun t k => XS.aload X223.here hx rfl (hb hby at_66) rfl rfl k) ?_
    show own_EndW _ _ _ _ _ _ _ T223 (mkF m 68 #[.val (.int p1), .val (.int p2), .val (.int p3), .val (.int p4), .val (.int p5), .val (.int (3 : Int32)), .val (.int (0 : Int32)), .val (.int y0), .val (.int y1), .val (.int y2), .val (.ref b219), .unset, .unset, .unset, .unset] [(.ref b219)])
    refine own_goW (fun t k => XS.iconst X223.here hx rfl (hb hby at_68) k) ?_
    show own_EndW _ _ _ _ _ _ _ T223 (mkF m 69 #[.val (.int p1), .val (.int p2), .val (.int p3), .val (.int p4), .val (.int p5), .val (.int (3 : Int32)), .val (.int (0 : Int32)), .val (.int y0), .val (.int y1), .val (.int y2), .val (.ref b219), .unset, .unset, .unset, .unset] [(.int (2 : Int32)), (.ref b219)])
    refine own_goW (fun t k => XS.iload X223.here hx rfl (hb hby at_69) rfl k) ?_
    show own_EndW _ _ _ _ _ _ _ T223 (mkF m 71 #[.val (.int p1), .val (.int p2), .val (.int p3), .val (.int p4), .val (.int p5), .val (.int (3 : Int32)), .val (.int (0 : Int32)), .val (.int y0), .val (.int y1), .val (.int y2), .val (.ref b219), .unset, .unset, .unset, .unset] [(.int y2), (.int (2 : Int32)), (.ref b219)])
    obtain ⟨cl225, Ar225, q225, S225, M225, H225, G225⟩ := id V223v
    obtain ⟨T225, h225, X225, e225, W225, st225⟩ := stB X223 hx hZ e223 Ar225 (j := (2 : Int32)) (inb_of S225 ⟨by decide, by decide⟩) (g := (mkF m 71 #[.val (.int p1), .val (.int p2), .val (.int p3), .val (.int p4), .val (.int p5), .val (.int (3 : Int32)), .val (.int (0 : Int32)), .val (.int y0), .val (.int y1), .val (.int y2), .val (.ref b219), .unset, .unset, .unset, .unset] [(.int y2), (.int (2 : Int32)), (.ref b219)])) rfl rfl (hb hby at_71)
    have Vs225 := Arv.set Ar225 q225 S225 M225 H225 G225 (fits_nar_byte _) W225 2 rfl (Nat.le_of_ble_eq_true rfl)
    rw [hb2] at Vs225
    have V225v : Arv Z h225 b219 k219 .byte (3 : Int32) [(.int y0), (.int y1), (.int y2)] (.int (0 : Int32)) := Vs225
    have K226 : Keep h0 h225 [] := K224.wr W225 (Or.inr sz_b219)
    have N225 := Fr.snoc X225 N223 g_b219
    refine own_goW st225 ?_
    show own_EndW _ _ _ _ _ _ _ T225 (mkF m 72 #[.val (.int p1), .val (.int p2), .val (.int p3), .val (.int p4), .val (.int p5), .val (.int (3 : Int32)), .val (.int (0 : Int32)), .val (.int y0), .val (.int y1), .val (.int y2), .val (.ref b219), .unset, .unset, .unset, .unset] [])
    obtain ⟨T227, h227, X227, e227, E227, A227, D227, -, st227⟩ := newO X225 hx hZ hown (hw _ (List.mem_of_getElem? (i := 1) rfl)) (hw _ (List.mem_of_getElem? (i := 2) rfl)) (hw _ (List.mem_of_getElem? (i := 3) rfl)) e225 (g := (mkF m 72 #[.val (.int p1), .val (.int p2), .val (.int p3), .val (.int p4), .val (.int p5), .val (.int (3 : Int32)), .val (.int (0 : Int32)), .val (.int y0), .val (.int y1), .val (.int y2), .val (.ref b219), .unset, .unset, .unset, .unset] [])) rfl (hb hby at_72) (by decide) (by decide)
    obtain ⟨b227, g227⟩ : ∃ z, z = h225.size := ⟨_, rfl⟩
    rw [← g227] at A227 D227 st227
    have ne_b219_b227 : b219 ≠ b227 := Nat.ne_of_lt (Nat.lt_of_lt_of_le V225v.lt (Nat.le_of_eq g227.symm))
    have g_b227 : n0 ≤ b227 := Nat.le_trans (Nat.le_trans (Nat.le_trans (Nat.le_trans (Nat.le_trans Z0 E219.1) (Keep.of_wr W221).1) (Keep.of_wr W223).1) (Keep.of_wr W225).1) (Nat.le_of_eq g227.symm)
    have sz_b227 : h0.size ≤ b227 := Nat.le_trans K226.1 (Nat.le_of_eq g227.symm)
    have F227_code : Fld Z h227 b227 "com/example/coxswain/coxswain/wire/Status" "code" "Lcom/example/coxswain/coxswain/wire/StatusCode;" .null := D227 (Or.inr (hw _ (List.mem_of_getElem? (i := 33) rfl))) (ty := (.object "com/example/coxswain/coxswain/wire/StatusCode")) (by decide)
    have F227_description : Fld Z h227 b227 "com/example/coxswain/coxswain/wire/Status" "description" "Ljava/lang/String;" .null := D227 (Or.inr (hw _ (List.mem_of_getElem? (i := 35) rfl))) (ty := (.object "java/lang/String")) (by decide)
    have F227_details : Fld Z h227 b227 "com/example/coxswain/coxswain/wire/Status" "details" "[B" .null := D227 (Or.inr (hw _ (List.mem_of_getElem? (i := 37) rfl))) (ty := (.array .byte)) (by decide)
    have K228 : Keep h0 h227 [] := K226.ext E227
    refine own_goW st227 ?_
    show own_EndW _ _ _ _ _ _ _ T227 (mkF m 75 #[.val (.int p1), .val (.int p2), .val (.int p3), .val (.int p4), .val (.int p5), .val (.int (3 : Int32)), .val (.int (0 : Int32)), .val (.int y0), .val (.int y1), .val (.int y2), .val (.ref b219), .unset, .unset, .unset, .unset] [(.ref b227)])
    refine own_goW (fun t k => XS.dup X227.here hx rfl (hb hby at_75) rfl rfl k) ?_
    show own_EndW _ _ _ _ _ _ _ T227 (mkF m 76 #[.val (.int p1), .val (.int p2), .val (.int p3), .val (.int p4), .val (.int p5), .val (.int (3 : Int32)), .val (.int (0 : Int32)), .val (.int y0), .val (.int y1), .val (.int y2), .val (.ref b219), .unset, .unset, .unset, .unset] [(.ref b227), (.ref b227)])
    obtain ⟨T229, X229, e229, st229⟩ := getS2 X227 hx hZ hown (host := "") (Or.inl (hw _ (List.mem_of_getElem? (i := 4) rfl))) Via.refl e227 (own_StaK SU K228) (g := (mkF m 76 #[.val (.int p1), .val (.int p2), .val (.int p3), .val (.int p4), .val (.int p5), .val (.int (3 : Int32)), .val (.int (0 : Int32)), .val (.int y0), .val (.int y1), .val (.int y2), .val (.ref b219), .unset, .unset, .unset, .unset] [(.ref b227), (.ref b227)])) rfl (hb hby at_76)
    refine own_goW st229 ?_
    show own_EndW _ _ _ _ _ _ _ T229 (mkF m 79 #[.val (.int p1), .val (.int p2), .val (.int p3), .val (.int p4), .val (.int p5), .val (.int (3 : Int32)), .val (.int (0 : Int32)), .val (.int y0), .val (.int y1), .val (.int y2), .val (.ref b219), .unset, .unset, .unset, .unset] [(.ref wU), (.ref b227), (.ref b227)])
    refine own_goW (fun t k => XS.aconstNull X229.here hx rfl (hb hby at_79) k) ?_
    show own_EndW _ _ _ _ _ _ _ T229 (mkF m 80 #[.val (.int p1), .val (.int p2), .val (.int p3), .val (.int p4), .val (.int p5), .val (.int (3 : Int32)), .val (.int (0 : Int32)), .val (.int y0), .val (.int y1), .val (.int y2), .val (.ref b219), .unset, .unset, .unset, .unset] [.null, (.ref wU), (.ref b227), (.ref b227)])
    refine own_goW (fun t k => XS.iload X229.here hx rfl (hb hby at_80) rfl k) ?_
    show own_EndW _ _ _ _ _ _ _ T229 (mkF m 82 #[.val (.int p1), .val (.int p2), .val (.int p3), .val (.int p4), .val (.int p5), .val (.int (3 : Int32)), .val (.int (0 : Int32)), .val (.int y0), .val (.int y1), .val (.int y2), .val (.ref b219), .unset, .unset, .unset, .unset] [(.int (0 : Int32)), .null, (.ref wU), (.ref b227), (.ref b227)])
    refine own_goW (fun t k => XS.ifYes X229.here hx rfl (pc0 := 82) (pc' := 89) rfl (hb hby at_82) rfl ((if0 _ _).trans (teq (by decide : (0 : Int32) = (0 : Int32))).1) (by decide) (by decide) k) ?_
    show own_EndW _ _ _ _ _ _ _ T229 (mkF m 89 #[.val (.int p1), .val (.int p2), .val (.int p3), .val (.int p4), .val (.int p5), .val (.int (3 : Int32)), .val (.int (0 : Int32)), .val (.int y0), .val (.int y1), .val (.int y2), .val (.ref b219), .unset, .unset, .unset, .unset] [.null, (.ref wU), (.ref b227), (.ref b227)])
    refine own_goW (fun t k => XS.aload X229.here hx rfl (hb hby at_89) rfl rfl k) ?_
    show own_EndW _ _ _ _ _ _ _ T229 (mkF m 91 #[.val (.int p1), .val (.int p2), .val (.int p3), .val (.int p4), .val (.int p5), .val (.int (3 : Int32)), .val (.int (0 : Int32)), .val (.int y0), .val (.int y1), .val (.int y2), .val (.ref b219), .unset, .unset, .unset, .unset] [(.ref b219), .null, (.ref wU), (.ref b227), (.ref b227)])
    obtain ⟨v230, T230, L230, X230, hQ230, hS230, hZ, hown, st230⟩ := own_callNW (y := (⟨"com/example/coxswain/coxswain/wire/Status", "<init>", "(Lcom/example/coxswain/coxswain/wire/StatusCode;Ljava/lang/String;[B)V"⟩ : MethodName)) X229 hx hZ hown (hw _ (List.mem_of_getElem? (i := 7) rfl)) (hw _ (List.mem_of_getElem? (i := 8) rfl)) (hw _ (List.mem_of_getElem? (i := 9) rfl)) (by decide) (hw _ (List.mem_of_getElem? (i := 3) rfl)) (rmI3 l Z a0 hw [] b227 wU b219 k219 y0 y1 y2 h227 n0 (Nat.le_trans (Nat.le_trans (Nat.le_trans (Nat.le_trans (Nat.le_trans Z0 E219.1) (Keep.of_wr W221).1) (Keep.of_wr W223).1) (Keep.of_wr W225).1) E227.1) A227 g_b227 F227_code F227_description F227_details (V225v.ext E227) (Ne.symm ne_b219_b227) ((((B219.wr W221).wr W223).wr W225).ext E227)) e229 (W := 1) (by decide) (by decide) (g := (mkF m 91 #[.val (.int p1), .val (.int p2), .val (.int p3), .val (.int p4), .val (.int p5), .val (.int (3 : Int32)), .val (.int (0 : Int32)), .val (.int y0), .val (.int y1), .val (.int y2), .val (.ref b219), .unset, .unset, .unset, .unset] [(.ref b219), .null, (.ref wU), (.ref b227), (.ref b227)])) rfl (by rw [hml]; rfl) (argsL := [(.ref wU), .null, (.ref b219)]) (rest := [(.ref b227)]) (a := b227) rfl rfl (lenOf pd__Lcom_example_coxswain_coxswain_wire_StatusCode_Ljava_lang_String__B_V rfl) rfl (by show 2 * 0 + _ ≤ _; exact Nat.le_of_eq rfl) (hb hby at_91) (by decide) (by decide)
    obtain ⟨rfl, N230q, Kc230, Ec230, d230, gd230, zd230, Fd230, Vd230, Ed230⟩ := hQ230
    have N230 := Fr.app N225 N230q
    have ne_b219_d230 : b219 ≠ d230 := Nat.ne_of_lt (Nat.lt_of_lt_of_le (V225v.ext E227).lt zd230)
    have ne_b227_d230 : b227 ≠ d230 := Nat.ne_of_lt (Nat.lt_of_lt_of_le A227.lt zd230)
    have K230 : Keep h0 T230.heap [] := K228.trans Kc230 (fun x hx => by cases List.mem_singleton.mp hx; exact Or.inr sz_b227)
    refine own_goW st230 ?_
    show own_EndW _ _ _ _ _ _ _ T230 (mkF m 94 #[.val (.int p1), .val (.int p2), .val (.int p3), .val (.int p4), .val (.int p5), .val (.int (3 : Int32)), .val (.int (0 : Int32)), .val (.int y0), .val (.int y1), .val (.int y2), .val (.ref b219), .unset, .unset, .unset, .unset] [(.ref b227)])
    refine own_goW (fun t k => XS.astore X230.here hx rfl (hb hby at_94) rfl rfl (l' := #[.val (.int p1), .val (.int p2), .val (.int p3), .val (.int p4), .val (.int p5), .val (.int (3 : Int32)), .val (.int (0 : Int32)), .val (.int y0), .val (.int y1), .val (.int y2), .val (.ref b219), .val (.ref b227), .unset, .unset, .unset]) rfl k) ?_
    show own_EndW _ _ _ _ _ _ _ T230 (mkF m 96 #[.val (.int p1), .val (.int p2), .val (.int p3), .val (.int p4), .val (.int p5), .val (.int (3 : Int32)), .val (.int (0 : Int32)), .val (.int y0), .val (.int y1), .val (.int y2), .val (.ref b219), .val (.ref b227), .unset, .unset, .unset] [])
    refine own_goW (fun t k => XS.aload X230.here hx rfl (hb hby at_96) rfl rfl k) ?_
    show own_EndW _ _ _ _ _ _ _ T230 (mkF m 98 #[.val (.int p1), .val (.int p2), .val (.int p3), .val (.int p4), .val (.int p5), .val (.int (3 : Int32)), .val (.int (0 : Int32)), .val (.int y0), .val (.int y1), .val (.int y2), .val (.ref b219), .val (.ref b227), .unset, .unset, .unset] [(.ref b219)])
    obtain ⟨v231, T231, L231, X231, hQ231, st231⟩ := own_callS (y := (⟨"com/example/coxswain/coxswain/wire/StatusDetailsPinLaw", "scramble", "([B)V"⟩ : MethodName)) X230 hx hZ hown (hw _ (List.mem_of_getElem? (i := 38) rfl)) (hw _ (List.mem_of_getElem? (i := 39) rfl)) (hw _ (List.mem_of_getElem? (i := 41) rfl)) (by decide) (hw _ (List.mem_of_getElem? (i := 40) rfl)) (rmS3 l Z a0 hw [] b219 k219 y0 y1 y2 T230.heap n0 (Nat.le_trans (Nat.le_trans (Nat.le_trans (Nat.le_trans (Nat.le_trans (Nat.le_trans Z0 E219.1) (Keep.of_wr W221).1) (Keep.of_wr W223).1) (Keep.of_wr W225).1) E227.1) Kc230.1) ((V225v.ext E227).keep Kc230 (ninS ne_b219_b227 nin0)) g_b219) rfl (W := 0) (by decide) (by decide) (g := (mkF m 98 #[.val (.int p1), .val (.int p2), .val (.int p3), .val (.int p4), .val (.int p5), .val (.int (3 : Int32)), .val (.int (0 : Int32)), .val (.int y0), .val (.int y1), .val (.int y2), .val (.ref b219), .val (.ref b227), .unset, .unset, .unset] [(.ref b219)])) rfl (by rw [hml]; rfl) (argsL := [(.ref b219)]) (rest := []) rfl (lenOf pd___B_V rfl) rfl (by show 2 * 0 + _ ≤ _; exact Nat.le_of_eq rfl) (hb hby at_98) (by decide) (by decide)
    obtain ⟨rfl, N231q, Kc231⟩ := hQ231
    have N231 := Fr.app N230 N231q
    refine own_goW st231 ?_
    have K231 : Keep h0 T231.heap [] := K230.trans Kc231 (fun x hx => by cases List.mem_singleton.mp hx; exact Or.inr sz_b219)
    show own_EndW _ _ _ _ _ _ _ T231 (mkF m 101 #[.val (.int p1), .val (.int p2), .val (.int p3), .val (.int p4), .val (.int p5), .val (.int (3 : Int32)), .val (.int (0 : Int32)), .val (.int y0), .val (.int y1), .val (.int y2), .val (.ref b219), .val (.ref b227), .unset, .unset, .unset] [])
    refine own_goW (fun t k => XS.iload X231.here hx rfl (hb hby at_101) rfl k) ?_
    show own_EndW _ _ _ _ _ _ _ T231 (mkF m 103 #[.val (.int p1), .val (.int p2), .val (.int p3), .val (.int p4), .val (.int p5), .val (.int (3 : Int32)), .val (.int (0 : Int32)), .val (.int y0), .val (.int y1), .val (.int y2), .val (.ref b219), .val (.ref b227), .unset, .unset, .unset] [(.int (0 : Int32))])
    refine own_goW (fun t k => XS.ifYes X231.here hx rfl (pc0 := 103) (pc' := 110) rfl (hb hby at_103) rfl ((if0 _ _).trans (teq (by decide : (0 : Int32) = (0 : Int32))).1) (by decide) (by decide) k) ?_
    show own_EndW _ _ _ _ _ _ _ T231 (mkF m 110 #[.val (.int p1), .val (.int p2), .val (.int p3), .val (.int p4), .val (.int p5), .val (.int (3 : Int32)), .val (.int (0 : Int32)), .val (.int y0), .val (.int y1), .val (.int y2), .val (.ref b219), .val (.ref b227), .unset, .unset, .unset] [])
    refine own_goW (fun t k => XS.iload X231.here hx rfl (hb hby at_110) rfl k) ?_
    show own_EndW _ _ _ _ _ _ _ T231 (mkF m 112 #[.val (.int p1), .val (.int p2), .val (.int p3), .val (.int p4), .val (.int p5), .val (.int (3 : Int32)), .val (.int (0 : Int32)), .val (.int y0), .val (.int y1), .val (.int y2), .val (.ref b219), .val (.ref b227), .unset, .unset, .unset] [(.int (3 : Int32))])
    refine own_goW (fun t k => XS.istore X231.here hx rfl (hb hby at_112) rfl (l' := #[.val (.int p1), .val (.int p2), .val (.int p3), .val (.int p4), .val (.int p5), .val (.int (3 : Int32)), .val (.int (0 : Int32)), .val (.int y0), .val (.int y1), .val (.int y2), .val (.ref b219), .val (.ref b227), .val (.int (3 : Int32)), .unset, .unset]) rfl k) ?_
    show own_EndW _ _ _ _ _ _ _ T231 (mkF m 114 #[.val (.int p1), .val (.int p2), .val (.int p3), .val (.int p4), .val (.int p5), .val (.int (3 : Int32)), .val (.int (0 : Int32)), .val (.int y0), .val (.int y1), .val (.int y2), .val (.ref b219), .val (.ref b227), .val (.int (3 : Int32)), .unset, .unset] [])
    refine own_goW (fun t k => XS.aload X231.here hx rfl (hb hby at_114) rfl rfl k) ?_
    show own_EndW _ _ _ _ _ _ _ T231 (mkF m 116 #[.val (.int p1), .val (.int p2), .val (.int p3), .val (.int p4), .val (.int p5), .val (.int (3 : Int32)), .val (.int (0 : Int32)), .val (.int y0), .val (.int y1), .val (.int y2), .val (.ref b219), .val (.ref b227), .val (.int (3 : Int32)), .unset, .unset] [(.ref b227)])
    obtain ⟨v232, T232, L232, X232, hQ232, st232⟩ := own_callV (y := (⟨"com/example/coxswain/coxswain/wire/Status", "details", "()[B"⟩ : MethodName)) (z := (⟨"com/example/coxswain/coxswain/wire/Status", "details", "()[B"⟩ : MethodName)) X231 hx hZ hown (hw _ (List.mem_of_getElem? (i := 42) rfl)) (hw _ (List.mem_of_getElem? (i := 43) rfl)) (hw _ (List.mem_of_getElem? (i := 45) rfl)) (hw _ (List.mem_of_getElem? (i := 44) rfl)) (Ec230.keep Kc231) (hw _ (List.mem_of_getElem? (i := 46) rfl)) (by decide) (hw _ (List.mem_of_getElem? (i := 3) rfl)) (rmT3 l Z a0 hw [] b227 d230 k219 y0 y1 y2 T231.heap n0 (Nat.le_trans (Nat.le_trans (Nat.le_trans (Nat.le_trans (Nat.le_trans (Nat.le_trans (Nat.le_trans Z0 E219.1) (Keep.of_wr W221).1) (Keep.of_wr W223).1) (Keep.of_wr W225).1) E227.1) Kc230.1) Kc231.1) (Fd230.keep Kc231 (ninS (Ne.symm ne_b219_b227) nin0)) (Vd230.keep Kc231 (ninS (Ne.symm ne_b219_d230) nin0)) (Ed230.keep Kc231)) rfl (W := 0) (by decide) (by decide) (g := (mkF m 116 #[.val (.int p1), .val (.int p2), .val (.int p3), .val (.int p4), .val (.int p5), .val (.int (3 : Int32)), .val (.int (0 : Int32)), .val (.int y0), .val (.int y1), .val (.int y2), .val (.ref b219), .val (.ref b227), .val (.int (3 : Int32)), .unset, .unset] [(.ref b227)])) rfl (by rw [hml]; rfl) (argsL := []) (rest := []) (b := b227) rfl (notFace_of_selects (args := #[]) (mvT hZ (hw _ (List.mem_of_getElem? (i := 45) rfl)))) (lenOf pd____B rfl) rfl (by show 2 * 0 + _ ≤ _; exact Nat.le_of_eq rfl) (hb hby at_116) (by decide) (by decide)
    obtain ⟨x232, rfl, N232q, Kc232, gx232, zx232, Vx232⟩ := hQ232
    have N232 := Fr.app N231 N232q
    refine own_goW st232 ?_
    have ne_b219_x232 : b219 ≠ x232 := Nat.ne_of_lt (Nat.lt_of_lt_of_le ((((((B219.wr W221).wr W223).wr W225).ext E227).keep Kc230).keep Kc231).lt zx232)
    have ne_b227_x232 : b227 ≠ x232 := Nat.ne_of_lt (Nat.lt_of_lt_of_le (Ec230.keep Kc231).lt zx232)
    have ne_d230_x232 : d230 ≠ x232 := Nat.ne_of_lt (Nat.lt_of_lt_of_le (Vd230.keep Kc231 (ninS (Ne.symm ne_b219_d230) nin0)).lt zx232)
    have sz_x232 : h0.size ≤ x232 := Nat.le_trans K231.1 zx232
    have K232 : Keep h0 T232.heap [] := K231.trans Kc232 (fun x hx => nomatch hx)
    show own_EndW _ _ _ _ _ _ _ T232 (mkF m 119 #[.val (.int p1), .val (.int p2), .val (.int p3), .val (.int p4), .val (.int p5), .val (.int (3 : Int32)), .val (.int (0 : Int32)), .val (.int y0), .val (.int y1), .val (.int y2), .val (.ref b219), .val (.ref b227), .val (.int (3 : Int32)), .unset, .unset] [(.ref x232)])
    refine own_goW (fun t k => XS.astore X232.here hx rfl (hb hby at_119) rfl rfl (l' := #[.val (.int p1), .val (.int p2), .val (.int p3), .val (.int p4), .val (.int p5), .val (.int (3 : Int32)), .val (.int (0 : Int32)), .val (.int y0), .val (.int y1), .val (.int y2), .val (.ref b219), .val (.ref b227), .val (.int (3 : Int32)), .val (.ref x232), .unset]) rfl k) ?_
    show own_EndW _ _ _ _ _ _ _ T232 (mkF m 121 #[.val (.int p1), .val (.int p2), .val (.int p3), .val (.int p4), .val (.int p5), .val (.int (3 : Int32)), .val (.int (0 : Int32)), .val (.int y0), .val (.int y1), .val (.int y2), .val (.ref b219), .val (.ref b227), .val (.int (3 : Int32)), .val (.ref x232), .unset] [])
    refine own_goW (fun t k => XS.aload X232.here hx rfl (hb hby at_121) rfl rfl k) ?_
    show own_EndW _ _ _ _ _ _ _ T232 (mkF m 123 #[.val (.int p1), .val (.int p2), .val (.int p3), .val (.int p4), .val (.int p5), .val (.int (3 : Int32)), .val (.int (0 : Int32)), .val (.int y0), .val (.int y1), .val (.int y2), .val (.ref b219), .val (.ref b227), .val (.int (3 : Int32)), .val (.ref x232), .unset] [(.ref x232)])
    refine own_goW (fun t k => XS.iload X232.here hx rfl (hb hby at_123) rfl k) ?_
    show own_EndW _ _ _ _ _ _ _ T232 (mkF m 125 #[.val (.int p1), .val (.int p2), .val (.int p3), .val (.int p4), .val (.int p5), .val (.int (3 : Int32)), .val (.int (0 : Int32)), .val (.int y0), .val (.int y1), .val (.int y2), .val (.ref b219), .val (.ref b227), .val (.int (3 : Int32)), .val (.ref x232), .unset] [(.int (3 : Int32)), (.ref x232)])
    refine own_goW (fun t k => XS.iload X232.here hx rfl (hb hby at_125) rfl k) ?_
    show own_EndW _ _ _ _ _ _ _ T232 (mkF m 127 #[.val (.int p1), .val (.int p2), .val (.int p3), .val (.int p4), .val (.int p5), .val (.int (3 : Int32)), .val (.int (0 : Int32)), .val (.int y0), .val (.int y1), .val (.int y2), .val (.ref b219), .val (.ref b227), .val (.int (3 : Int32)), .val (.ref x232), .unset] [(.int y0), (.int (3 : Int32)), (.ref x232)])
    refine own_goW (fun t k => XS.iload X232.here hx rfl (hb hby at_127) rfl k) ?_
    show own_EndW _ _ _ _ _ _ _ T232 (mkF m 129 #[.val (.int p1), .val (.int p2), .val (.int p3), .val (.int p4), .val (.int p5), .val (.int (3 : Int32)), .val (.int (0 : Int32)), .val (.int y0), .val (.int y1), .val (.int y2), .val (.ref b219), .val (.ref b227), .val (.int (3 : Int32)), .val (.ref x232), .unset] [(.int y1), (.int y0), (.int (3 : Int32)), (.ref x232)])
    refine own_goW (fun t k => XS.iload X232.here hx rfl (hb hby at_129) rfl k) ?_
    show own_EndW _ _ _ _ _ _ _ T232 (mkF m 131 #[.val (.int p1), .val (.int p2), .val (.int p3), .val (.int p4), .val (.int p5), .val (.int (3 : Int32)), .val (.int (0 : Int32)), .val (.int y0), .val (.int y1), .val (.int y2), .val (.ref b219), .val (.ref b227), .val (.int (3 : Int32)), .val (.ref x232), .unset] [(.int y2), (.int y1), (.int y0), (.int (3 : Int32)), (.ref x232)])
    obtain ⟨v233, T233, L233, X233, hQ233, st233⟩ := own_callS (y := (⟨"com/example/coxswain/coxswain/wire/StatusDetailsPinLaw", "same", "([BIBBB)Z"⟩ : MethodName)) X232 hx hZ hown (hw _ (List.mem_of_getElem? (i := 47) rfl)) (hw _ (List.mem_of_getElem? (i := 48) rfl)) (hw _ (List.mem_of_getElem? (i := 49) rfl)) (by decide) (hw _ (List.mem_of_getElem? (i := 40) rfl)) (rmM3 l Z a0 hw [] x232 y0 y1 y2 k219 T232.heap n0 (Nat.le_trans (Nat.le_trans (Nat.le_trans (Nat.le_trans (Nat.le_trans (Nat.le_trans (Nat.le_trans (Nat.le_trans Z0 E219.1) (Keep.of_wr W221).1) (Keep.of_wr W223).1) (Keep.of_wr W225).1) E227.1) Kc230.1) Kc231.1) Kc232.1) Vx232) rfl (W := 0) (by decide) (by decide) (g := (mkF m 131 #[.val (.int p1), .val (.int p2), .val (.int p3), .val (.int p4), .val (.int p5), .val (.int (3 : Int32)), .val (.int (0 : Int32)), .val (.int y0), .val (.int y1), .val (.int y2), .val (.ref b219), .val (.ref b227), .val (.int (3 : Int32)), .val (.ref x232), .unset] [(.int y2), (.int y1), (.int y0), (.int (3 : Int32)), (.ref x232)])) rfl (by rw [hml]; rfl) (argsL := [(.ref x232), (.int (3 : Int32)), (.int y0), (.int y1), (.int y2)]) (rest := []) rfl (lenOf pd___BIBBB_Z rfl) rfl (by show 2 * 0 + _ ≤ _; exact Nat.le_of_eq rfl) (hb hby at_131) (by decide) (by decide)
    obtain ⟨rfl, N233q, e233⟩ := hQ233
    have N233 := Fr.app N232 N233q
    refine own_goW st233 ?_
    show own_EndW _ _ _ _ _ _ _ T233 (mkF m 134 #[.val (.int p1), .val (.int p2), .val (.int p3), .val (.int p4), .val (.int p5), .val (.int (3 : Int32)), .val (.int (0 : Int32)), .val (.int y0), .val (.int y1), .val (.int y2), .val (.ref b219), .val (.ref b227), .val (.int (3 : Int32)), .val (.ref x232), .unset] [(.int (1 : Int32))])
    refine own_goW (fun t k => XS.ifYes X233.here hx rfl (pc0 := 134) (pc' := 139) rfl (hb hby at_134) rfl ((if0 _ _).trans (feq (by decide : ¬ ((1 : Int32) = (0 : Int32)))).2) (by decide) (by decide) k) ?_
    show own_EndW _ _ _ _ _ _ _ T233 (mkF m 139 #[.val (.int p1), .val (.int p2), .val (.int p3), .val (.int p4), .val (.int p5), .val (.int (3 : Int32)), .val (.int (0 : Int32)), .val (.int y0), .val (.int y1), .val (.int y2), .val (.ref b219), .val (.ref b227), .val (.int (3 : Int32)), .val (.ref x232), .unset] [])
    refine own_goW (fun t k => XS.aload X233.here hx rfl (hb hby at_139) rfl rfl k) ?_
    show own_EndW _ _ _ _ _ _ _ T233 (mkF m 141 #[.val (.int p1), .val (.int p2), .val (.int p3), .val (.int p4), .val (.int p5), .val (.int (3 : Int32)), .val (.int (0 : Int32)), .val (.int y0), .val (.int y1), .val (.int y2), .val (.ref b219), .val (.ref b227), .val (.int (3 : Int32)), .val (.ref x232), .unset] [(.ref x232)])
    obtain ⟨v234, T234, L234, X234, hQ234, st234⟩ := own_callS (y := (⟨"com/example/coxswain/coxswain/wire/StatusDetailsPinLaw", "scramble", "([B)V"⟩ : MethodName)) X233 hx hZ hown (hw _ (List.mem_of_getElem? (i := 38) rfl)) (hw _ (List.mem_of_getElem? (i := 39) rfl)) (hw _ (List.mem_of_getElem? (i := 41) rfl)) (by decide) (hw _ (List.mem_of_getElem? (i := 40) rfl)) (rmS3 l Z a0 hw [] x232 k219 y0 y1 y2 T232.heap n0 (Nat.le_trans (Nat.le_trans (Nat.le_trans (Nat.le_trans (Nat.le_trans (Nat.le_trans (Nat.le_trans (Nat.le_trans Z0 E219.1) (Keep.of_wr W221).1) (Keep.of_wr W223).1) (Keep.of_wr W225).1) E227.1) Kc230.1) Kc231.1) Kc232.1) Vx232 gx232) e233 (W := 0) (by decide) (by decide) (g := (mkF m 141 #[.val (.int p1), .val (.int p2), .val (.int p3), .val (.int p4), .val (.int p5), .val (.int (3 : Int32)), .val (.int (0 : Int32)), .val (.int y0), .val (.int y1), .val (.int y2), .val (.ref b219), .val (.ref b227), .val (.int (3 : Int32)), .val (.ref x232), .unset] [(.ref x232)])) rfl (by rw [hml]; rfl) (argsL := [(.ref x232)]) (rest := []) rfl (lenOf pd___B_V rfl) rfl (by show 2 * 0 + _ ≤ _; exact Nat.le_of_eq rfl) (hb hby at_141) (by decide) (by decide)
    obtain ⟨rfl, N234q, Kc234⟩ := hQ234
    have N234 := Fr.app N233 N234q
    refine own_goW st234 ?_
    have K234 : Keep h0 T234.heap [] := K232.trans Kc234 (fun x hx => by cases List.mem_singleton.mp hx; exact Or.inr sz_x232)
    show own_EndW _ _ _ _ _ _ _ T234 (mkF m 144 #[.val (.int p1), .val (.int p2), .val (.int p3), .val (.int p4), .val (.int p5), .val (.int (3 : Int32)), .val (.int (0 : Int32)), .val (.int y0), .val (.int y1), .val (.int y2), .val (.ref b219), .val (.ref b227), .val (.int (3 : Int32)), .val (.ref x232), .unset] [])
    refine own_goW (fun t k => XS.aload X234.here hx rfl (hb hby at_144) rfl rfl k) ?_
    show own_EndW _ _ _ _ _ _ _ T234 (mkF m 146 #[.val (.int p1), .val (.int p2), .val (.int p3), .val (.int p4), .val (.int p5), .val (.int (3 : Int32)), .val (.int (0 : Int32)), .val (.int y0), .val (.int y1), .val (.int y2), .val (.ref b219), .val (.ref b227), .val (.int (3 : Int32)), .val (.ref x232), .unset] [(.ref b227)])
    obtain ⟨v235, T235, L235, X235, hQ235, st235⟩ := own_callV (y := (⟨"com/example/coxswain/coxswain/wire/Status", "details", "()[B"⟩ : MethodName)) (z := (⟨"com/example/coxswain/coxswain/wire/Status", "details", "()[B"⟩ : MethodName)) X234 hx hZ hown (hw _ (List.mem_of_getElem? (i := 42) rfl)) (hw _ (List.mem_of_getElem? (i := 43) rfl)) (hw _ (List.mem_of_getElem? (i := 45) rfl)) (hw _ (List.mem_of_getElem? (i := 44) rfl)) (((Ec230.keep Kc231).keep Kc232).keep Kc234) (hw _ (List.mem_of_getElem? (i := 46) rfl)) (by decide) (hw _ (List.mem_of_getElem? (i := 3) rfl)) (rmT3 l Z a0 hw [] b227 d230 k219 y0 y1 y2 T234.heap n0 (Nat.le_trans (Nat.le_trans (Nat.le_trans (Nat.le_trans (Nat.le_trans (Nat.le_trans (Nat.le_trans (Nat.le_trans (Nat.le_trans Z0 E219.1) (Keep.of_wr W221).1) (Keep.of_wr W223).1) (Keep.of_wr W225).1) E227.1) Kc230.1) Kc231.1) Kc232.1) Kc234.1) (((Fd230.keep Kc231 (ninS (Ne.symm ne_b219_b227) nin0)).keep Kc232 nin0).keep Kc234 (ninS ne_b227_x232 nin0)) (((Vd230.keep Kc231 (ninS (Ne.symm ne_b219_d230) nin0)).keep Kc232 nin0).keep Kc234 (ninS ne_d230_x232 nin0)) (((Ed230.keep Kc231).keep Kc232).keep Kc234)) rfl (W := 0) (by decide) (by decide) (g := (mkF m 146 #[.val (.int p1), .val (.int p2), .val (.int p3), .val (.int p4), .val (.int p5), .val (.int (3 : Int32)), .val (.int (0 : Int32)), .val (.int y0), .val (.int y1), .val (.int y2), .val (.ref b219), .val (.ref b227), .val (.int (3 : Int32)), .val (.ref x232), .unset] [(.ref b227)])) rfl (by rw [hml]; rfl) (argsL := []) (rest := []) (b := b227) rfl (notFace_of_selects (args := #[]) (mvT hZ (hw _ (List.mem_of_getElem? (i := 45) rfl)))) (lenOf pd____B rfl) rfl (by show 2 * 0 + _ ≤ _; exact Nat.le_of_eq rfl) (hb hby at_146) (by decide) (by decide)
    obtain ⟨x235, rfl, N235q, Kc235, gx235, zx235, Vx235⟩ := hQ235
    have N235 := Fr.app N234 N235q
    refine own_goW st235 ?_
    have ne_b219_x235 : b219 ≠ x235 := Nat.ne_of_lt (Nat.lt_of_lt_of_le ((((((((B219.wr W221).wr W223).wr W225).ext E227).keep Kc230).keep Kc231).keep Kc232).keep Kc234).lt zx235)
    have ne_b227_x235 : b227 ≠ x235 := Nat.ne_of_lt (Nat.lt_of_lt_of_le (((Ec230.keep Kc231).keep Kc232).keep Kc234).lt zx235)
    have ne_d230_x235 : d230 ≠ x235 := Nat.ne_of_lt (Nat.lt_of_lt_of_le (((Vd230.keep Kc231 (ninS (Ne.symm ne_b219_d230) nin0)).keep Kc232 nin0).keep Kc234 (ninS ne_d230_x232 nin0)).lt zx235)
    have sz_x235 : h0.size ≤ x235 := Nat.le_trans K234.1 zx235
    have K235 : Keep h0 T235.heap [] := K234.trans Kc235 (fun x hx => nomatch hx)
    show own_EndW _ _ _ _ _ _ _ T235 (mkF m 149 #[.val (.int p1), .val (.int p2), .val (.int p3), .val (.int p4), .val (.int p5), .val (.int (3 : Int32)), .val (.int (0 : Int32)), .val (.int y0), .val (.int y1), .val (.int y2), .val (.ref b219), .val (.ref b227), .val (.int (3 : Int32)), .val (.ref x232), .unset] [(.ref x235)])
    refine own_goW (fun t k => XS.astore X235.here hx rfl (hb hby at_149) rfl rfl (l' := #[.val (.int p1), .val (.int p2), .val (.int p3), .val (.int p4), .val (.int p5), .val (.int (3 : Int32)), .val (.int (0 : Int32)), .val (.int y0), .val (.int y1), .val (.int y2), .val (.ref b219), .val (.ref b227), .val (.int (3 : Int32)), .val (.ref x232), .val (.ref x235)]) rfl k) ?_
    show own_EndW _ _ _ _ _ _ _ T235 (mkF m 151 #[.val (.int p1), .val (.int p2), .val (.int p3), .val (.int p4), .val (.int p5), .val (.int (3 : Int32)), .val (.int (0 : Int32)), .val (.int y0), .val (.int y1), .val (.int y2), .val (.ref b219), .val (.ref b227), .val (.int (3 : Int32)), .val (.ref x232), .val (.ref x235)] [])
    refine own_goW (fun t k => XS.aload X235.here hx rfl (hb hby at_151) rfl rfl k) ?_
    show own_EndW _ _ _ _ _ _ _ T235 (mkF m 153 #[.val (.int p1), .val (.int p2), .val (.int p3), .val (.int p4), .val (.int p5), .val (.int (3 : Int32)), .val (.int (0 : Int32)), .val (.int y0), .val (.int y1), .val (.int y2), .val (.ref b219), .val (.ref b227), .val (.int (3 : Int32)), .val (.ref x232), .val (.ref x235)] [(.ref x235)])
    refine own_goW (fun t k => XS.iload X235.here hx rfl (hb hby at_153) rfl k) ?_
    show own_EndW _ _ _ _ _ _ _ T235 (mkF m 155 #[.val (.int p1), .val (.int p2), .val (.int p3), .val (.int p4), .val (.int p5), .val (.int (3 : Int32)), .val (.int (0 : Int32)), .val (.int y0), .val (.int y1), .val (.int y2), .val (.ref b219), .val (.ref b227), .val (.int (3 : Int32)), .val (.ref x232), .val (.ref x235)] [(.int (3 : Int32)), (.ref x235)])
    refine own_goW (fun t k => XS.iload X235.here hx rfl (hb hby at_155) rfl k) ?_
    show own_EndW _ _ _ _ _ _ _ T235 (mkF m 157 #[.val (.int p1), .val (.int p2), .val (.int p3), .val (.int p4), .val (.int p5), .val (.int (3 : Int32)), .val (.int (0 : Int32)), .val (.int y0), .val (.int y1), .val (.int y2), .val (.ref b219), .val (.ref b227), .val (.int (3 : Int32)), .val (.ref x232), .val (.ref x235)] [(.int y0), (.int (3 : Int32)), (.ref x235)])
    refine own_goW (fun t k => XS.iload X235.here hx rfl (hb hby at_157) rfl k) ?_
    show own_EndW _ _ _ _ _ _ _ T235 (mkF m 159 #[.val (.int p1), .val (.int p2), .val (.int p3), .val (.int p4), .val (.int p5), .val (.int (3 : Int32)), .val (.int (0 : Int32)), .val (.int y0), .val (.int y1), .val (.int y2), .val (.ref b219), .val (.ref b227), .val (.int (3 : Int32)), .val (.ref x232), .val (.ref x235)] [(.int y1), (.int y0), (.int (3 : Int32)), (.ref x235)])
    refine own_goW (fun t k => XS.iload X235.here hx rfl (hb hby at_159) rfl k) ?_
    show own_EndW _ _ _ _ _ _ _ T235 (mkF m 161 #[.val (.int p1), .val (.int p2), .val (.int p3), .val (.int p4), .val (.int p5), .val (.int (3 : Int32)), .val (.int (0 : Int32)), .val (.int y0), .val (.int y1), .val (.int y2), .val (.ref b219), .val (.ref b227), .val (.int (3 : Int32)), .val (.ref x232), .val (.ref x235)] [(.int y2), (.int y1), (.int y0), (.int (3 : Int32)), (.ref x235)])
    obtain ⟨v236, T236, L236, X236, hQ236, st236⟩ := own_callS (y := (⟨"com/example/coxswain/coxswain/wire/StatusDetailsPinLaw", "same", "([BIBBB)Z"⟩ : MethodName)) X235 hx hZ hown (hw _ (List.mem_of_getElem? (i := 47) rfl)) (hw _ (List.mem_of_getElem? (i := 48) rfl)) (hw _ (List.mem_of_getElem? (i := 49) rfl)) (by decide) (hw _ (List.mem_of_getElem? (i := 40) rfl)) (rmM3 l Z a0 hw [] x235 y0 y1 y2 k219 T235.heap n0 (Nat.le_trans (Nat.le_trans (Nat.le_trans (Nat.le_trans (Nat.le_trans (Nat.le_trans (Nat.le_trans (Nat.le_trans (Nat.le_trans (Nat.le_trans Z0 E219.1) (Keep.of_wr W221).1) (Keep.of_wr W223).1) (Keep.of_wr W225).1) E227.1) Kc230.1) Kc231.1) Kc232.1) Kc234.1) Kc235.1) Vx235) rfl (W := 0) (by decide) (by decide) (g := (mkF m 161 #[.val (.int p1), .val (.int p2), .val (.int p3), .val (.int p4), .val (.int p5), .val (.int (3 : Int32)), .val (.int (0 : Int32)), .val (.int y0), .val (.int y1), .val (.int y2), .val (.ref b219), .val (.ref b227), .val (.int (3 : Int32)), .val (.ref x232), .val (.ref x235)] [(.int y2), (.int y1), (.int y0), (.int (3 : Int32)), (.ref x235)])) rfl (by rw [hml]; rfl) (argsL := [(.ref x235), (.int (3 : Int32)), (.int y0), (.int y1), (.int y2)]) (rest := []) rfl (lenOf pd___BIBBB_Z rfl) rfl (by show 2 * 0 + _ ≤ _; exact Nat.le_of_eq rfl) (hb hby at_161) (by decide) (by decide)
    obtain ⟨rfl, N236q, e236⟩ := hQ236
    have N236 := Fr.app N235 N236q
    refine own_goW st236 ?_
    show own_EndW _ _ _ _ _ _ _ T236 (mkF m 164 #[.val (.int p1), .val (.int p2), .val (.int p3), .val (.int p4), .val (.int p5), .val (.int (3 : Int32)), .val (.int (0 : Int32)), .val (.int y0), .val (.int y1), .val (.int y2), .val (.ref b219), .val (.ref b227), .val (.int (3 : Int32)), .val (.ref x232), .val (.ref x235)] [(.int (1 : Int32))])
    exact own_retWW X236 hS230 (by rw [e236]; exact (Nat.le_trans (Nat.le_trans (Nat.le_trans (Nat.le_trans (Nat.le_refl T230.heap.size) Kc231.1) Kc232.1) Kc234.1) Kc235.1)) hx Bd.returns Bd.notSynchronized rfl (Or.inl ⟨rfl, by simp, _, rfl⟩) (hb hby at_164) ⟨rfl, N236⟩ (by decide) (by decide)
  · refine own_goW (fun t k => XS.ifNo X0.here hx rfl (hb hby at_8) rfl ((if0 _ _).trans (feq hc8).1) k) ?_
    show own_EndW _ _ _ _ _ _ _ s₁ (mkF m 11 #[.val (.int p1), .val (.int p2), .val (.int p3), .val (.int p4), .val (.int p5), .val (.int (3 : Int32)), .unset, .unset, .unset, .unset, .unset, .unset, .unset, .unset, .unset] [])
    refine own_goW (fun t k => XS.iconst X0.here hx rfl (hb hby at_11) k) ?_
    show own_EndW _ _ _ _ _ _ _ s₁ (mkF m 12 #[.val (.int p1), .val (.int p2), .val (.int p3), .val (.int p4), .val (.int p5), .val (.int (3 : Int32)), .unset, .unset, .unset, .unset, .unset, .unset, .unset, .unset, .unset] [(.int (1 : Int32))])
    refine own_goW (fun t k => XS.goto X0.here hx rfl (pc0 := 12) (pc' := 16) rfl (hb hby at_12) (by decide) (by decide) k) ?_
    show own_EndW _ _ _ _ _ _ _ s₁ (mkF m 16 #[.val (.int p1), .val (.int p2), .val (.int p3), .val (.int p4), .val (.int p5), .val (.int (3 : Int32)), .unset, .unset, .unset, .unset, .unset, .unset, .unset, .unset, .unset] [(.int (1 : Int32))])
    refine own_goW (fun t k => XS.istore X0.here hx rfl (hb hby at_16) rfl (l' := #[.val (.int p1), .val (.int p2), .val (.int p3), .val (.int p4), .val (.int p5), .val (.int (3 : Int32)), .val (.int (1 : Int32)), .unset, .unset, .unset, .unset, .unset, .unset, .unset, .unset]) rfl k) ?_
    show own_EndW _ _ _ _ _ _ _ s₁ (mkF m 18 #[.val (.int p1), .val (.int p2), .val (.int p3), .val (.int p4), .val (.int p5), .val (.int (3 : Int32)), .val (.int (1 : Int32)), .unset, .unset, .unset, .unset, .unset, .unset, .unset, .unset] [])
    refine own_goW (fun t k => XS.iloadN X0.here hx rfl (hb hby at_18) rfl k) ?_
    show own_EndW _ _ _ _ _ _ _ s₁ (mkF m 19 #[.val (.int p1), .val (.int p2), .val (.int p3), .val (.int p4), .val (.int p5), .val (.int (3 : Int32)), .val (.int (1 : Int32)), .unset, .unset, .unset, .unset, .unset, .unset, .unset, .unset] [(.int p3)])
    refine own_goW (fun t k => XS.i2b X0.here hx rfl (hb hby at_19) rfl k) ?_
    show own_EndW _ _ _ _ _ _ _ s₁ (mkF m 20 #[.val (.int p1), .val (.int p2), .val (.int p3), .val (.int p4), .val (.int p5), .val (.int (3 : Int32)), .val (.int (1 : Int32)), .unset, .unset, .unset, .unset, .unset, .unset, .unset, .unset] [(.int (p3.toInt8.toInt32))])
    rw [he0]
    refine own_goW (fun t k => XS.istore X0.here hx rfl (hb hby at_20) rfl (l' := #[.val (.int p1), .val (.int p2), .val (.int p3), .val (.int p4), .val (.int p5), .val (.int (3 : Int32)), .val (.int (1 : Int32)), .val (.int y0), .unset, .unset, .unset, .unset, .unset, .unset, .unset]) rfl k) ?_
    show own_EndW _ _ _ _ _ _ _ s₁ (mkF m 22 #[.val (.int p1), .val (.int p2), .val (.int p3), .val (.int p4), .val (.int p5), .val (.int (3 : Int32)), .val (.int (1 : Int32)), .val (.int y0), .unset, .unset, .unset, .unset, .unset, .unset, .unset] [])
    refine own_goW (fun t k => XS.iloadN X0.here hx rfl (hb hby at_22) rfl k) ?_
    show own_EndW _ _ _ _ _ _ _ s₁ (mkF m 23 #[.val (.int p1), .val (.int p2), .val (.int p3), .val (.int p4), .val (.int p5), .val (.int (3 : Int32)), .val (.int (1 : Int32)), .val (.int y0), .unset, .unset, .unset, .unset, .unset, .unset, .unset] [(.int p4)])
    refine own_goW (fun t k => XS.i2b X0.here hx rfl (hb hby at_23) rfl k) ?_
    show own_EndW _ _ _ _ _ _ _ s₁ (mkF m 24 #[.val (.int p1), .val (.int p2), .val (.int p3), .val (.int p4), .val (.int p5), .val (.int (3 : Int32)), .val (.int (1 : Int32)), .val (.int y0), .unset, .unset, .unset, .unset, .unset, .unset, .unset] [(.int (p4.toInt8.toInt32))])
    rw [he1]
    refine own_goW (fun t k => XS.istore X0.here hx rfl (hb hby at_24) rfl (l' := #[.val (.int p1), .val (.int p2), .val (.int p3), .val (.int p4), .val (.int p5), .val (.int (3 : Int32)), .val (.int (1 : Int32)), .val (.int y0), .val (.int y1), .unset, .unset, .unset, .unset, .unset, .unset]) rfl k) ?_
    show own_EndW _ _ _ _ _ _ _ s₁ (mkF m 26 #[.val (.int p1), .val (.int p2), .val (.int p3), .val (.int p4), .val (.int p5), .val (.int (3 : Int32)), .val (.int (1 : Int32)), .val (.int y0), .val (.int y1), .unset, .unset, .unset, .unset, .unset, .unset] [])
    refine own_goW (fun t k => XS.iload X0.here hx rfl (hb hby at_26) rfl k) ?_
    show own_EndW _ _ _ _ _ _ _ s₁ (mkF m 28 #[.val (.int p1), .val (.int p2), .val (.int p3), .val (.int p4), .val (.int p5), .val (.int (3 : Int32)), .val (.int (1 : Int32)), .val (.int y0), .val (.int y1), .unset, .unset, .unset, .unset, .unset, .unset] [(.int p5)])
    refine own_goW (fun t k => XS.i2b X0.here hx rfl (hb hby at_28) rfl k) ?_
    show own_EndW _ _ _ _ _ _ _ s₁ (mkF m 29 #[.val (.int p1), .val (.int p2), .val (.int p3), .val (.int p4), .val (.int p5), .val (.int (3 : Int32)), .val (.int (1 : Int32)), .val (.int y0), .val (.int y1), .unset, .unset, .unset, .unset, .unset, .unset] [(.int (p5.toInt8.toInt32))])
    rw [he2]
    refine own_goW (fun t k => XS.istore X0.here hx rfl (hb hby at_29) rfl (l' := #[.val (.int p1), .val (.int p2), .val (.int p3), .val (.int p4), .val (.int p5), .val (.int (3 : Int32)), .val (.int (1 : Int32)), .val (.int y0), .val (.int y1), .val (.int y2), .unset, .unset, .unset, .unset, .unset]) rfl k) ?_
    show own_EndW _ _ _ _ _ _ _ s₁ (mkF m 31 #[.val (.int p1), .val (.int p2), .val (.int p3), .val (.int p4), .val (.int p5), .val (.int (3 : Int32)), .val (.int (1 : Int32)), .val (.int y0), .val (.int y1), .val (.int y2), .unset, .unset, .unset, .unset, .unset] [])
    refine own_goW (fun t k => XS.iload X0.here hx rfl (hb hby at_31) rfl k) ?_
    show own_EndW _ _ _ _ _ _ _ s₁ (mkF m 33 #[.val (.int p1), .val (.int p2), .val (.int p3), .val (.int p4), .val (.int p5), .val (.int (3 : Int32)), .val (.int (1 : Int32)), .val (.int y0), .val (.int y1), .val (.int y2), .unset, .unset, .unset, .unset, .unset] [(.int (3 : Int32))])
    obtain ⟨T237, h237, k237, X237, e237, E237, A237, B237, st237⟩ := newPE X0 hx hZ (hw _ (List.mem_of_getElem? (i := 0) rfl)) e0 (g := (mkF m 33 #[.val (.int p1), .val (.int p2), .val (.int p3), .val (.int p4), .val (.int p5), .val (.int (3 : Int32)), .val (.int (1 : Int32)), .val (.int y0), .val (.int y1), .val (.int y2), .unset, .unset, .unset, .unset, .unset] [(.int (3 : Int32))])) rfl (hb hby at_33) rfl (by decide) (cap := 3) (by decide) (by decide) (by decide) (by decide) (ad := "[B") (by decide)
    obtain ⟨b237, g237⟩ : ∃ z, z = h0.size := ⟨_, rfl⟩
    rw [← g237] at A237 B237 st237
    have g_b237 : n0 ≤ b237 := Nat.le_trans Z0 (Nat.le_of_eq g237.symm)
    have sz_b237 : h0.size ≤ b237 := Nat.le_trans (Keep.refl h0 []).1 (Nat.le_of_eq g237.symm)
    have V237 : Arv Z h237 b237 k237 .byte (3 : Int32) [(.int (0 : Int32)), (.int (0 : Int32)), (.int (0 : Int32))] (.int (0 : Int32)) := (Arv.new A237 (by decide)).pad (pad_rep [] (.int (0 : Int32)) 3)
    have K238 : Keep h0 h237 [] := (Keep.refl h0 []).ext E237
    refine own_goW st237 ?_
    show own_EndW _ _ _ _ _ _ _ T237 (mkF m 35 #[.val (.int p1), .val (.int p2), .val (.int p3), .val (.int p4), .val (.int p5), .val (.int (3 : Int32)), .val (.int (1 : Int32)), .val (.int y0), .val (.int y1), .val (.int y2), .unset, .unset, .unset, .unset, .unset] [(.ref b237)])
    refine own_goW (fun t k => XS.astore X237.here hx rfl (hb hby at_35) rfl rfl (l' := #[.val (.int p1), .val (.int p2), .val (.int p3), .val (.int p4), .val (.int p5), .val (.int (3 : Int32)), .val (.int (1 : Int32)), .val (.int y0), .val (.int y1), .val (.int y2), .val (.ref b237), .unset, .unset, .unset, .unset]) rfl k) ?_
    show own_EndW _ _ _ _ _ _ _ T237 (mkF m 37 #[.val (.int p1), .val (.int p2), .val (.int p3), .val (.int p4), .val (.int p5), .val (.int (3 : Int32)), .val (.int (1 : Int32)), .val (.int y0), .val (.int y1), .val (.int y2), .val (.ref b237), .unset, .unset, .unset, .unset] [])
    refine own_goW (fun t k => XS.iload X237.here hx rfl (hb hby at_37) rfl k) ?_
    show own_EndW _ _ _ _ _ _ _ T237 (mkF m 39 #[.val (.int p1), .val (.int p2), .val (.int p3), .val (.int p4), .val (.int p5), .val (.int (3 : Int32)), .val (.int (1 : Int32)), .val (.int y0), .val (.int y1), .val (.int y2), .val (.ref b237), .unset, .unset, .unset, .unset] [(.int (3 : Int32))])
    refine own_goW (fun t k => XS.ifNo X237.here hx rfl (hb hby at_39) rfl ((if0 _ _).trans (tlt (by decide : (0 : Int32) < (3 : Int32))).2.2.2) k) ?_
    show own_EndW _ _ _ _ _ _ _ T237 (mkF m 42 #[.val (.int p1), .val (.int p2), .val (.int p3), .val (.int p4), .val (.int p5), .val (.int (3 : Int32)), .val (.int (1 : Int32)), .val (.int y0), .val (.int y1), .val (.int y2), .val (.ref b237), .unset, .unset, .unset, .unset] [])
    refine own_goW (fun t k => XS.aload X237.here hx rfl (hb hby at_42) rfl rfl k) ?_
    show own_EndW _ _ _ _ _ _ _ T237 (mkF m 44 #[.val (.int p1), .val (.int p2), .val (.int p3), .val (.int p4), .val (.int p5), .val (.int (3 : Int32)), .val (.int (1 : Int32)), .val (.int y0), .val (.int y1), .val (.int y2), .val (.ref b237), .unset, .unset, .unset, .unset] [(.ref b237)])
    refine own_goW (fun t k => XS.iconst X237.here hx rfl (hb hby at_44) k) ?_
    show own_EndW _ _ _ _ _ _ _ T237 (mkF m 45 #[.val (.int p1), .val (.int p2), .val (.int p3), .val (.int p4), .val (.int p5), .val (.int (3 : Int32)), .val (.int (1 : Int32)), .val (.int y0), .val (.int y1), .val (.int y2), .val (.ref b237), .unset, .unset, .unset, .unset] [(.int (0 : Int32)), (.ref b237)])
    refine own_goW (fun t k => XS.iload X237.here hx rfl (hb hby at_45) rfl k) ?_
    show own_EndW _ _ _ _ _ _ _ T237 (mkF m 47 #[.val (.int p1), .val (.int p2), .val (.int p3), .val (.int p4), .val (.int p5), .val (.int (3 : Int32)), .val (.int (1 : Int32)), .val (.int y0), .val (.int y1), .val (.int y2), .val (.ref b237), .unset, .unset, .unset, .unset] [(.int y0), (.int (0 : Int32)), (.ref b237)])
    obtain ⟨cl239, Ar239, q239, S239, M239, H239, G239⟩ := id V237
    obtain ⟨T239, h239, X239, e239, W239, st239⟩ := stB X237 hx hZ e237 Ar239 (j := (0 : Int32)) (inb_of S239 ⟨by decide, by decide⟩) (g := (mkF m 47 #[.val (.int p1), .val (.int p2), .val (.int p3), .val (.int p4), .val (.int p5), .val (.int (3 : Int32)), .val (.int (1 : Int32)), .val (.int y0), .val (.int y1), .val (.int y2), .val (.ref b237), .unset, .unset, .unset, .unset] [(.int y0), (.int (0 : Int32)), (.ref b237)])) rfl rfl (hb hby at_47)
    have Vs239 := Arv.set Ar239 q239 S239 M239 H239 G239 (fits_nar_byte _) W239 0 rfl (Nat.le_of_ble_eq_true rfl)
    rw [hb0] at Vs239
    have V239v : Arv Z h239 b237 k237 .byte (3 : Int32) [(.int y0), (.int (0 : Int32)), (.int (0 : Int32))] (.int (0 : Int32)) := Vs239
    have K240 : Keep h0 h239 [] := K238.wr W239 (Or.inr sz_b237)
    have N239 := Fr.snoc X239 N0 g_b237
    refine own_goW st239 ?_
    show own_EndW _ _ _ _ _ _ _ T239 (mkF m 48 #[.val (.int p1), .val (.int p2), .val (.int p3), .val (.int p4), .val (.int p5), .val (.int (3 : Int32)), .val (.int (1 : Int32)), .val (.int y0), .val (.int y1), .val (.int y2), .val (.ref b237), .unset, .unset, .unset, .unset] [])
    refine own_goW (fun t k => XS.iload X239.here hx rfl (hb hby at_48) rfl k) ?_
    show own_EndW _ _ _ _ _ _ _ T239 (mkF m 50 #[.val (.int p1), .val (.int p2), .val (.int p3), .val (.int p4), .val (.int p5), .val (.int (3 : Int32)), .val (.int (1 : Int32)), .val (.int y0), .val (.int y1), .val (.int y2), .val (.ref b237), .unset, .unset, .unset, .unset] [(.int (3 : Int32))])
    refine own_goW (fun t k => XS.iconst X239.here hx rfl (hb hby at_50) k) ?_
    show own_EndW _ _ _ _ _ _ _ T239 (mkF m 51 #[.val (.int p1), .val (.int p2), .val (.int p3), .val (.int p4), .val (.int p5), .val (.int (3 : Int32)), .val (.int (1 : Int32)), .val (.int y0), .val (.int y1), .val (.int y2), .val (.ref b237), .unset, .unset, .unset, .unset] [(.int (1 : Int32)), (.int (3 : Int32))])
    refine own_goW (fun t k => XS.icmpNo X239.here hx rfl (hb hby at_51) rfl (tlt (by decide : (1 : Int32) < (3 : Int32))).2.2.2 k) ?_
    show own_EndW _ _ _ _ _ _ _ T239 (mkF m 54 #[.val (.int p1), .val (.int p2), .val (.int p3), .val (.int p4), .val (.int p5), .val (.int (3 : Int32)), .val (.int (1 : Int32)), .val (.int y0), .val (.int y1), .val (.int y2), .val (.ref b237), .unset, .unset, .unset, .unset] [])
    refine own_goW (fun t k => XS.aload X239.here hx rfl (hb hby at_54) rfl rfl k) ?_
    show own_EndW _ _ _ _ _ _ _ T239 (mkF m 56 #[.val (.int p1), .val (.int p2), .val (.int p3), .val (.int p4), .val (.int p5), .val (.int (3 : Int32)), .val (.int (1 : Int32)), .val (.int y0), .val (.int y1), .val (.int y2), .val (.ref b237), .unset, .unset, .unset, .unset] [(.ref b237)])
    refine own_goW (fun t k => XS.iconst X239.here hx rfl (hb hby at_56) k) ?_
    show own_EndW _ _ _ _ _ _ _ T239 (mkF m 57 #[.val (.int p1), .val (.int p2), .val (.int p3), .val (.int p4), .val (.int p5), .val (.int (3 : Int32)), .val (.int (1 : Int32)), .val (.int y0), .val (.int y1), .val (.int y2), .val (.ref b237), .unset, .unset, .unset, .unset] [(.int (1 : Int32)), (.ref b237)])
    refine own_goW (fun t k => XS.iload X239.here hx rfl (hb hby at_57) rfl k) ?_
    show own_EndW _ _ _ _ _ _ _ T239 (mkF m 59 #[.val (.int p1), .val (.int p2), .val (.int p3), .val (.int p4), .val (.int p5), .val (.int (3 : Int32)), .val (.int (1 : Int32)), .val (.int y0), .val (.int y1), .val (.int y2), .val (.ref b237), .unset, .unset, .unset, .unset] [(.int y1), (.int (1 : Int32)), (.ref b237)])
    obtain ⟨cl241, Ar241, q241, S241, M241, H241, G241⟩ := id V239v
    obtain ⟨T241, h241, X241, e241, W241, st241⟩ := stB X239 hx hZ e239 Ar241 (j := (1 : Int32)) (inb_of S241 ⟨by decide, by decide⟩) (g := (mkF m 59 #[.val (.int p1), .val (.int p2), .val (.int p3), .val (.int p4), .val (.int p5), .val (.int (3 : Int32)), .val (.int (1 : Int32)), .val (.int y0), .val (.int y1), .val (.int y2), .val (.ref b237), .unset, .unset, .unset, .unset] [(.int y1), (.int (1 : Int32)), (.ref b237)])) rfl rfl (hb hby at_59)
    have Vs241 := Arv.set Ar241 q241 S241 M241 H241 G241 (fits_nar_byte _) W241 1 rfl (Nat.le_of_ble_eq_true rfl)
    rw [hb1] at Vs241
    have V241v : Arv Z h241 b237 k237 .byte (3 : Int32) [(.int y0), (.int y1), (.int (0 : Int32))] (.int (0 : Int32)) := Vs241
    have K242 : Keep h0 h241 [] := K240.wr W241 (Or.inr sz_b237)
    have N241 := Fr.snoc X241 N239 g_b237
    refine own_goW st241 ?_
    show own_EndW _ _ _ _ _ _ _ T241 (mkF m 60 #[.val (.int p1), .val (.int p2), .val (.int p3), .val (.int p4), .val (.int p5), .val (.int (3 : Int32)), .val (.int (1 : Int32)), .val (.int y0), .val (.int y1), .val (.int y2), .val (.ref b237), .unset, .unset, .unset, .unset] [])
    refine own_goW (fun t k => XS.iload X241.here hx rfl (hb hby at_60) rfl k) ?_
    show own_EndW _ _ _ _ _ _ _ T241 (mkF m 62 #[.val (.int p1), .val (.int p2), .val (.int p3), .val (.int p4), .val (.int p5), .val (.int (3 : Int32)), .val (.int (1 : Int32)), .val (.int y0), .val (.int y1), .val (.int y2), .val (.ref b237), .unset, .unset, .unset, .unset] [(.int (3 : Int32))])
    refine own_goW (fun t k => XS.iconst X241.here hx rfl (hb hby at_62) k) ?_
    show own_EndW _ _ _ _ _ _ _ T241 (mkF m 63 #[.val (.int p1), .val (.int p2), .val (.int p3), .val (.int p4), .val (.int p5), .val (.int (3 : Int32)), .val (.int (1 : Int32)), .val (.int y0), .val (.int y1), .val (.int y2), .val (.ref b237), .unset, .unset, .unset, .unset] [(.int (2 : Int32)), (.int (3 : Int32))])
    refine own_goW (fun t k => XS.icmpNo X241.here hx rfl (hb hby at_63) rfl (tlt (by decide : (2 : Int32) < (3 : Int32))).2.2.2 k) ?_
    show own_EndW _ _ _ _ _ _ _ T241 (mkF m 66 #[.val (.int p1), .val (.int p2), .val (.int p3), .val (.int p4), .val (.int p5), .val (.int (3 : Int32)), .val (.int (1 : Int32)), .val (.int y0), .val (.int y1), .val (.int y2), .val (.ref b237), .unset, .unset, .unset, .unset] [])
    refine own_goW (fun t k => XS.aload X241.here hx rfl (hb hby at_66) rfl rfl k) ?_
    show own_EndW _ _ _ _ _ _ _ T241 (mkF m 68 #[.val (.int p1), .val (.int p2), .val (.int p3), .val (.int p4), .val (.int p5), .val (.int (3 : Int32)), .val (.int (1 : Int32)), .val (.int y0), .val (.int y1), .val (.int y2), .val (.ref b237), .unset, .unset, .unset, .unset] [(.ref b237)])
    refine own_goW (fun t k => XS.iconst X241.here hx rfl (hb hby at_68) k) ?_
    show own_EndW _ _ _ _ _ _ _ T241 (mkF m 69 #[.val (.int p1), .val (.int p2), .val (.int p3), .val (.int p4), .val (.int p5), .val (.int (3 : Int32)), .val (.int (1 : Int32)), .val (.int y0), .val (.int y1), .val (.int y2), .val (.ref b237), .unset, .unset, .unset, .unset] [(.int (2 : Int32)), (.ref b237)])
    refine own_goW (fun t k => XS.iload X241.here hx rfl (hb hby at_69) rfl k) ?_
    show own_EndW _ _ _ _ _ _ _ T241 (mkF m 71 #[.val (.int p1), .val (.int p2), .val (.int p3), .val (.int p4), .val (.int p5), .val (.int (3 : Int32)), .val (.int (1 : Int32)), .val (.int y0), .val (.int y1), .val (.int y2), .val (.ref b237), .unset, .unset, .unset, .unset] [(.int y2), (.int (2 : Int32)), (.ref b237)])
    obtain ⟨cl243, Ar243, q243, S243, M243, H243, G243⟩ := id V241v
    obtain ⟨T243, h243, X243, e243, W243, st243⟩ := stB X241 hx hZ e241 Ar243 (j := (2 : Int32)) (inb_of S243 ⟨by decide, by decide⟩) (g := (mkF m 71 #[.val (.int p1), .val (.int p2), .val (.int p3), .val (.int p4), .val (.int p5), .val (.int (3 : Int32)), .val (.int (1 : Int32)), .val (.int y0), .val (.int y1), .val (.int y2), .val (.ref b237), .unset, .unset, .unset, .unset] [(.int y2), (.int (2 : Int32)), (.ref b237)])) rfl rfl (hb hby at_71)
    have Vs243 := Arv.set Ar243 q243 S243 M243 H243 G243 (fits_nar_byte _) W243 2 rfl (Nat.le_of_ble_eq_true rfl)
    rw [hb2] at Vs243
    have V243v : Arv Z h243 b237 k237 .byte (3 : Int32) [(.int y0), (.int y1), (.int y2)] (.int (0 : Int32)) := Vs243
    have K244 : Keep h0 h243 [] := K242.wr W243 (Or.inr sz_b237)
    have N243 := Fr.snoc X243 N241 g_b237
    refine own_goW st243 ?_
    show own_EndW _ _ _ _ _ _ _ T243 (mkF m 72 #[.val (.int p1), .val (.int p2), .val (.int p3), .val (.int p4), .val (.int p5), .val (.int (3 : Int32)), .val (.int (1 : Int32)), .val (.int y0), .val (.int y1), .val (.int y2), .val (.ref b237), .unset, .unset, .unset, .unset] [])
    obtain ⟨T245, h245, X245, e245, E245, A245, D245, -, st245⟩ := newO X243 hx hZ hown (hw _ (List.mem_of_getElem? (i := 1) rfl)) (hw _ (List.mem_of_getElem? (i := 2) rfl)) (hw _ (List.mem_of_getElem? (i := 3) rfl)) e243 (g := (mkF m 72 #[.val (.int p1), .val (.int p2), .val (.int p3), .val (.int p4), .val (.int p5), .val (.int (3 : Int32)), .val (.int (1 : Int32)), .val (.int y0), .val (.int y1), .val (.int y2), .val (.ref b237), .unset, .unset, .unset, .unset] [])) rfl (hb hby at_72) (by decide) (by decide)
    obtain ⟨b245, g245⟩ : ∃ z, z = h243.size := ⟨_, rfl⟩
    rw [← g245] at A245 D245 st245
    have ne_b237_b245 : b237 ≠ b245 := Nat.ne_of_lt (Nat.lt_of_lt_of_le V243v.lt (Nat.le_of_eq g245.symm))
    have g_b245 : n0 ≤ b245 := Nat.le_trans (Nat.le_trans (Nat.le_trans (Nat.le_trans (Nat.le_trans Z0 E237.1) (Keep.of_wr W239).1) (Keep.of_wr W241).1) (Keep.of_wr W243).1) (Nat.le_of_eq g245.symm)
    have sz_b245 : h0.size ≤ b245 := Nat.le_trans K244.1 (Nat.le_of_eq g245.symm)
    have F245_code : Fld Z h245 b245 "com/example/coxswain/coxswain/wire/Status" "code" "Lcom/example/coxswain/coxswain/wire/StatusCode;" .null := D245 (Or.inr (hw _ (List.mem_of_getElem? (i := 33) rfl))) (ty := (.object "com/example/coxswain/coxswain/wire/StatusCode")) (by decide)
    have F245_description : Fld Z h245 b245 "com/example/coxswain/coxswain/wire/Status" "description" "Ljava/lang/String;" .null := D245 (Or.inr (hw _ (List.mem_of_getElem? (i := 35) rfl))) (ty := (.object "java/lang/String")) (by decide)
    have F245_details : Fld Z h245 b245 "com/example/coxswain/coxswain/wire/Status" "details" "[B" .null := D245 (Or.inr (hw _ (List.mem_of_getElem? (i := 37) rfl))) (ty := (.array .byte)) (by decide)
    have K246 : Keep h0 h245 [] := K244.ext E245
    refine own_goW st245 ?_
    show own_EndW _ _ _ _ _ _ _ T245 (mkF m 75 #[.val (.int p1), .val (.int p2), .val (.int p3), .val (.int p4), .val (.int p5), .val (.int (3 : Int32)), .val (.int (1 : Int32)), .val (.int y0), .val (.int y1), .val (.int y2), .val (.ref b237), .unset, .unset, .unset, .unset] [(.ref b245)])
    refine own_goW (fun t k => XS.dup X245.here hx rfl (hb hby at_75) rfl rfl k) ?_
    show own_EndW _ _ _ _ _ _ _ T245 (mkF m 76 #[.val (.int p1), .val (.int p2), .val (.int p3), .val (.int p4), .val (.int p5), .val (.int (3 : Int32)), .val (.int (1 : Int32)), .val (.int y0), .val (.int y1), .val (.int y2), .val (.ref b237), .unset, .unset, .unset, .unset] [(.ref b245), (.ref b245)])
    obtain ⟨T247, X247, e247, st247⟩ := getS2 X245 hx hZ hown (host := "") (Or.inl (hw _ (List.mem_of_getElem? (i := 4) rfl))) Via.refl e245 (own_StaK SU K246) (g := (mkF m 76 #[.val (.int p1), .val (.int p2), .val (.int p3), .val (.int p4), .val (.int p5), .val (.int (3 : Int32)), .val (.int (1 : Int32)), .val (.int y0), .val (.int y1), .val (.int y2), .val (.ref b237), .unset, .unset, .unset, .unset] [(.ref b245), (.ref b245)])) rfl (hb hby at_76)
    refine own_goW st247 ?_
    show own_EndW _ _ _ _ _ _ _ T247 (mkF m 79 #[.val (.int p1), .val (.int p2), .val (.int p3), .val (.int p4), .val (.int p5), .val (.int (3 : Int32)), .val (.int (1 : Int32)), .val (.int y0), .val (.int y1), .val (.int y2), .val (.ref b237), .unset, .unset, .unset, .unset] [(.ref wU), (.ref b245), (.ref b245)])
    refine own_goW (fun t k => XS.aconstNull X247.here hx rfl (hb hby at_79) k) ?_
    show own_EndW _ _ _ _ _ _ _ T247 (mkF m 80 #[.val (.int p1), .val (.int p2), .val (.int p3), .val (.int p4), .val (.int p5), .val (.int (3 : Int32)), .val (.int (1 : Int32)), .val (.int y0), .val (.int y1), .val (.int y2), .val (.ref b237), .unset, .unset, .unset, .unset] [.null, (.ref wU), (.ref b245), (.ref b245)])
    refine own_goW (fun t k => XS.iload X247.here hx rfl (hb hby at_80) rfl k) ?_
    show own_EndW _ _ _ _ _ _ _ T247 (mkF m 82 #[.val (.int p1), .val (.int p2), .val (.int p3), .val (.int p4), .val (.int p5), .val (.int (3 : Int32)), .val (.int (1 : Int32)), .val (.int y0), .val (.int y1), .val (.int y2), .val (.ref b237), .unset, .unset, .unset, .unset] [(.int (1 : Int32)), .null, (.ref wU), (.ref b245), (.ref b245)])
    refine own_goW (fun t k => XS.ifNo X247.here hx rfl (hb hby at_82) rfl ((if0 _ _).trans (feq (by decide : ¬ ((1 : Int32) = (0 : Int32)))).1) k) ?_
    show own_EndW _ _ _ _ _ _ _ T247 (mkF m 85 #[.val (.int p1), .val (.int p2), .val (.int p3), .val (.int p4), .val (.int p5), .val (.int (3 : Int32)), .val (.int (1 : Int32)), .val (.int y0), .val (.int y1), .val (.int y2), .val (.ref b237), .unset, .unset, .unset, .unset] [.null, (.ref wU), (.ref b245), (.ref b245)])
    refine own_goW (fun t k => XS.aconstNull X247.here hx rfl (hb hby at_85) k) ?_
    show own_EndW _ _ _ _ _ _ _ T247 (mkF m 86 #[.val (.int p1), .val (.int p2), .val (.int p3), .val (.int p4), .val (.int p5), .val (.int (3 : Int32)), .val (.int (1 : Int32)), .val (.int y0), .val (.int y1), .val (.int y2), .val (.ref b237), .unset, .unset, .unset, .unset] [.null, .null, (.ref wU), (.ref b245), (.ref b245)])
    refine own_goW (fun t k => XS.goto X247.here hx rfl (pc0 := 86) (pc' := 91) rfl (hb hby at_86) (by decide) (by decide) k) ?_
    show own_EndW _ _ _ _ _ _ _ T247 (mkF m 91 #[.val (.int p1), .val (.int p2), .val (.int p3), .val (.int p4), .val (.int p5), .val (.int (3 : Int32)), .val (.int (1 : Int32)), .val (.int y0), .val (.int y1), .val (.int y2), .val (.ref b237), .unset, .unset, .unset, .unset] [.null, .null, (.ref wU), (.ref b245), (.ref b245)])
    obtain ⟨v248, T248, L248, X248, hQ248, hS248, hZ, hown, st248⟩ := own_callNW (y := (⟨"com/example/coxswain/coxswain/wire/Status", "<init>", "(Lcom/example/coxswain/coxswain/wire/StatusCode;Ljava/lang/String;[B)V"⟩ : MethodName)) X247 hx hZ hown (hw _ (List.mem_of_getElem? (i := 7) rfl)) (hw _ (List.mem_of_getElem? (i := 8) rfl)) (hw _ (List.mem_of_getElem? (i := 9) rfl)) (by decide) (hw _ (List.mem_of_getElem? (i := 3) rfl)) (rmIN l Z a0 hw [] b245 wU wN h245 n0 (Nat.le_trans (Nat.le_trans (Nat.le_trans (Nat.le_trans (Nat.le_trans Z0 E237.1) (Keep.of_wr W239).1) (Keep.of_wr W241).1) (Keep.of_wr W243).1) E245.1) A245 g_b245 F245_code F245_description F245_details (own_StaK SN K246)) e247 (W := 1) (by decide) (by decide) (g := (mkF m 91 #[.val (.int p1), .val (.int p2), .val (.int p3), .val (.int p4), .val (.int p5), .val (.int (3 : Int32)), .val (.int (1 : Int32)), .val (.int y0), .val (.int y1), .val (.int y2), .val (.ref b237), .unset, .unset, .unset, .unset] [.null, .null, (.ref wU), (.ref b245), (.ref b245)])) rfl (by rw [hml]; rfl) (argsL := [(.ref wU), .null, .null]) (rest := [(.ref b245)]) (a := b245) rfl rfl (lenOf pd__Lcom_example_coxswain_coxswain_wire_StatusCode_Ljava_lang_String__B_V rfl) rfl (by show 2 * 0 + _ ≤ _; exact Nat.le_of_eq rfl) (hb hby at_91) (by decide) (by decide)
    obtain ⟨rfl, N248q, Kc248, Ec248, Fd248⟩ := hQ248
    have N248 := Fr.app N243 N248q
    have K248 : Keep h0 T248.heap [] := K246.trans Kc248 (fun x hx => by cases List.mem_singleton.mp hx; exact Or.inr sz_b245)
    refine own_goW st248 ?_
    show own_EndW _ _ _ _ _ _ _ T248 (mkF m 94 #[.val (.int p1), .val (.int p2), .val (.int p3), .val (.int p4), .val (.int p5), .val (.int (3 : Int32)), .val (.int (1 : Int32)), .val (.int y0), .val (.int y1), .val (.int y2), .val (.ref b237), .unset, .unset, .unset, .unset] [(.ref b245)])
    refine own_goW (fun t k => XS.astore X248.here hx rfl (hb hby at_94) rfl rfl (l' := #[.val (.int p1), .val (.int p2), .val (.int p3), .val (.int p4), .val (.int p5), .val (.int (3 : Int32)), .val (.int (1 : Int32)), .val (.int y0), .val (.int y1), .val (.int y2), .val (.ref b237), .val (.ref b245), .unset, .unset, .unset]) rfl k) ?_
    show own_EndW _ _ _ _ _ _ _ T248 (mkF m 96 #[.val (.int p1), .val (.int p2), .val (.int p3), .val (.int p4), .val (.int p5), .val (.int (3 : Int32)), .val (.int (1 : Int32)), .val (.int y0), .val (.int y1), .val (.int y2), .val (.ref b237), .val (.ref b245), .unset, .unset, .unset] [])
    refine own_goW (fun t k => XS.aload X248.here hx rfl (hb hby at_96) rfl rfl k) ?_
    show own_EndW _ _ _ _ _ _ _ T248 (mkF m 98 #[.val (.int p1), .val (.int p2), .val (.int p3), .val (.int p4), .val (.int p5), .val (.int (3 : Int32)), .val (.int (1 : Int32)), .val (.int y0), .val (.int y1), .val (.int y2), .val (.ref b237), .val (.ref b245), .unset, .unset, .unset] [(.ref b237)])
    obtain ⟨v249, T249, L249, X249, hQ249, st249⟩ := own_callS (y := (⟨"com/example/coxswain/coxswain/wire/StatusDetailsPinLaw", "scramble", "([B)V"⟩ : MethodName)) X248 hx hZ hown (hw _ (List.mem_of_getElem? (i := 38) rfl)) (hw _ (List.mem_of_getElem? (i := 39) rfl)) (hw _ (List.mem_of_getElem? (i := 41) rfl)) (by decide) (hw _ (List.mem_of_getElem? (i := 40) rfl)) (rmS3 l Z a0 hw [] b237 k237 y0 y1 y2 T248.heap n0 (Nat.le_trans (Nat.le_trans (Nat.le_trans (Nat.le_trans (Nat.le_trans (Nat.le_trans Z0 E237.1) (Keep.of_wr W239).1) (Keep.of_wr W241).1) (Keep.of_wr W243).1) E245.1) Kc248.1) ((V243v.ext E245).keep Kc248 (ninS ne_b237_b245 nin0)) g_b237) rfl (W := 0) (by decide) (by decide) (g := (mkF m 98 #[.val (.int p1), .val (.int p2), .val (.int p3), .val (.int p4), .val (.int p5), .val (.int (3 : Int32)), .val (.int (1 : Int32)), .val (.int y0), .val (.int y1), .val (.int y2), .val (.ref b237), .val (.ref b245), .unset, .unset, .unset] [(.ref b237)])) rfl (by rw [hml]; rfl) (argsL := [(.ref b237)]) (rest := []) rfl (lenOf pd___B_V rfl) rfl (by show 2 * 0 + _ ≤ _; exact Nat.le_of_eq rfl) (hb hby at_98) (by decide) (by decide)
    obtain ⟨rfl, N249q, Kc249⟩ := hQ249
    have N249 := Fr.app N248 N249q
    refine own_goW st249 ?_
    have K249 : Keep h0 T249.heap [] := K248.trans Kc249 (fun x hx => by cases List.mem_singleton.mp hx; exact Or.inr sz_b237)
    show own_EndW _ _ _ _ _ _ _ T249 (mkF m 101 #[.val (.int p1), .val (.int p2), .val (.int p3), .val (.int p4), .val (.int p5), .val (.int (3 : Int32)), .val (.int (1 : Int32)), .val (.int y0), .val (.int y1), .val (.int y2), .val (.ref b237), .val (.ref b245), .unset, .unset, .unset] [])
    refine own_goW (fun t k => XS.iload X249.here hx rfl (hb hby at_101) rfl k) ?_
    show own_EndW _ _ _ _ _ _ _ T249 (mkF m 103 #[.val (.int p1), .val (.int p2), .val (.int p3), .val (.int p4), .val (.int p5), .val (.int (3 : Int32)), .val (.int (1 : Int32)), .val (.int y0), .val (.int y1), .val (.int y2), .val (.ref b237), .val (.ref b245), .unset, .unset, .unset] [(.int (1 : Int32))])
    refine own_goW (fun t k => XS.ifNo X249.here hx rfl (hb hby at_103) rfl ((if0 _ _).trans (feq (by decide : ¬ ((1 : Int32) = (0 : Int32)))).1) k) ?_
    show own_EndW _ _ _ _ _ _ _ T249 (mkF m 106 #[.val (.int p1), .val (.int p2), .val (.int p3), .val (.int p4), .val (.int p5), .val (.int (3 : Int32)), .val (.int (1 : Int32)), .val (.int y0), .val (.int y1), .val (.int y2), .val (.ref b237), .val (.ref b245), .unset, .unset, .unset] [])
    refine own_goW (fun t k => XS.iconst X249.here hx rfl (hb hby at_106) k) ?_
    show own_EndW _ _ _ _ _ _ _ T249 (mkF m 107 #[.val (.int p1), .val (.int p2), .val (.int p3), .val (.int p4), .val (.int p5), .val (.int (3 : Int32)), .val (.int (1 : Int32)), .val (.int y0), .val (.int y1), .val (.int y2), .val (.ref b237), .val (.ref b245), .unset, .unset, .unset] [(.int (0 : Int32))])
    refine own_goW (fun t k => XS.goto X249.here hx rfl (pc0 := 107) (pc' := 112) rfl (hb hby at_107) (by decide) (by decide) k) ?_
    show own_EndW _ _ _ _ _ _ _ T249 (mkF m 112 #[.val (.int p1), .val (.int p2), .val (.int p3), .val (.int p4), .val (.int p5), .val (.int (3 : Int32)), .val (.int (1 : Int32)), .val (.int y0), .val (.int y1), .val (.int y2), .val (.ref b237), .val (.ref b245), .unset, .unset, .unset] [(.int (0 : Int32))])
    refine own_goW (fun t k => XS.istore X249.here hx rfl (hb hby at_112) rfl (l' := #[.val (.int p1), .val (.int p2), .val (.int p3), .val (.int p4), .val (.int p5), .val (.int (3 : Int32)), .val (.int (1 : Int32)), .val (.int y0), .val (.int y1), .val (.int y2), .val (.ref b237), .val (.ref b245), .val (.int (0 : Int32)), .unset, .unset]) rfl k) ?_
    show own_EndW _ _ _ _ _ _ _ T249 (mkF m 114 #[.val (.int p1), .val (.int p2), .val (.int p3), .val (.int p4), .val (.int p5), .val (.int (3 : Int32)), .val (.int (1 : Int32)), .val (.int y0), .val (.int y1), .val (.int y2), .val (.ref b237), .val (.ref b245), .val (.int (0 : Int32)), .unset, .unset] [])
    refine own_goW (fun t k => XS.aload X249.here hx rfl (hb hby at_114) rfl rfl k) ?_
    show own_EndW _ _ _ _ _ _ _ T249 (mkF m 116 #[.val (.int p1), .val (.int p2), .val (.int p3), .val (.int p4), .val (.int p5), .val (.int (3 : Int32)), .val (.int (1 : Int32)), .val (.int y0), .val (.int y1), .val (.int y2), .val (.ref b237), .val (.ref b245), .val (.int (0 : Int32)), .unset, .unset] [(.ref b245)])
    obtain ⟨v250, T250, L250, X250, hQ250, st250⟩ := own_callV (y := (⟨"com/example/coxswain/coxswain/wire/Status", "details", "()[B"⟩ : MethodName)) (z := (⟨"com/example/coxswain/coxswain/wire/Status", "details", "()[B"⟩ : MethodName)) X249 hx hZ hown (hw _ (List.mem_of_getElem? (i := 42) rfl)) (hw _ (List.mem_of_getElem? (i := 43) rfl)) (hw _ (List.mem_of_getElem? (i := 45) rfl)) (hw _ (List.mem_of_getElem? (i := 44) rfl)) (Ec248.keep Kc249) (hw _ (List.mem_of_getElem? (i := 46) rfl)) (by decide) (hw _ (List.mem_of_getElem? (i := 3) rfl)) (rmT0 l Z a0 hw [] b245 wN cl T249.heap n0 (Nat.le_trans (Nat.le_trans (Nat.le_trans (Nat.le_trans (Nat.le_trans (Nat.le_trans (Nat.le_trans Z0 E237.1) (Keep.of_wr W239).1) (Keep.of_wr W241).1) (Keep.of_wr W243).1) E245.1) Kc248.1) Kc249.1) (Fd248.keep Kc249 (ninS (Ne.symm ne_b237_b245) nin0)) (own_StaK SN K249) (own_ArrK Ar K249) Sz) rfl (W := 0) (by decide) (by decide) (g := (mkF m 116 #[.val (.int p1), .val (.int p2), .val (.int p3), .val (.int p4), .val (.int p5), .val (.int (3 : Int32)), .val (.int (1 : Int32)), .val (.int y0), .val (.int y1), .val (.int y2), .val (.ref b237), .val (.ref b245), .val (.int (0 : Int32)), .unset, .unset] [(.ref b245)])) rfl (by rw [hml]; rfl) (argsL := []) (rest := []) (b := b245) rfl (notFace_of_selects (args := #[]) (mvT hZ (hw _ (List.mem_of_getElem? (i := 45) rfl)))) (lenOf pd____B rfl) rfl (by show 2 * 0 + _ ≤ _; exact Nat.le_of_eq rfl) (hb hby at_116) (by decide) (by decide)
    obtain ⟨rfl, N250q, e250⟩ := hQ250
    have N250 := Fr.app N249 N250q
    refine own_goW st250 ?_
    show own_EndW _ _ _ _ _ _ _ T250 (mkF m 119 #[.val (.int p1), .val (.int p2), .val (.int p3), .val (.int p4), .val (.int p5), .val (.int (3 : Int32)), .val (.int (1 : Int32)), .val (.int y0), .val (.int y1), .val (.int y2), .val (.ref b237), .val (.ref b245), .val (.int (0 : Int32)), .unset, .unset] [(.ref wN)])
    refine own_goW (fun t k => XS.astore X250.here hx rfl (hb hby at_119) rfl rfl (l' := #[.val (.int p1), .val (.int p2), .val (.int p3), .val (.int p4), .val (.int p5), .val (.int (3 : Int32)), .val (.int (1 : Int32)), .val (.int y0), .val (.int y1), .val (.int y2), .val (.ref b237), .val (.ref b245), .val (.int (0 : Int32)), .val (.ref wN), .unset]) rfl k) ?_
    show own_EndW _ _ _ _ _ _ _ T250 (mkF m 121 #[.val (.int p1), .val (.int p2), .val (.int p3), .val (.int p4), .val (.int p5), .val (.int (3 : Int32)), .val (.int (1 : Int32)), .val (.int y0), .val (.int y1), .val (.int y2), .val (.ref b237), .val (.ref b245), .val (.int (0 : Int32)), .val (.ref wN), .unset] [])
    refine own_goW (fun t k => XS.aload X250.here hx rfl (hb hby at_121) rfl rfl k) ?_
    show own_EndW _ _ _ _ _ _ _ T250 (mkF m 123 #[.val (.int p1), .val (.int p2), .val (.int p3), .val (.int p4), .val (.int p5), .val (.int (3 : Int32)), .val (.int (1 : Int32)), .val (.int y0), .val (.int y1), .val (.int y2), .val (.ref b237), .val (.ref b245), .val (.int (0 : Int32)), .val (.ref wN), .unset] [(.ref wN)])
    refine own_goW (fun t k => XS.iload X250.here hx rfl (hb hby at_123) rfl k) ?_
    show own_EndW _ _ _ _ _ _ _ T250 (mkF m 125 #[.val (.int p1), .val (.int p2), .val (.int p3), .val (.int p4), .val (.int p5), .val (.int (3 : Int32)), .val (.int (1 : Int32)), .val (.int y0), .val (.int y1), .val (.int y2), .val (.ref b237), .val (.ref b245), .val (.int (0 : Int32)), .val (.ref wN), .unset] [(.int (0 : Int32)), (.ref wN)])
    refine own_goW (fun t k => XS.iload X250.here hx rfl (hb hby at_125) rfl k) ?_
    show own_EndW _ _ _ _ _ _ _ T250 (mkF m 127 #[.val (.int p1), .val (.int p2), .val (.int p3), .val (.int p4), .val (.int p5), .val (.int (3 : Int32)), .val (.int (1 : Int32)), .val (.int y0), .val (.int y1), .val (.int y2), .val (.ref b237), .val (.ref b245), .val (.int (0 : Int32)), .val (.ref wN), .unset] [(.int y0), (.int (0 : Int32)), (.ref wN)])
    refine own_goW (fun t k => XS.iload X250.here hx rfl (hb hby at_127) rfl k) ?_
    show own_EndW _ _ _ _ _ _ _ T250 (mkF m 129 #[.val (.int p1), .val (.int p2), .val (.int p3), .val (.int p4), .val (.int p5), .val (.int (3 : Int32)), .val (.int (1 : Int32)), .val (.int y0), .val (.int y1), .val (.int y2), .val (.ref b237), .val (.ref b245), .val (.int (0 : Int32)), .val (.ref wN), .unset] [(.int y1), (.int y0), (.int (0 : Int32)), (.ref wN)])
    refine own_goW (fun t k => XS.iload X250.here hx rfl (hb hby at_129) rfl k) ?_
    show own_EndW _ _ _ _ _ _ _ T250 (mkF m 131 #[.val (.int p1), .val (.int p2), .val (.int p3), .val (.int p4), .val (.int p5), .val (.int (3 : Int32)), .val (.int (1 : Int32)), .val (.int y0), .val (.int y1), .val (.int y2), .val (.ref b237), .val (.ref b245), .val (.int (0 : Int32)), .val (.ref wN), .unset] [(.int y2), (.int y1), (.int y0), (.int (0 : Int32)), (.ref wN)])
    obtain ⟨v251, T251, L251, X251, hQ251, st251⟩ := own_callS (y := (⟨"com/example/coxswain/coxswain/wire/StatusDetailsPinLaw", "same", "([BIBBB)Z"⟩ : MethodName)) X250 hx hZ hown (hw _ (List.mem_of_getElem? (i := 47) rfl)) (hw _ (List.mem_of_getElem? (i := 48) rfl)) (hw _ (List.mem_of_getElem? (i := 49) rfl)) (by decide) (hw _ (List.mem_of_getElem? (i := 40) rfl)) (rmM0 l Z a0 hw [] wN y0 y1 y2 cl T249.heap n0 (Nat.le_trans (Nat.le_trans (Nat.le_trans (Nat.le_trans (Nat.le_trans (Nat.le_trans (Nat.le_trans Z0 E237.1) (Keep.of_wr W239).1) (Keep.of_wr W241).1) (Keep.of_wr W243).1) E245.1) Kc248.1) Kc249.1) (own_ArrK Ar K249) Sz) e250 (W := 0) (by decide) (by decide) (g := (mkF m 131 #[.val (.int p1), .val (.int p2), .val (.int p3), .val (.int p4), .val (.int p5), .val (.int (3 : Int32)), .val (.int (1 : Int32)), .val (.int y0), .val (.int y1), .val (.int y2), .val (.ref b237), .val (.ref b245), .val (.int (0 : Int32)), .val (.ref wN), .unset] [(.int y2), (.int y1), (.int y0), (.int (0 : Int32)), (.ref wN)])) rfl (by rw [hml]; rfl) (argsL := [(.ref wN), (.int (0 : Int32)), (.int y0), (.int y1), (.int y2)]) (rest := []) rfl (lenOf pd___BIBBB_Z rfl) rfl (by show 2 * 0 + _ ≤ _; exact Nat.le_of_eq rfl) (hb hby at_131) (by decide) (by decide)
    obtain ⟨rfl, N251q, e251⟩ := hQ251
    have N251 := Fr.app N250 N251q
    refine own_goW st251 ?_
    show own_EndW _ _ _ _ _ _ _ T251 (mkF m 134 #[.val (.int p1), .val (.int p2), .val (.int p3), .val (.int p4), .val (.int p5), .val (.int (3 : Int32)), .val (.int (1 : Int32)), .val (.int y0), .val (.int y1), .val (.int y2), .val (.ref b237), .val (.ref b245), .val (.int (0 : Int32)), .val (.ref wN), .unset] [(.int (1 : Int32))])
    refine own_goW (fun t k => XS.ifYes X251.here hx rfl (pc0 := 134) (pc' := 139) rfl (hb hby at_134) rfl ((if0 _ _).trans (feq (by decide : ¬ ((1 : Int32) = (0 : Int32)))).2) (by decide) (by decide) k) ?_
    show own_EndW _ _ _ _ _ _ _ T251 (mkF m 139 #[.val (.int p1), .val (.int p2), .val (.int p3), .val (.int p4), .val (.int p5), .val (.int (3 : Int32)), .val (.int (1 : Int32)), .val (.int y0), .val (.int y1), .val (.int y2), .val (.ref b237), .val (.ref b245), .val (.int (0 : Int32)), .val (.ref wN), .unset] [])
    refine own_goW (fun t k => XS.aload X251.here hx rfl (hb hby at_139) rfl rfl k) ?_
    show own_EndW _ _ _ _ _ _ _ T251 (mkF m 141 #[.val (.int p1), .val (.int p2), .val (.int p3), .val (.int p4), .val (.int p5), .val (.int (3 : Int32)), .val (.int (1 : Int32)), .val (.int y0), .val (.int y1), .val (.int y2), .val (.ref b237), .val (.ref b245), .val (.int (0 : Int32)), .val (.ref wN), .unset] [(.ref wN)])
    obtain ⟨v252, T252, L252, X252, hQ252, st252⟩ := own_callS (y := (⟨"com/example/coxswain/coxswain/wire/StatusDetailsPinLaw", "scramble", "([B)V"⟩ : MethodName)) X251 hx hZ hown (hw _ (List.mem_of_getElem? (i := 38) rfl)) (hw _ (List.mem_of_getElem? (i := 39) rfl)) (hw _ (List.mem_of_getElem? (i := 41) rfl)) (by decide) (hw _ (List.mem_of_getElem? (i := 40) rfl)) (rmS0 l Z a0 hw [] wN cl T249.heap n0 (Nat.le_trans (Nat.le_trans (Nat.le_trans (Nat.le_trans (Nat.le_trans (Nat.le_trans (Nat.le_trans Z0 E237.1) (Keep.of_wr W239).1) (Keep.of_wr W241).1) (Keep.of_wr W243).1) E245.1) Kc248.1) Kc249.1) (own_ArrK Ar K249) Sz) e251 (W := 0) (by decide) (by decide) (g := (mkF m 141 #[.val (.int p1), .val (.int p2), .val (.int p3), .val (.int p4), .val (.int p5), .val (.int (3 : Int32)), .val (.int (1 : Int32)), .val (.int y0), .val (.int y1), .val (.int y2), .val (.ref b237), .val (.ref b245), .val (.int (0 : Int32)), .val (.ref wN), .unset] [(.ref wN)])) rfl (by rw [hml]; rfl) (argsL := [(.ref wN)]) (rest := []) rfl (lenOf pd___B_V rfl) rfl (by show 2 * 0 + _ ≤ _; exact Nat.le_of_eq rfl) (hb hby at_141) (by decide) (by decide)
    obtain ⟨rfl, N252q, e252⟩ := hQ252
    have N252 := Fr.app N251 N252q
    refine own_goW st252 ?_
    show own_EndW _ _ _ _ _ _ _ T252 (mkF m 144 #[.val (.int p1), .val (.int p2), .val (.int p3), .val (.int p4), .val (.int p5), .val (.int (3 : Int32)), .val (.int (1 : Int32)), .val (.int y0), .val (.int y1), .val (.int y2), .val (.ref b237), .val (.ref b245), .val (.int (0 : Int32)), .val (.ref wN), .unset] [])
    refine own_goW (fun t k => XS.aload X252.here hx rfl (hb hby at_144) rfl rfl k) ?_
    show own_EndW _ _ _ _ _ _ _ T252 (mkF m 146 #[.val (.int p1), .val (.int p2), .val (.int p3), .val (.int p4), .val (.int p5), .val (.int (3 : Int32)), .val (.int (1 : Int32)), .val (.int y0), .val (.int y1), .val (.int y2), .val (.ref b237), .val (.ref b245), .val (.int (0 : Int32)), .val (.ref wN), .unset] [(.ref b245)])
    obtain ⟨v253, T253, L253, X253, hQ253, st253⟩ := own_callV (y := (⟨"com/example/coxswain/coxswain/wire/Status", "details", "()[B"⟩ : MethodName)) (z := (⟨"com/example/coxswain/coxswain/wire/Status", "details", "()[B"⟩ : MethodName)) X252 hx hZ hown (hw _ (List.mem_of_getElem? (i := 42) rfl)) (hw _ (List.mem_of_getElem? (i := 43) rfl)) (hw _ (List.mem_of_getElem? (i := 45) rfl)) (hw _ (List.mem_of_getElem? (i := 44) rfl)) (Ec248.keep Kc249) (hw _ (List.mem_of_getElem? (i := 46) rfl)) (by decide) (hw _ (List.mem_of_getElem? (i := 3) rfl)) (rmT0 l Z a0 hw [] b245 wN cl T249.heap n0 (Nat.le_trans (Nat.le_trans (Nat.le_trans (Nat.le_trans (Nat.le_trans (Nat.le_trans (Nat.le_trans Z0 E237.1) (Keep.of_wr W239).1) (Keep.of_wr W241).1) (Keep.of_wr W243).1) E245.1) Kc248.1) Kc249.1) (Fd248.keep Kc249 (ninS (Ne.symm ne_b237_b245) nin0)) (own_StaK SN K249) (own_ArrK Ar K249) Sz) e252 (W := 0) (by decide) (by decide) (g := (mkF m 146 #[.val (.int p1), .val (.int p2), .val (.int p3), .val (.int p4), .val (.int p5), .val (.int (3 : Int32)), .val (.int (1 : Int32)), .val (.int y0), .val (.int y1), .val (.int y2), .val (.ref b237), .val (.ref b245), .val (.int (0 : Int32)), .val (.ref wN), .unset] [(.ref b245)])) rfl (by rw [hml]; rfl) (argsL := []) (rest := []) (b := b245) rfl (notFace_of_selects (args := #[]) (mvT hZ (hw _ (List.mem_of_getElem? (i := 45) rfl)))) (lenOf pd____B rfl) rfl (by show 2 * 0 + _ ≤ _; exact Nat.le_of_eq rfl) (hb hby at_146) (by decide) (by decide)
    obtain ⟨rfl, N253q, e253⟩ := hQ253
    have N253 := Fr.app N252 N253q
    refine own_goW st253 ?_
    show own_EndW _ _ _ _ _ _ _ T253 (mkF m 149 #[.val (.int p1), .val (.int p2), .val (.int p3), .val (.int p4), .val (.int p5), .val (.int (3 : Int32)), .val (.int (1 : Int32)), .val (.int y0), .val (.int y1), .val (.int y2), .val (.ref b237), .val (.ref b245), .val (.int (0 : Int32)), .val (.ref wN), .unset] [(.ref wN)])
    refine own_goW (fun t k => XS.astore X253.here hx rfl (hb hby at_149) rfl rfl (l' := #[.val (.int p1), .val (.int p2), .val (.int p3), .val (.int p4), .val (.int p5), .val (.int (3 : Int32)), .val (.int (1 : Int32)), .val (.int y0), .val (.int y1), .val (.int y2), .val (.ref b237), .val (.ref b245), .val (.int (0 : Int32)), .val (.ref wN), .val (.ref wN)]) rfl k) ?_
    show own_EndW _ _ _ _ _ _ _ T253 (mkF m 151 #[.val (.int p1), .val (.int p2), .val (.int p3), .val (.int p4), .val (.int p5), .val (.int (3 : Int32)), .val (.int (1 : Int32)), .val (.int y0), .val (.int y1), .val (.int y2), .val (.ref b237), .val (.ref b245), .val (.int (0 : Int32)), .val (.ref wN), .val (.ref wN)] [])
    refine own_goW (fun t k => XS.aload X253.here hx rfl (hb hby at_151) rfl rfl k) ?_
    show own_EndW _ _ _ _ _ _ _ T253 (mkF m 153 #[.val (.int p1), .val (.int p2), .val (.int p3), .val (.int p4), .val (.int p5), .val (.int (3 : Int32)), .val (.int (1 : Int32)), .val (.int y0), .val (.int y1), .val (.int y2), .val (.ref b237), .val (.ref b245), .val (.int (0 : Int32)), .val (.ref wN), .val (.ref wN)] [(.ref wN)])
    refine own_goW (fun t k => XS.iload X253.here hx rfl (hb hby at_153) rfl k) ?_
    show own_EndW _ _ _ _ _ _ _ T253 (mkF m 155 #[.val (.int p1), .val (.int p2), .val (.int p3), .val (.int p4), .val (.int p5), .val (.int (3 : Int32)), .val (.int (1 : Int32)), .val (.int y0), .val (.int y1), .val (.int y2), .val (.ref b237), .val (.ref b245), .val (.int (0 : Int32)), .val (.ref wN), .val (.ref wN)] [(.int (0 : Int32)), (.ref wN)])
    refine own_goW (fun t k => XS.iload X253.here hx rfl (hb hby at_155) rfl k) ?_
    show own_EndW _ _ _ _ _ _ _ T253 (mkF m 157 #[.val (.int p1), .val (.int p2), .val (.int p3), .val (.int p4), .val (.int p5), .val (.int (3 : Int32)), .val (.int (1 : Int32)), .val (.int y0), .val (.int y1), .val (.int y2), .val (.ref b237), .val (.ref b245), .val (.int (0 : Int32)), .val (.ref wN), .val (.ref wN)] [(.int y0), (.int (0 : Int32)), (.ref wN)])
    refine own_goW (fun t k => XS.iload X253.here hx rfl (hb hby at_157) rfl k) ?_
    show own_EndW _ _ _ _ _ _ _ T253 (mkF m 159 #[.val (.int p1), .val (.int p2), .val (.int p3), .val (.int p4), .val (.int p5), .val (.int (3 : Int32)), .val (.int (1 : Int32)), .val (.int y0), .val (.int y1), .val (.int y2), .val (.ref b237), .val (.ref b245), .val (.int (0 : Int32)), .val (.ref wN), .val (.ref wN)] [(.int y1), (.int y0), (.int (0 : Int32)), (.ref wN)])
    refine own_goW (fun t k => XS.iload X253.here hx rfl (hb hby at_159) rfl k) ?_
    show own_EndW _ _ _ _ _ _ _ T253 (mkF m 161 #[.val (.int p1), .val (.int p2), .val (.int p3), .val (.int p4), .val (.int p5), .val (.int (3 : Int32)), .val (.int (1 : Int32)), .val (.int y0), .val (.int y1), .val (.int y2), .val (.ref b237), .val (.ref b245), .val (.int (0 : Int32)), .val (.ref wN), .val (.ref wN)] [(.int y2), (.int y1), (.int y0), (.int (0 : Int32)), (.ref wN)])
    obtain ⟨v254, T254, L254, X254, hQ254, st254⟩ := own_callS (y := (⟨"com/example/coxswain/coxswain/wire/StatusDetailsPinLaw", "same", "([BIBBB)Z"⟩ : MethodName)) X253 hx hZ hown (hw _ (List.mem_of_getElem? (i := 47) rfl)) (hw _ (List.mem_of_getElem? (i := 48) rfl)) (hw _ (List.mem_of_getElem? (i := 49) rfl)) (by decide) (hw _ (List.mem_of_getElem? (i := 40) rfl)) (rmM0 l Z a0 hw [] wN y0 y1 y2 cl T249.heap n0 (Nat.le_trans (Nat.le_trans (Nat.le_trans (Nat.le_trans (Nat.le_trans (Nat.le_trans (Nat.le_trans Z0 E237.1) (Keep.of_wr W239).1) (Keep.of_wr W241).1) (Keep.of_wr W243).1) E245.1) Kc248.1) Kc249.1) (own_ArrK Ar K249) Sz) e253 (W := 0) (by decide) (by decide) (g := (mkF m 161 #[.val (.int p1), .val (.int p2), .val (.int p3), .val (.int p4), .val (.int p5), .val (.int (3 : Int32)), .val (.int (1 : Int32)), .val (.int y0), .val (.int y1), .val (.int y2), .val (.ref b237), .val (.ref b245), .val (.int (0 : Int32)), .val (.ref wN), .val (.ref wN)] [(.int y2), (.int y1), (.int y0), (.int (0 : Int32)), (.ref wN)])) rfl (by rw [hml]; rfl) (argsL := [(.ref wN), (.int (0 : Int32)), (.int y0), (.int y1), (.int y2)]) (rest := []) rfl (lenOf pd___BIBBB_Z rfl) rfl (by show 2 * 0 + _ ≤ _; exact Nat.le_of_eq rfl) (hb hby at_161) (by decide) (by decide)
    obtain ⟨rfl, N254q, e254⟩ := hQ254
    have N254 := Fr.app N253 N254q
    refine own_goW st254 ?_
    show own_EndW _ _ _ _ _ _ _ T254 (mkF m 164 #[.val (.int p1), .val (.int p2), .val (.int p3), .val (.int p4), .val (.int p5), .val (.int (3 : Int32)), .val (.int (1 : Int32)), .val (.int y0), .val (.int y1), .val (.int y2), .val (.ref b237), .val (.ref b245), .val (.int (0 : Int32)), .val (.ref wN), .val (.ref wN)] [(.int (1 : Int32))])
    exact own_retWW X254 hS248 (by rw [e254]; exact (Nat.le_trans (Nat.le_refl T248.heap.size) Kc249.1)) hx Bd.returns Bd.notSynchronized rfl (Or.inl ⟨rfl, by simp, _, rfl⟩) (hb hby at_164) ⟨rfl, N254⟩ (by decide) (by decide)
theorem rm0 (l : Launch) (Z : State) (a0 : Array Value) (hw : ∀ d ∈ tables_1, d.before a0 Z = true) (ws : List Jvm.Cond) (p1 p2 p3 p4 p5 : Int32) (wU wN : Addr) (cl : Cell) (h0 : Heap) (n0 : Nat) (Z0 : n0 ≤ h0.size) (SU : Sta Z h0 "com/example/coxswain/coxswain/wire/StatusCode" "UNKNOWN" "Lcom/example/coxswain/coxswain/wire/StatusCode;" (.ref wU)) (SN : Sta Z h0 "com/example/coxswain/coxswain/wire/Status" "NO_DETAILS" "[B" (.ref wN)) (Ar : Arr Z h0 wN cl .byte) (Sz : cl.slots.size = (0 : Int32).toNatClampNeg) :
    MetFree l x (head1 (Jvm.Cond.code x code maxLocals ret :: ws) room_1) (fun a U => a = #[(.int p1), (.int p2), (.int p3), (.int p4), (.int p5)] ∧ Z.Warmed39 U.vm ∧ U.heap = h0) (fun _ _ _ _ _ => True) (fun _ U o U' => ∃ v L, o = .returned v ∧ own_law n0 v U'.heap L ∧ ReturnedEndW U o U' L room_1.cells room_1.slots) := by
  rcases own_m3 p1 with h | h | h | h
  · exact rm0_0 l Z a0 hw ws p1 p2 p3 p4 p5 _ _ _ wU wN cl h0 n0 Z0 h rfl rfl rfl (own_byte p3) (own_byte p4) (own_byte p5) SU SN Ar Sz
  · exact rm0_1 l Z a0 hw ws p1 p2 p3 p4 p5 _ _ _ wU wN cl h0 n0 Z0 h rfl rfl rfl (own_byte p3) (own_byte p4) (own_byte p5) SU SN Ar Sz
  · exact rm0_2 l Z a0 hw ws p1 p2 p3 p4 p5 _ _ _ wU wN cl h0 n0 Z0 h rfl rfl rfl (own_byte p3) (own_byte p4) (own_byte p5) SU SN Ar Sz
  · exact rm0_3 l Z a0 hw ws p1 p2 p3 p4 p5 _ _ _ wU wN cl h0 n0 Z0 h rfl rfl rfl (own_byte p3) (own_byte p4) (own_byte p5) SU SN Ar Sz
theorem own_size {args : Array Value} {s : State} {A : Term} {w : Addr} {cl : Cell} {ty : FieldType} {n : Int32} (ev : A.eval args s none [] s = some (.ref w)) (Ar : Arr s s.heap w cl ty) (h : (Jvm.Cond.eq (.length A) (.int n)).value args s none s [] = some true) : cl.slots.size = n.toNatClampNeg := by
  have ha := Ar.fin (Vm.Alike.refl _)
  by_cases q : cl.slots.size < 2 ^ 31
  · have e := gotT (Cond.eq_ints (len_f ev ha q) (Term.int_eval n)) h
    exact (clamp_of (c := cl.slots.size) e.symm q).symm
  · have e : (Term.length A).eval args s none [] s = none := by simp [Term.eval, ev, ha, q]
    simp [Cond.value, e] at h
set_option maxRecDepth 65536 in
set_option maxHeartbeats 40000000 in
theorem comes_1 {Post : Tables → Env → Array Value → State → Outcome → State → Prop} (hpost : ∀ tb e args s v u, (limb_1_1.after args s (.returned v) u = true ∧ limb_1_2.after args s (.returned v) u = true ∧ True) → ReturnedEndW s (.returned v) u (Jvm.fieldLocs frame_1_writes args s ++ Jvm.arrayLocs frame_1_arrays args s ++ Jvm.staticLocs frame_1_statics s) 24 2176 → Post tb e args s (.returned v) u) :
    ArmFor flags0 classFile x code maxLocals ret World_1 tables_1 room_1 Calls_1 rest_1 Pre_1 Post := by
  intro l hfl _ _ p e ha hc hk s m args below hf hA hF happ hP
  obtain ⟨hcalls, hrest, hpre⟩ := hP
  obtain ⟨-, -, -, hnamed, -, -, -, hat⟩ := (Spec.applies_iff hf).mp happ
  obtain ⟨hg, hn⟩ := and_e (Cond.before_iff.mp (show (Jvm.Cond.and given_1 narrow_1).before args s = true from hpre))
  obtain ⟨gc, gr0⟩ := and_e hg
  obtain ⟨gi0, gr1⟩ := and_e gr0
  obtain ⟨gi1, gr2⟩ := and_e gr1
  obtain ⟨gi2, gr3⟩ := and_e gr2
  obtain ⟨gi3, gr4⟩ := and_e gr3
  obtain ⟨w0, w1, w2, w3, w4, rfl⟩ : ∃ w0 w1 w2 w3 w4 : Value, args = #[w0, w1, w2, w3, w4] := by
    have hs : args.size = 5 := by simpa [Cond.value, given_1] using gc
    obtain ⟨L⟩ := args
    match L, hs with
    | [w0, w1, w2, w3, w4], _ => exact ⟨w0, w1, w2, w3, w4, rfl⟩
  have hw := fun d (hd : d ∈ tables_1) => atoms_spec (ws := Jvm.Cond.code x code maxLocals ret :: tables_1) hat d (List.mem_cons_of_mem _ hd)
  have hfit : Fit s := fun {y c} hc i hi => by
    obtain ⟨ha, rfl⟩ := Array.getElem?_eq_some_iff.mp hc
    have q := List.all_eq_true.mp ((Array.all_eq_true_iff_forall_mem.mp hF) _ (Array.getElem_mem ha)) i (List.mem_range.mpr hi)
    simpa [Array.getElem?_eq_getElem hi] using q
  obtain ⟨i0, ei0⟩ := is_v gi0
  obtain rfl : w0 = (.int i0) := Option.some.inj ei0
  obtain ⟨i1, ei1⟩ := is_v gi1
  obtain rfl : w1 = (.int i1) := Option.some.inj ei1
  obtain ⟨i2, ei2⟩ := is_v gi2
  obtain rfl : w2 = (.int i2) := Option.some.inj ei2
  obtain ⟨i3, ei3⟩ := is_v gi3
  obtain rfl : w3 = (.int i3) := Option.some.inj ei3
  obtain ⟨i4, ei4⟩ := is_v gr4
  obtain rfl : w4 = (.int i4) := Option.some.inj ei4
  obtain ⟨x1, hn⟩ := and_e hn
  obtain ⟨x2, x3⟩ := and_e hn
  obtain ⟨wU, vU⟩ := exa_v x1
  have SU := Sta.start vU (Or.inr ⟨(hw _ (List.mem_of_getElem? (i := 5) rfl)), (hw _ (List.mem_of_getElem? (i := 6) rfl))⟩)
  obtain ⟨wN, ev⟩ := arr_v x2
  obtain ⟨cl, Ar⟩ := Arr.start ev x2
  have Sz : cl.slots.size = (0 : Int32).toNatClampNeg := own_size ev Ar x3
  have SN := Sta.start ev (Or.inr ⟨(hw _ (List.mem_of_getElem? (i := 3) rfl)), (hw _ (List.mem_of_getElem? (i := 31) rfl))⟩)
  obtain ⟨n, o, h1, h2, h3, _, L, rfl, ⟨rfl, N⟩, hq⟩ := rm0 l s _ hw tables_1 i0 i1 i2 i3 i4 wU wN cl s.heap s.heap.size (Nat.le_refl _) SU SN Ar Sz p e ha hc hk s m _ below hf ((Spec.applies_iff_loose hf).mp happ).1 ⟨rfl, State.Warmed39.refl s, rfl⟩ trivial
  refine ⟨n, _, h1, h2, h3, hpost _ _ _ _ _ _ ⟨Cond.after_iff.mpr rfl, Cond.after_iff.mpr (eq_i res_at (Term.int_eval (1)) rfl), trivial⟩ ⟨hq.1, hq.2.1, hq.2.2.1, (hq.2.2.2.sift fun y hy => Or.inr (N y hy)).mono (by decide) (by decide)⟩⟩
theorem main_1_1 : Claimed_1_1 := comes_1 fun _ _ _ _ _ _ h hF => ⟨h.1, hF⟩
theorem main_1_2 : Claimed_1_2 := comes_1 fun _ _ _ _ _ _ h hF => ⟨h.2.1, hF⟩
end Jvm.Pilot.@@N@@
namespace Jvm.Pilot.@@N@@
open Jvm Jvm.ClassFile Sem Op Lib Jvm.Free Jvm.Stand Jvm.Pilot.@@N@@.Jvm.D
/-! MADE BY PROGRAM (witnessworld.py) out of the Statement's table words and the real class files: 18 classes; the members and pool entries that the words name. The judged class is class 1, her method 1. -/
namespace start1
open Jvm.ClassFile
def u (s : String) : CpInfo := .utf8 (stringToUtf16 s)
/-- a pool by its gaps: so many unusable entries, then the entry; so many at the end -/
def gap : Nat → List CpInfo → List CpInfo
  | 0, r => r
  | n + 1, r => .unusable :: gap n r
def poolList (es : List (Nat × CpInfo)) (last : Nat) : List CpInfo := es.foldr (fun e r => gap e.1 (e.2 :: r)) (gap last [])
def pool (es : List (Nat × CpInfo)) (last : Nat) : Array CpInfo := ⟨poolList es last⟩
def fileOf (pool : Array CpInfo) (this : Nat) (attrs : Array Attribute := #[]) (ms : Array MethodInfo := #[]) (fl : Nat := 33) (sup : Nat := 0) (ifs : Array Nat := #[]) (fds : Array FieldInfo := #[]) : ClassFile where
  minorVersion := 0
  majorVersion := 65
  constantPool := pool
  accessFlags := fl
  thisClass := this
  superClass := sup
  interfaces := ifs
  fields := fds
  methods := ms
  attributes := attrs
def plain (name : String) (sup : Option ClassId) : Class where
  name := name
  kind := .ordinary
  loader := none
  accessFlags := 33
  super := sup
  interfaces := #[]
  cf := none
  fields := #[]
  methods := #[]
  instanceTypes := #[]
  staticTypes := #[]
  resolved := #[]
  callSites := []
  init := .initialized
  statics := none
  mirror := none

def pool0 : Array CpInfo := pool [(5, u "<init>"), (0, u "()V"), (1, .class_ 10), (1, u "java/lang/Object"), (85, u "clone"), (0, u "()Ljava/lang/Object;")] 26

def k0c0 : Code := { maxStack := 0, maxLocals := 1, code := object_method_1_code, exceptionTable := #[], attributes := #[] }
def k0m0 : Method := { name := "<init>", desc := "()V", sig := { parameters := [], returnType := none }, accessFlags := 1, code := some k0c0 }
def k0m1 : Method := { name := "clone", desc := "()Ljava/lang/Object;", sig := { parameters := [], returnType := some (.object "java/lang/Object") }, accessFlags := 260, code := none }
/-- java/lang/Object -/
def k0 : Class := { plain "java/lang/Object" none with
  accessFlags := 33
  interfaces := #[]
  cf := some (fileOf pool0 8 #[] #[{ accessFlags := 1, nameIndex := 5, descriptorIndex := 6, attributes := #[] }, { accessFlags := 260, nameIndex := 96, descriptorIndex := 97, attributes := #[] }] 33 0 #[] #[])
  fields := #[]
  methods := #[k0m0, k0m1]
  instanceTypes := #[]
  staticTypes := #[]
  resolved := Array.replicate 124 none
  statics := none }

def pool1 : Array CpInfo := pool [(2, .class_ 4), (1, u "java/lang/Object"), (0, u "<init>"), (0, u "()V"), (0, .class_ 8), (0, u "com/example/coxswain/coxswain/wire/Status"), (0, .fieldref 10 11), (0, .class_ 12), (0, .nameAndType 13 14), (0, u "com/example/coxswain/coxswain/wire/StatusCode"), (0, u "UNKNOWN"), (0, u "Lcom/example/coxswain/coxswain/wire/StatusCode;"), (0, .methodref 7 16), (0, .nameAndType 5 17), (0, u "(Lcom/example/coxswain/coxswain/wire/StatusCode;Ljava/lang/String;[B)V"), (0, .methodref 19 20), (0, .class_ 21), (0, .nameAndType 22 23), (0, u "com/example/coxswain/coxswain/wire/StatusDetailsPinLaw"), (0, u "scramble"), (0, u "([B)V"), (0, .methodref 7 25), (0, .nameAndType 26 27), (0, u "details"), (0, u "()[B"), (0, .methodref 19 29), (0, .nameAndType 30 31), (0, u "same"), (0, u "([BIBBB)Z"), (2, u "law"), (0, u "(IIIII)Z")] 5

def k1m0 : Method := { name := "<init>", desc := "()V", sig := { parameters := [], returnType := none }, accessFlags := 1, code := none }
def k1c1 : Code := { maxStack := 5, maxLocals := 15, code := code, exceptionTable := #[], attributes := #[] }
def k1m1 : Method := { name := "law", desc := "(IIIII)Z", sig := { parameters := [.int, .int, .int, .int, .int], returnType := some .boolean }, accessFlags := 9, code := some k1c1 }
def k1c2 : Code := { maxStack := 2, maxLocals := 5, code := method_3_code, exceptionTable := #[], attributes := #[] }
def k1m2 : Method := { name := "same", desc := "([BIBBB)Z", sig := { parameters := [(.array .byte), .int, .byte, .byte, .byte], returnType := some .boolean }, accessFlags := 10, code := some k1c2 }
def k1c3 : Code := { maxStack := 4, maxLocals := 1, code := method_4_code, exceptionTable := #[], attributes := #[] }
def k1m3 : Method := { name := "scramble", desc := "([B)V", sig := { parameters := [(.array .byte)], returnType := none }, accessFlags := 10, code := some k1c3 }
/-- com/example/coxswain/coxswain/wire/StatusDetailsPinLaw -/
def k1 : Class := { plain "com/example/coxswain/coxswain/wire/StatusDetailsPinLaw" (some 0) with
  accessFlags := 49
  interfaces := #[]
  cf := some (fileOf pool1 19 #[] #[{ accessFlags := 1, nameIndex := 5, descriptorIndex := 6, attributes := #[] }, { accessFlags := 9, nameIndex := 34, descriptorIndex := 35, attributes := #[] }, { accessFlags := 10, nameIndex := 30, descriptorIndex := 31, attributes := #[] }, { accessFlags := 10, nameIndex := 22, descriptorIndex := 23, attributes := #[] }] 49 2 #[] #[])
  fields := #[]
  methods := #[k1m0, k1m1, k1m2, k1m3]
  instanceTypes := #[]
  staticTypes := #[]
  resolved := Array.replicate 41 none
  statics := none }

def pool2 : Array CpInfo := pool [(1, .methodref 2 3), (0, .class_ 4), (0, .nameAndType 5 6), (0, u "java/lang/Object"), (0, u "<init>"), (0, u "()V"), (0, .class_ 8), (0, u "java/lang/Record")] 13

def k2c0 : Code := { maxStack := 1, maxLocals := 1, code := jdk_30_method_1_code, exceptionTable := #[], attributes := #[] }
def k2m0 : Method := { name := "<init>", desc := "()V", sig := { parameters := [], returnType := none }, accessFlags := 4, code := some k2c0 }
/-- java/lang/Record -/
def k2 : Class := { plain "java/lang/Record" (some 0) with
  accessFlags := 1057
  interfaces := #[]
  cf := some (fileOf pool2 7 #[] #[{ accessFlags := 4, nameIndex := 5, descriptorIndex := 6, attributes := #[] }] 1057 2 #[] #[])
  fields := #[]
  methods := #[k2m0]
  instanceTypes := #[]
  staticTypes := #[]
  resolved := Array.replicate 22 none
  statics := none }

def pool3 : Array CpInfo := pool [(1, .methodref 2 3), (0, .class_ 4), (0, .nameAndType 5 6), (0, u "java/lang/Record"), (0, u "<init>"), (0, u "()V"), (0, .string 8), (0, u "code"), (0, .methodref 10 11), (0, .class_ 12), (0, .nameAndType 13 14), (0, u "java/util/Objects"), (0, u "requireNonNull"), (0, u "(Ljava/lang/Object;Ljava/lang/String;)Ljava/lang/Object;"), (0, .string 16), (0, u ""), (0, .fieldref 18 19), (0, .class_ 20), (0, .nameAndType 21 22), (0, u "com/example/coxswain/coxswain/wire/Status"), (0, u "NO_DETAILS"), (0, u "[B"), (0, .methodref 24 25), (0, .class_ 22), (0, .nameAndType 26 27), (0, u "clone"), (0, u "()Ljava/lang/Object;"), (0, .fieldref 18 29), (0, .nameAndType 8 30), (0, u "Lcom/example/coxswain/coxswain/wire/StatusCode;"), (0, .fieldref 18 32), (0, .nameAndType 33 34), (0, u "description"), (0, u "Ljava/lang/String;"), (0, .fieldref 18 36), (0, .nameAndType 37 22), (0, u "details"), (2, u "(Lcom/example/coxswain/coxswain/wire/StatusCode;Ljava/lang/String;[B)V"), (4, u "OK"), (51, u "Lcom/example/coxswain/coxswain/wire/Status;"), (6, u "()[B")] 23

def k3c0 : Code := { maxStack := 2, maxLocals := 4, code := prog_40_method_1_code, exceptionTable := #[], attributes := #[] }
def k3m0 : Method := { name := "<init>", desc := "(Lcom/example/coxswain/coxswain/wire/StatusCode;Ljava/lang/String;[B)V", sig := { parameters := [(.object "com/example/coxswain/coxswain/wire/StatusCode"), (.object "java/lang/String"), (.array .byte)], returnType := none }, accessFlags := 1, code := some k3c0 }
def k3c1 : Code := { maxStack := 1, maxLocals := 1, code := prog_40_method_4_code, exceptionTable := #[], attributes := #[] }
def k3m1 : Method := { name := "details", desc := "()[B", sig := { parameters := [], returnType := some (.array .byte) }, accessFlags := 1, code := some k3c1 }
/-- com/example/coxswain/coxswain/wire/Status -/
def k3 : Class := { plain "com/example/coxswain/coxswain/wire/Status" (some 2) with
  accessFlags := 49
  interfaces := #[]
  cf := some (fileOf pool3 18 #[] #[{ accessFlags := 1, nameIndex := 5, descriptorIndex := 40, attributes := #[] }, { accessFlags := 1, nameIndex := 37, descriptorIndex := 104, attributes := #[] }] 49 2 #[] #[{ accessFlags := 18, nameIndex := 8, descriptorIndex := 30, attributes := #[] }, { accessFlags := 18, nameIndex := 33, descriptorIndex := 34, attributes := #[] }, { accessFlags := 18, nameIndex := 37, descriptorIndex := 22, attributes := #[] }, { accessFlags := 26, nameIndex := 21, descriptorIndex := 22, attributes := #[] }, { accessFlags := 25, nameIndex := 45, descriptorIndex := 97, attributes := #[] }])
  fields := #[{ name := "code", type := (.object "com/example/coxswain/coxswain/wire/StatusCode"), accessFlags := 18, slot := 0, constantValue := 0 }, { name := "description", type := (.object "java/lang/String"), accessFlags := 18, slot := 1, constantValue := 0 }, { name := "details", type := (.array .byte), accessFlags := 18, slot := 2, constantValue := 0 }, { name := "NO_DETAILS", type := (.array .byte), accessFlags := 26, slot := 0, constantValue := 0 }, { name := "OK", type := (.object "com/example/coxswain/coxswain/wire/Status"), accessFlags := 25, slot := 1, constantValue := 0 }]
  methods := #[k3m0, k3m1]
  instanceTypes := #[(.object "com/example/coxswain/coxswain/wire/StatusCode"), (.object "java/lang/String"), (.array .byte)]
  staticTypes := #[(.array .byte), (.object "com/example/coxswain/coxswain/wire/Status")]
  resolved := Array.replicate 128 none
  statics := some 0 }

def pool4 : Array CpInfo := pool [(1, .class_ 2), (0, u "java/lang/constant/Constable"), (0, .class_ 4), (0, u "java/lang/Object")] 6

/-- java/lang/constant/Constable -/
def k4 : Class := { plain "java/lang/constant/Constable" (some 0) with
  accessFlags := 1537
  interfaces := #[]
  cf := some (fileOf pool4 1 #[] #[] 1537 3 #[] #[])
  fields := #[]
  methods := #[]
  instanceTypes := #[]
  staticTypes := #[]
  resolved := Array.replicate 11 none
  statics := none }

def pool5 : Array CpInfo := pool [(1, .class_ 2), (0, u "java/lang/Comparable"), (0, .class_ 4), (0, u "java/lang/Object")] 7

/-- java/lang/Comparable -/
def k5 : Class := { plain "java/lang/Comparable" (some 0) with
  accessFlags := 1537
  interfaces := #[]
  cf := some (fileOf pool5 1 #[] #[] 1537 3 #[] #[])
  fields := #[]
  methods := #[]
  instanceTypes := #[]
  staticTypes := #[]
  resolved := Array.replicate 12 none
  statics := none }

def pool6 : Array CpInfo := pool [(1, .class_ 2), (0, u "java/io/Serializable"), (0, .class_ 4), (0, u "java/lang/Object")] 2

/-- java/io/Serializable -/
def k6 : Class := { plain "java/io/Serializable" (some 0) with
  accessFlags := 1537
  interfaces := #[]
  cf := some (fileOf pool6 1 #[] #[] 1537 3 #[] #[])
  fields := #[]
  methods := #[]
  instanceTypes := #[]
  staticTypes := #[]
  resolved := Array.replicate 7 none
  statics := none }

def pool7 : Array CpInfo := pool [(2, .class_ 4), (1, u "java/lang/Enum"), (0, u "name"), (0, u "Ljava/lang/String;"), (2, u "ordinal"), (0, u "I"), (1, .class_ 14), (1, u "java/lang/Object"), (4, u "hash"), (86, .class_ 108), (1, u "java/lang/Enum$EnumDesc"), (2, .class_ 112), (0, u "java/lang/constant/Constable"), (0, .class_ 114), (0, u "java/lang/Comparable"), (0, .class_ 116), (0, u "java/io/Serializable")] 87

/-- java/lang/Enum -/
def k7 : Class := { plain "java/lang/Enum" (some 0) with
  accessFlags := 1057
  interfaces := #[4, 5, 6]
  cf := some (fileOf pool7 2 #[.nestMembers #[106]] #[] 1057 12 #[111, 113, 115] #[{ accessFlags := 18, nameIndex := 5, descriptorIndex := 6, attributes := #[] }, { accessFlags := 18, nameIndex := 9, descriptorIndex := 10, attributes := #[] }, { accessFlags := 2, nameIndex := 19, descriptorIndex := 10, attributes := #[] }])
  fields := #[{ name := "name", type := (.object "java/lang/String"), accessFlags := 18, slot := 0, constantValue := 0 }, { name := "ordinal", type := .int, accessFlags := 18, slot := 1, constantValue := 0 }, { name := "hash", type := .int, accessFlags := 2, slot := 2, constantValue := 0 }]
  methods := #[]
  instanceTypes := #[(.object "java/lang/String"), .int, .int]
  staticTypes := #[]
  resolved := Array.replicate 204 none
  statics := none }

def pool8 : Array CpInfo := pool [(1, .class_ 2), (0, u "com/example/coxswain/coxswain/wire/StatusCode"), (2, u "OK"), (0, u "Lcom/example/coxswain/coxswain/wire/StatusCode;"), (2, u "CANCELLED"), (2, u "UNKNOWN"), (2, u "INVALID_ARGUMENT"), (2, u "DEADLINE_EXCEEDED"), (2, u "NOT_FOUND"), (2, u "ALREADY_EXISTS"), (2, u "PERMISSION_DENIED"), (2, u "RESOURCE_EXHAUSTED"), (2, u "FAILED_PRECONDITION"), (2, u "ABORTED"), (2, u "OUT_OF_RANGE"), (2, u "UNIMPLEMENTED"), (2, u "INTERNAL"), (2, u "UNAVAILABLE"), (2, u "DATA_LOSS"), (2, u "UNAUTHENTICATED"), (2, u "$VALUES"), (0, u "[Lcom/example/coxswain/coxswain/wire/StatusCode;"), (6, .class_ 67), (1, u "java/lang/Enum"), (8, u "value"), (0, u "I"), (2, u "BY_VALUE")] 42

/-- com/example/coxswain/coxswain/wire/StatusCode -/
def k8 : Class := { plain "com/example/coxswain/coxswain/wire/StatusCode" (some 7) with
  accessFlags := 16433
  interfaces := #[]
  cf := some (fileOf pool8 1 #[] #[] 16433 65 #[] #[{ accessFlags := 16409, nameIndex := 5, descriptorIndex := 6, attributes := #[] }, { accessFlags := 16409, nameIndex := 9, descriptorIndex := 6, attributes := #[] }, { accessFlags := 16409, nameIndex := 12, descriptorIndex := 6, attributes := #[] }, { accessFlags := 16409, nameIndex := 15, descriptorIndex := 6, attributes := #[] }, { accessFlags := 16409, nameIndex := 18, descriptorIndex := 6, attributes := #[] }, { accessFlags := 16409, nameIndex := 21, descriptorIndex := 6, attributes := #[] }, { accessFlags := 16409, nameIndex := 24, descriptorIndex := 6, attributes := #[] }, { accessFlags := 16409, nameIndex := 27, descriptorIndex := 6, attributes := #[] }, { accessFlags := 16409, nameIndex := 30, descriptorIndex := 6, attributes := #[] }, { accessFlags := 16409, nameIndex := 33, descriptorIndex := 6, attributes := #[] }, { accessFlags := 16409, nameIndex := 36, descriptorIndex := 6, attributes := #[] }, { accessFlags := 16409, nameIndex := 39, descriptorIndex := 6, attributes := #[] }, { accessFlags := 16409, nameIndex := 42, descriptorIndex := 6, attributes := #[] }, { accessFlags := 16409, nameIndex := 45, descriptorIndex := 6, attributes := #[] }, { accessFlags := 16409, nameIndex := 48, descriptorIndex := 6, attributes := #[] }, { accessFlags := 16409, nameIndex := 51, descriptorIndex := 6, attributes := #[] }, { accessFlags := 16409, nameIndex := 54, descriptorIndex := 6, attributes := #[] }, { accessFlags := 26, nameIndex := 80, descriptorIndex := 58, attributes := #[] }, { accessFlags := 18, nameIndex := 76, descriptorIndex := 77, attributes := #[] }, { accessFlags := 4122, nameIndex := 57, descriptorIndex := 58, attributes := #[] }])
  fields := #[{ name := "OK", type := (.object "com/example/coxswain/coxswain/wire/StatusCode"), accessFlags := 16409, slot := 0, constantValue := 0 }, { name := "CANCELLED", type := (.object "com/example/coxswain/coxswain/wire/StatusCode"), accessFlags := 16409, slot := 1, constantValue := 0 }, { name := "UNKNOWN", type := (.object "com/example/coxswain/coxswain/wire/StatusCode"), accessFlags := 16409, slot := 2, constantValue := 0 }, { name := "INVALID_ARGUMENT", type := (.object "com/example/coxswain/coxswain/wire/StatusCode"), accessFlags := 16409, slot := 3, constantValue := 0 }, { name := "DEADLINE_EXCEEDED", type := (.object "com/example/coxswain/coxswain/wire/StatusCode"), accessFlags := 16409, slot := 4, constantValue := 0 }, { name := "NOT_FOUND", type := (.object "com/example/coxswain/coxswain/wire/StatusCode"), accessFlags := 16409, slot := 5, constantValue := 0 }, { name := "ALREADY_EXISTS", type := (.object "com/example/coxswain/coxswain/wire/StatusCode"), accessFlags := 16409, slot := 6, constantValue := 0 }, { name := "PERMISSION_DENIED", type := (.object "com/example/coxswain/coxswain/wire/StatusCode"), accessFlags := 16409, slot := 7, constantValue := 0 }, { name := "RESOURCE_EXHAUSTED", type := (.object "com/example/coxswain/coxswain/wire/StatusCode"), accessFlags := 16409, slot := 8, constantValue := 0 }, { name := "FAILED_PRECONDITION", type := (.object "com/example/coxswain/coxswain/wire/StatusCode"), accessFlags := 16409, slot := 9, constantValue := 0 }, { name := "ABORTED", type := (.object "com/example/coxswain/coxswain/wire/StatusCode"), accessFlags := 16409, slot := 10, constantValue := 0 }, { name := "OUT_OF_RANGE", type := (.object "com/example/coxswain/coxswain/wire/StatusCode"), accessFlags := 16409, slot := 11, constantValue := 0 }, { name := "UNIMPLEMENTED", type := (.object "com/example/coxswain/coxswain/wire/StatusCode"), accessFlags := 16409, slot := 12, constantValue := 0 }, { name := "INTERNAL", type := (.object "com/example/coxswain/coxswain/wire/StatusCode"), accessFlags := 16409, slot := 13, constantValue := 0 }, { name := "UNAVAILABLE", type := (.object "com/example/coxswain/coxswain/wire/StatusCode"), accessFlags := 16409, slot := 14, constantValue := 0 }, { name := "DATA_LOSS", type := (.object "com/example/coxswain/coxswain/wire/StatusCode"), accessFlags := 16409, slot := 15, constantValue := 0 }, { name := "UNAUTHENTICATED", type := (.object "com/example/coxswain/coxswain/wire/StatusCode"), accessFlags := 16409, slot := 16, constantValue := 0 }, { name := "BY_VALUE", type := (.array (.object "com/example/coxswain/coxswain/wire/StatusCode")), accessFlags := 26, slot := 17, constantValue := 0 }, { name := "value", type := .int, accessFlags := 18, slot := 3, constantValue := 0 }, { name := "$VALUES", type := (.array (.object "com/example/coxswain/coxswain/wire/StatusCode")), accessFlags := 4122, slot := 18, constantValue := 0 }]
  methods := #[]
  instanceTypes := #[(.object "java/lang/String"), .int, .int, .int]
  staticTypes := #[(.object "com/example/coxswain/coxswain/wire/StatusCode"), (.object "com/example/coxswain/coxswain/wire/StatusCode"), (.object "com/example/coxswain/coxswain/wire/StatusCode"), (.object "com/example/coxswain/coxswain/wire/StatusCode"), (.object "com/example/coxswain/coxswain/wire/StatusCode"), (.object "com/example/coxswain/coxswain/wire/StatusCode"), (.object "com/example/coxswain/coxswain/wire/StatusCode"), (.object "com/example/coxswain/coxswain/wire/StatusCode"), (.object "com/example/coxswain/coxswain/wire/StatusCode"), (.object "com/example/coxswain/coxswain/wire/StatusCode"), (.object "com/example/coxswain/coxswain/wire/StatusCode"), (.object "com/example/coxswain/coxswain/wire/StatusCode"), (.object "com/example/coxswain/coxswain/wire/StatusCode"), (.object "com/example/coxswain/coxswain/wire/StatusCode"), (.object "com/example/coxswain/coxswain/wire/StatusCode"), (.object "com/example/coxswain/coxswain/wire/StatusCode"), (.object "com/example/coxswain/coxswain/wire/StatusCode"), (.array (.object "com/example/coxswain/coxswain/wire/StatusCode")), (.array (.object "com/example/coxswain/coxswain/wire/StatusCode"))]
  resolved := Array.replicate 123 none
  statics := some 1 }

def pool9 : Array CpInfo := pool [(2, .class_ 4), (1, u "java/lang/CharSequence"), (42, .class_ 48), (0, u "java/lang/CharSequence$1CodePointIterator"), (10, .class_ 60), (0, u "java/lang/CharSequence$1CharIterator"), (5, .class_ 67), (0, u "java/lang/Object")] 63

/-- java/lang/CharSequence -/
def k9 : Class := { plain "java/lang/CharSequence" (some 0) with
  accessFlags := 1537
  interfaces := #[]
  cf := some (fileOf pool9 2 #[.nestMembers #[47, 59]] #[] 1537 66 #[] #[])
  fields := #[]
  methods := #[]
  instanceTypes := #[]
  staticTypes := #[]
  resolved := Array.replicate 131 none
  statics := none }

def pool10 : Array CpInfo := pool [(1, .class_ 2), (0, u "java/lang/constant/ConstantDesc"), (0, .class_ 4), (0, u "java/lang/Object")] 32

/-- java/lang/constant/ConstantDesc -/
def k10 : Class := { plain "java/lang/constant/ConstantDesc" (some 0) with
  accessFlags := 1537
  interfaces := #[]
  cf := some (fileOf pool10 1 #[] #[] 1537 3 #[] #[])
  fields := #[]
  methods := #[]
  instanceTypes := #[]
  staticTypes := #[]
  resolved := Array.replicate 37 none
  statics := none }

def pool11 : Array CpInfo := pool [(2, .class_ 4), (1, u "java/lang/Object"), (0, u "<init>"), (0, u "()V"), (3, .class_ 12), (1, u "java/lang/String"), (0, u "value"), (0, u "[B"), (2, u "coder"), (0, u "B"), (2, u "hash"), (0, u "I"), (2, u "hashIsZero"), (0, u "Z"), (13, u "COMPACT_STRINGS"), (534, .class_ 576), (0, u "java/lang/CharSequence"), (22, u "CASE_INSENSITIVE_ORDER"), (0, u "Ljava/util/Comparator;"), (500, u "serialPersistentFields"), (0, u "[Ljava/io/ObjectStreamField;"), (0, .class_ 1104), (0, u "java/lang/String$CaseInsensitiveComparator"), (1, .class_ 1107), (0, u "java/io/Serializable"), (0, .class_ 1109), (0, u "java/lang/Comparable"), (0, .class_ 1111), (0, u "java/lang/constant/Constable"), (0, .class_ 1113), (0, u "java/lang/constant/ConstantDesc"), (2, u "serialVersionUID"), (0, u "J"), (3, u "REPL"), (0, u "C"), (2, u "LATIN1"), (1, u "UTF16")] 323

def k11m0 : Method := { name := "<init>", desc := "()V", sig := { parameters := [], returnType := none }, accessFlags := 1, code := none }
/-- java/lang/String -/
def k11 : Class := { plain "java/lang/String" (some 0) with
  accessFlags := 49
  interfaces := #[6, 5, 9, 4, 10]
  cf := some (fileOf pool11 10 #[.nestMembers #[1103]] #[{ accessFlags := 1, nameIndex := 5, descriptorIndex := 6, attributes := #[] }] 49 2 #[1106, 1108, 575, 1110, 1112] #[{ accessFlags := 18, nameIndex := 13, descriptorIndex := 14, attributes := #[] }, { accessFlags := 18, nameIndex := 17, descriptorIndex := 18, attributes := #[] }, { accessFlags := 2, nameIndex := 21, descriptorIndex := 22, attributes := #[] }, { accessFlags := 2, nameIndex := 25, descriptorIndex := 26, attributes := #[] }, { accessFlags := 26, nameIndex := 1116, descriptorIndex := 1117, attributes := #[] }, { accessFlags := 24, nameIndex := 40, descriptorIndex := 26, attributes := #[] }, { accessFlags := 26, nameIndex := 1101, descriptorIndex := 1102, attributes := #[] }, { accessFlags := 26, nameIndex := 1121, descriptorIndex := 1122, attributes := #[] }, { accessFlags := 25, nameIndex := 599, descriptorIndex := 600, attributes := #[] }, { accessFlags := 24, nameIndex := 1125, descriptorIndex := 18, attributes := #[] }, { accessFlags := 24, nameIndex := 1127, descriptorIndex := 18, attributes := #[] }])
  fields := #[{ name := "value", type := (.array .byte), accessFlags := 18, slot := 0, constantValue := 0 }, { name := "coder", type := .byte, accessFlags := 18, slot := 1, constantValue := 0 }, { name := "hash", type := .int, accessFlags := 2, slot := 2, constantValue := 0 }, { name := "hashIsZero", type := .boolean, accessFlags := 2, slot := 3, constantValue := 0 }, { name := "serialVersionUID", type := .long, accessFlags := 26, slot := 0, constantValue := 0 }, { name := "COMPACT_STRINGS", type := .boolean, accessFlags := 24, slot := 1, constantValue := 0 }, { name := "serialPersistentFields", type := (.array (.object "java/io/ObjectStreamField")), accessFlags := 26, slot := 2, constantValue := 0 }, { name := "REPL", type := .char, accessFlags := 26, slot := 3, constantValue := 0 }, { name := "CASE_INSENSITIVE_ORDER", type := (.object "java/util/Comparator"), accessFlags := 25, slot := 4, constantValue := 0 }, { name := "LATIN1", type := .byte, accessFlags := 24, slot := 5, constantValue := 0 }, { name := "UTF16", type := .byte, accessFlags := 24, slot := 6, constantValue := 0 }]
  methods := #[k11m0]
  instanceTypes := #[(.array .byte), .byte, .int, .boolean]
  staticTypes := #[.long, .boolean, (.array (.object "java/io/ObjectStreamField")), .char, (.object "java/util/Comparator"), .byte, .byte]
  resolved := Array.replicate 1451 none
  statics := none }

def pool12 : Array CpInfo := pool [(2, .class_ 4), (1, u "java/lang/Object"), (0, u "<init>"), (0, u "()V"), (35, .class_ 44), (1, u "java/util/Objects"), (0, u "requireNonNull"), (48, u "(Ljava/lang/Object;Ljava/lang/String;)Ljava/lang/Object;")] 89

def k12m0 : Method := { name := "<init>", desc := "()V", sig := { parameters := [], returnType := none }, accessFlags := 2, code := none }
def k12c1 : Code := { maxStack := 3, maxLocals := 2, code := jdk_31_method_11_code, exceptionTable := #[], attributes := #[] }
def k12m1 : Method := { name := "requireNonNull", desc := "(Ljava/lang/Object;Ljava/lang/String;)Ljava/lang/Object;", sig := { parameters := [(.object "java/lang/Object"), (.object "java/lang/String")], returnType := some (.object "java/lang/Object") }, accessFlags := 9, code := some k12c1 }
/-- java/util/Objects -/
def k12 : Class := { plain "java/util/Objects" (some 0) with
  accessFlags := 49
  interfaces := #[]
  cf := some (fileOf pool12 42 #[] #[{ accessFlags := 2, nameIndex := 5, descriptorIndex := 6, attributes := #[] }, { accessFlags := 9, nameIndex := 45, descriptorIndex := 94, attributes := #[] }] 49 2 #[] #[])
  fields := #[]
  methods := #[k12m0, k12m1]
  instanceTypes := #[]
  staticTypes := #[]
  resolved := Array.replicate 184 none
  statics := none }

def pool13 : Array CpInfo := pool [(1, .class_ 2), (0, u "java/lang/Cloneable"), (0, .class_ 4), (0, u "java/lang/Object")] 2

/-- java/lang/Cloneable -/
def k13 : Class := { plain "java/lang/Cloneable" (some 0) with
  accessFlags := 1537
  interfaces := #[]
  cf := some (fileOf pool13 1 #[] #[] 1537 3 #[] #[])
  fields := #[]
  methods := #[]
  instanceTypes := #[]
  staticTypes := #[]
  resolved := Array.replicate 7 none
  statics := none }

/-- the primitive byte -/
def k14 : Class := { plain "byte" none with kind := .primitive 'B', accessFlags := 0x411 }
/-- [B -/
def k15 : Class := { plain "[B" (some 0) with kind := .array 14 .byte, interfaces := #[13, 6], accessFlags := 1041 }

/-- the primitive int -/
def k16 : Class := { plain "int" none with kind := .primitive 'I', accessFlags := 0x411 }
/-- [I -/
def k17 : Class := { plain "[I" (some 0) with kind := .array 16 .int, interfaces := #[13, 6], accessFlags := 1041 }

def heap : Heap := #[{ cls := 3, slots := #[.ref 3, .null], vm := .statics 3 },
  { cls := 8, slots := #[.null, .null, .ref 2, .null, .null, .null, .null, .null, .null, .null, .null, .null, .null, .null, .null, .null, .null, .null, .null], vm := .statics 8 },
  { cls := 8, slots := #[.null, .int 2, .int 0, .int 2], vm := .none },
  { cls := 15, slots := #[], vm := .none }]
def classes : Array Class := #[k0, k1, k2, k3, k4, k5, k6, k7, k8, k9, k10, k11, k12, k13, k14, k15, k16, k17]
def interned : List (Array UInt16 × Addr) := []
def slotsUsed : Nat := 25
def theMethod : MethodId := ⟨1, 1⟩
def args0 : Array Value := #[.int 2, .int 4, .int 3, .int 4, .int 5]
def aboutOver (below : List Frame) : State where
  vm := { classes := classes, interned := interned.toArray }
  heap := heap
  slotsUsed := slotsUsed
  threads := #[{ frames := .invoking theMethod args0 :: below }]
def below0 : List Frame := [.native { method := ⟨0, 0⟩, args := #[] }]
def about1 : State := aboutOver below0
def p0 : Program := .bare "" "" ""
def e0 : Env := launch0.env 0 0 0
theorem w_frames : about1.frames = Frame.invoking theMethod args0 :: below0 := rfl
set_option maxRecDepth 65536 in
theorem w_args : argsFit about1.vm theMethod args0 = true := by decide +kernel
set_option maxRecDepth 65536 in
theorem w_heap : heapFits about1 = true := by decide +kernel
set_option maxRecDepth 65536 in
theorem w_runnable : about1.curStatus? = some .runnable := by decide +kernel
set_option maxRecDepth 65536 in
theorem w_alone : about1.alone = true := by decide +kernel
set_option maxRecDepth 65536 in
theorem w_named : about1.methodNamed? x = some theMethod := by decide +kernel
set_option maxRecDepth 65536 in
theorem w_hears : about1.hears theMethod below0 = true := by decide +kernel
set_option maxRecDepth 65536 in
theorem w_ripe : about1.ripe theMethod args0 below0 = true := by decide +kernel
theorem w_running : about1.status = .running := rfl
set_option maxRecDepth 65536 in
theorem w_room : about1.hasRoom e0.platform room_1 = true :=
  launch0.hasRoom_least _ room_1 (by decide +kernel) (by decide +kernel) (by decide +kernel) (by decide +kernel) (by decide +kernel) (by decide +kernel)
theorem allAtoms_all (ts : List Jvm.Cond) (a : Array Jvm.Value) (st : Jvm.State) : (allAtoms ts).before a st = ts.all (fun c => c.before a st) := by
  induction ts with
  | nil => rfl
  | cons c t ih =>
    show (Jvm.Cond.and c (allAtoms t)).before a st = _
    rw [Jvm.Cond.before_and, ih, List.all_cons]
def words1 : List Jvm.Cond := Jvm.Cond.code x code maxLocals ret :: tables_1
/-- a 'code' word, met by the world's own term for the bytes: nothing is compared byte by byte -/
theorem code_word {y : MethodName} {bytes : ByteArray} {mx : Nat} {rt : Option FieldType} {a : Array Value} {s : State} {m : MethodId} {meth : Method} {c : Code} (h1 : s.methodNamed? y = some m) (h2 : s.vm.method? m = some meth) (h3 : meth.code = some c) (h4 : c.code = bytes)
    (h5 : (c.maxLocals == mx && c.exceptionTable.isEmpty && decide (c.maxStack ≤ mostOperands) && decide (meth.sig.returnType = rt) && !meth.locks && decide (parseMethodDescriptor y.desc = some meth.sig)) = true) : (Jvm.Cond.code y bytes mx rt).before a s = true := by
  simp only [Bool.and_eq_true, beq_iff_eq, Bool.not_eq_true', decide_eq_true_eq] at h5
  obtain ⟨⟨⟨⟨⟨g1, g2⟩, g3⟩, g4⟩, g5⟩, g6⟩ := h5
  simp [Cond.before, Cond.holds, Cond.value, h1, h2, h3, h4, g1, g2, g3, g4, g5, g6]
def isCode : Jvm.Cond → Bool
  | .code _ _ _ _ => true
  | _ => false
theorem all_split {L : List Jvm.Cond} {P : Jvm.Cond → Bool} (h1 : L.all (fun c => isCode c || P c) = true) (h2 : ∀ c ∈ L.filter isCode, P c = true) : L.all P = true := by
  refine List.all_eq_true.mpr fun c hc => ?_
  have h := List.all_eq_true.mp h1 c hc
  rcases Bool.eq_false_or_eq_true (isCode c) with hi | hi
  · exact h2 c (List.mem_filter.mpr ⟨hc, hi⟩)
  · simpa [hi] using h
set_option maxRecDepth 65536 in
theorem w_c0 : (Jvm.Cond.code x code maxLocals ret).before args0 about1 = true := code_word (m := ⟨1, 1⟩) (meth := k1m1) (c := k1c1) (by decide +kernel) rfl rfl rfl (by decide +kernel)
set_option maxRecDepth 65536 in
theorem w_c1 : (Jvm.Cond.code ({ cls := "com/example/coxswain/coxswain/wire/Status", name := "<init>", desc := "(Lcom/example/coxswain/coxswain/wire/StatusCode;Ljava/lang/String;[B)V" } : Jvm.MethodName) prog_40_method_1_code (4 : Nat) (Option.none : Option Jvm.ClassFile.FieldType)).before args0 about1 = true := code_word (m := ⟨3, 0⟩) (meth := k3m0) (c := k3c0) (by decide +kernel) rfl rfl rfl (by decide +kernel)
set_option maxRecDepth 65536 in
theorem w_c2 : (Jvm.Cond.code ({ cls := "java/lang/Record", name := "<init>", desc := "()V" } : Jvm.MethodName) jdk_30_method_1_code (1 : Nat) (Option.none : Option Jvm.ClassFile.FieldType)).before args0 about1 = true := code_word (m := ⟨2, 0⟩) (meth := k2m0) (c := k2c0) (by decide +kernel) rfl rfl rfl (by decide +kernel)
set_option maxRecDepth 65536 in
theorem w_c3 : (Jvm.Cond.code ({ cls := "java/lang/Object", name := "<init>", desc := "()V" } : Jvm.MethodName) object_method_1_code (1 : Nat) (Option.none : Option Jvm.ClassFile.FieldType)).before args0 about1 = true := code_word (m := ⟨0, 0⟩) (meth := k0m0) (c := k0c0) (by decide +kernel) rfl rfl rfl (by decide +kernel)
set_option maxRecDepth 65536 in
theorem w_c4 : (Jvm.Cond.code ({ cls := "java/util/Objects", name := "requireNonNull", desc := "(Ljava/lang/Object;Ljava/lang/String;)Ljava/lang/Object;" } : Jvm.MethodName) jdk_31_method_11_code (2 : Nat) (Option.some (Jvm.ClassFile.FieldType.object "java/lang/Object"))).before args0 about1 = true := code_word (m := ⟨12, 1⟩) (meth := k12m1) (c := k12c1) (by decide +kernel) rfl rfl rfl (by decide +kernel)
set_option maxRecDepth 65536 in
theorem w_c5 : (Jvm.Cond.code ({ cls := "com/example/coxswain/coxswain/wire/StatusDetailsPinLaw", name := "scramble", desc := "([B)V" } : Jvm.MethodName) method_4_code (1 : Nat) (Option.none : Option Jvm.ClassFile.FieldType)).before args0 about1 = true := code_word (m := ⟨1, 3⟩) (meth := k1m3) (c := k1c3) (by decide +kernel) rfl rfl rfl (by decide +kernel)
set_option maxRecDepth 65536 in
theorem w_c6 : (Jvm.Cond.code ({ cls := "com/example/coxswain/coxswain/wire/Status", name := "details", desc := "()[B" } : Jvm.MethodName) prog_40_method_4_code (1 : Nat) (Option.some (Jvm.ClassFile.FieldType.array Jvm.ClassFile.FieldType.byte))).before args0 about1 = true := code_word (m := ⟨3, 1⟩) (meth := k3m1) (c := k3c1) (by decide +kernel) rfl rfl rfl (by decide +kernel)
set_option maxRecDepth 65536 in
theorem w_c7 : (Jvm.Cond.code ({ cls := "com/example/coxswain/coxswain/wire/StatusDetailsPinLaw", name := "same", desc := "([BIBBB)Z" } : Jvm.MethodName) method_3_code (5 : Nat) (Option.some Jvm.ClassFile.FieldType.boolean)).before args0 about1 = true := code_word (m := ⟨1, 2⟩) (meth := k1m2) (c := k1c2) (by decide +kernel) rfl rfl rfl (by decide +kernel)
def codes1 : List Jvm.Cond := [Jvm.Cond.code x code maxLocals ret, Jvm.Cond.code ({ cls := "com/example/coxswain/coxswain/wire/Status", name := "<init>", desc := "(Lcom/example/coxswain/coxswain/wire/StatusCode;Ljava/lang/String;[B)V" } : Jvm.MethodName) prog_40_method_1_code (4 : Nat) (Option.none : Option Jvm.ClassFile.FieldType), Jvm.Cond.code ({ cls := "java/lang/Record", name := "<init>", desc := "()V" } : Jvm.MethodName) jdk_30_method_1_code (1 : Nat) (Option.none : Option Jvm.ClassFile.FieldType), Jvm.Cond.code ({ cls := "java/lang/Object", name := "<init>", desc := "()V" } : Jvm.MethodName) object_method_1_code (1 : Nat) (Option.none : Option Jvm.ClassFile.FieldType), Jvm.Cond.code ({ cls := "java/util/Objects", name := "requireNonNull", desc := "(Ljava/lang/Object;Ljava/lang/String;)Ljava/lang/Object;" } : Jvm.MethodName) jdk_31_method_11_code (2 : Nat) (Option.some (Jvm.ClassFile.FieldType.object "java/lang/Object")), Jvm.Cond.code ({ cls := "com/example/coxswain/coxswain/wire/StatusDetailsPinLaw", name := "scramble", desc := "([B)V" } : Jvm.MethodName) method_4_code (1 : Nat) (Option.none : Option Jvm.ClassFile.FieldType), Jvm.Cond.code ({ cls := "com/example/coxswain/coxswain/wire/Status", name := "details", desc := "()[B" } : Jvm.MethodName) prog_40_method_4_code (1 : Nat) (Option.some (Jvm.ClassFile.FieldType.array Jvm.ClassFile.FieldType.byte)), Jvm.Cond.code ({ cls := "com/example/coxswain/coxswain/wire/StatusDetailsPinLaw", name := "same", desc := "([BIBBB)Z" } : Jvm.MethodName) method_3_code (5 : Nat) (Option.some Jvm.ClassFile.FieldType.boolean)]
set_option maxRecDepth 65536 in
theorem codes_eq : words1.filter isCode = codes1 := rfl
theorem w_codes : ∀ c ∈ words1.filter isCode, c.before args0 about1 = true := by
  rw [codes_eq]
  intro c hc
  simp only [codes1, List.mem_cons, List.not_mem_nil, or_false] at hc
  rcases hc with rfl | rfl | rfl | rfl | rfl | rfl | rfl | rfl
  · exact w_c0
  · exact w_c1
  · exact w_c2
  · exact w_c3
  · exact w_c4
  · exact w_c5
  · exact w_c6
  · exact w_c7
set_option maxRecDepth 65536 in
theorem w_t1 : (words1.take 24).all (fun c => isCode c || c.before args0 about1) = true := by decide +kernel
set_option maxRecDepth 65536 in
theorem w_t2 : ((words1.drop 24).take 24).all (fun c => isCode c || c.before args0 about1) = true := by decide +kernel
set_option maxRecDepth 65536 in
theorem w_t3 : ((words1.drop 24).drop 24).all (fun c => isCode c || c.before args0 about1) = true := by decide +kernel
theorem w_tables : (allAtoms (Jvm.Cond.code x code maxLocals ret :: tables_1)).before args0 about1 = true := by
  rw [allAtoms_all]
  show words1.all (fun c => c.before args0 about1) = true
  refine all_split ?_ w_codes
  rw [← List.take_append_drop 24 words1, List.all_append, w_t1, ← List.take_append_drop 24 (words1.drop 24), List.all_append, w_t2, w_t3]
  rfl
set_option maxRecDepth 65536 in
theorem w_case : (Jvm.Cond.and given_1 narrow_1).before args0 about1 = true := by decide +kernel
theorem w_applies : (headSpec (Jvm.Cond.code x code maxLocals ret :: tables_1) room_1).applies x e0.platform about1 = true :=
  (Spec.applies_iff w_frames).mpr ⟨w_running, w_runnable, w_alone, w_named, w_hears, w_ripe, w_room, w_tables⟩
theorem atStart : AtStart classFile x code maxLocals ret World_1 tables_1 room_1 Calls_1 rest_1 Pre_1 launch0 p0 e0 about1 theMethod args0 below0 :=
  ⟨lists_1, trivial, launch0.admits_env _ _ _, launch0.least_env, fairChoices_fair.cas, fairChoices_fair.clock, w_frames, w_args, w_heap, w_applies, trivial, trivial, w_case⟩
end start1
theorem witness_1 : WitnessClaimed_1 := ⟨start1.p0, start1.e0, start1.about1, start1.theMethod, start1.args0, start1.below0, start1.atStart⟩
end Jvm.Pilot.@@N@@
