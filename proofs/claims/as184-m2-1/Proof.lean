import JvmDerived
import JvmDerived.Pilot.@@N@@Statement
import JvmDerived.Pilot.@@N@@Code
set_option linter.unusedVariables false
set_option linter.unusedSimpArgs false
namespace Jvm.RoadKit
open Sem ClassFile Op Lib Jvm.Stand Jvm.Free Jvm.LawKit
section Own
variable {p : Program} {l : Launch} {e : Env} {R : Room} {s : State} {m : MethodId} {args : Array Value} {below : List Frame} {meth : Method} {c : Code} {T : State} {locs : List Loc} {cells slots : Nat} {Z : State} {a0 : Array Value} {h : Heap}
/-- from T with the frame g the run comes to its end, and the end is as K says -/
def own_End (p : Program) (e : Env) (below : List Frame) (s : State) (K : Option Value → Heap → List Loc → Prop) (kc ks : Nat) (T : State) (g : JFrame) : Prop :=
  ∃ s₂ o, Steps p.tables e below (T.setTop g) s₂ ∧ s₂.status = .running ∧ Ended s₂ below o ∧ ∃ v L, o = .returned v ∧ K v s₂.heap L ∧ FrameEnd s o s₂ L kc ks
/-- what a body returns that leaves the heap as it was -/
def own_pure (r : Value) (h0 : Heap) (n0 : Nat) (v : Option Value) (h : Heap) (L : List Loc) : Prop := v = some r ∧ Fr n0 L ∧ h = h0
theorem own_go {K : Option Value → Heap → List Loc → Prop} {kc ks : Nat} {T' : State} {g g' : JFrame} (st : ∀ t, Steps p.tables e below (T'.setTop g') t → Steps p.tables e below (T.setTop g) t) (k : own_End p e below s K kc ks T' g') : own_End p e below s K kc ks T g := by
  obtain ⟨s₂, o, h1, r⟩ := k
  exact ⟨s₂, o, st _ h1, r⟩
theorem own_retW (X : Stand p l e R s m args below meth c T locs cells slots) (hx : p.tables.exec = Jvm.exec) {pc : Nat} {Ls : Array Slot} {w : Value} {t : FieldType} {i : Instr} {rest : List Value} (hret : meth.sig.returnType = some t) (hlk : meth.locks = false) (hn : narrow t w = w)
    (hi : (i = .ireturn ∧ (t = .int ∨ t = .boolean ∨ t = .byte ∨ t = .char ∨ t = .short) ∧ ∃ z, w = .int z) ∨ (i = .lreturn ∧ t = .long ∧ ∃ z, w = .long z) ∨ (i = .dreturn ∧ t = .double ∧ ∃ z, w = .double z) ∨ (i = .freturn ∧ t = .float ∧ ∃ z, w = .float z) ∨ (i = .areturn ∧ t.isReference = true ∧ w.isRef = true))
    (hd : decode c.code pc = .ok (i, 1)) {K : Option Value → Heap → List Loc → Prop} {kc ks : Nat} (hK : K (some w) T.heap locs) (h1 : cells ≤ kc) (h2 : slots ≤ ks) : own_End p e below s K kc ks T (mkF m pc Ls (w :: rest)) := by
  obtain ⟨fs, hr, hrun, hended, hW, hsame⟩ := X.leave (v := some w) (fun q => by rw [hret] at q; cases q) hlk
  exact ⟨_, _, retOut X hx hret hn hi hd hr, hrun, hended, _, _, rfl, hK, ⟨_, rfl⟩, hW, hsame.mono h1 h2⟩
theorem own_retV (X : Stand p l e R s m args below meth c T locs cells slots) (hx : p.tables.exec = Jvm.exec) {pc : Nat} {Ls : Array Slot} (hret : meth.sig.returnType = none) (hlk : meth.locks = false)
    (hd : decode c.code pc = .ok (.return_, 1)) {K : Option Value → Heap → List Loc → Prop} {kc ks : Nat} (hK : K none T.heap locs) (h1 : cells ≤ kc) (h2 : slots ≤ ks) : own_End p e below s K kc ks T (mkF m pc Ls []) := by
  obtain ⟨fs, hr, hrun, hended, hW, hsame⟩ := X.leave (v := none) (fun _ => rfl) hlk
  exact ⟨_, _, X.returnOut hx hret hd hr, hrun, hended, _, _, rfl, hK, ⟨_, rfl⟩, hW, hsame.mono h1 h2⟩
theorem own_callS (X : Stand p l e R s m args below meth c T locs cells slots) (hx : p.tables.exec = Jvm.exec) (hZ : Z.Warmed39 s.vm) {own : String} {index : Nat} {y : MethodName} {bytes : ByteArray} {maxL : Nat} {ret : Option FieldType} {rm : Room} {W : Nat} {as' : Array Value} {Q : Option Value → Heap → List Loc → Prop}
    (hown : s.vm.findClass own = some m.cls) (w1 : (Cond.methodLink own index y).before a0 Z = true) (w2 : (Cond.static y).before a0 Z = true) (w4 : (Cond.code y bytes maxL ret).before a0 Z = true) (hy : y.cls ≠ "java/lang/invoke/MethodHandle" ∧ y.cls ≠ "java/lang/invoke/VarHandle") (w3 : (Cond.initialized y.cls).before a0 Z = true)
    (hM : MetFree l y (head1 [Cond.code y bytes maxL ret] rm) (fun a U => a = as' ∧ Z.Warmed39 U.vm ∧ U.heap = h) (fun _ _ _ _ _ => True) (fun _ U o U' => ∃ v L, o = .returned v ∧ Q v U'.heap L ∧ FrameEnd U o U' L rm.cells rm.slots))
    (eT : T.heap = h) (hf : rm.frames + 1 ≤ R.frames) (hl : W + (maxL + 11) + rm.locals ≤ R.locals) {g : JFrame} (hg : g.method = m) (hsize : g.locals.size = c.maxLocals) {argsL rest : List Value} (has : argsL.toArray = as')
    (hlen : ∀ sig, parseMethodDescriptor y.desc = some sig → argsL.length = sig.parameters.length) (hstack : g.stack = argsL.reverse ++ rest) (hW : 2 * g.monitorRoom + (rest.map fun v => v.category).sum ≤ W) (hdg : decode c.code g.pc = .ok (.invokestatic index, 3)) (hc : cells + rm.cells ≤ R.cells) (hs : slots + rm.slots ≤ R.slots) :
    ∃ v T' L', Stand p l e R s m args below meth c T' (locs ++ L') (cells + rm.cells) (slots + rm.slots) ∧ Q v T'.heap L' ∧ ∀ target, Steps p.tables e below (T'.setTop { g with pc := g.pc + 3, stack := v.toList ++ rest }) target → Steps p.tables e below (T.setTop g) target := by
  obtain ⟨v, _, ⟨T', L', k', n'⟩, -, X', ⟨Lc, hQ, q1, q2, q3⟩, st⟩ := Jvm.LawKit.callS X hx (y := y) hown (mvT hZ w1) (mvT hZ w2) (mvT hZ w3) (mvT hZ w4) hy (backOf (W := W) hM hZ w4 w3 hf hl) hg hsize hlen hstack hW hdg (fun _ _ => ⟨has, eT, hc, hs⟩)
  dsimp only [Pt.U, Pt.locs, Pt.cells, Pt.slots] at X' q1 q2 q3 st hQ
  subst q1 q2 q3
  exact ⟨v, T', Lc, X', hQ, st⟩
theorem own_callN (X : Stand p l e R s m args below meth c T locs cells slots) (hx : p.tables.exec = Jvm.exec) (hZ : Z.Warmed39 s.vm) {own : String} {index : Nat} {y : MethodName} {bytes : ByteArray} {maxL : Nat} {rm : Room} {W : Nat} {as' : Array Value} {Q : Option Value → Heap → List Loc → Prop}
    (hown : s.vm.findClass own = some m.cls) (w1 : (Cond.methodLink own index y).before a0 Z = true) (w2 : (Cond.instanceMethod y).before a0 Z = true) (w4 : (Cond.code y bytes maxL none).before a0 Z = true) (hy : y.cls ≠ "java/lang/invoke/MethodHandle" ∧ y.cls ≠ "java/lang/invoke/VarHandle") (w3 : (Cond.initialized y.cls).before a0 Z = true)
    (hM : MetFree l y (head1 [Cond.code y bytes maxL none] rm) (fun a U => a = as' ∧ Z.Warmed39 U.vm ∧ U.heap = h) (fun _ _ _ _ _ => True) (fun _ U o U' => ∃ v L, o = .returned v ∧ Q v U'.heap L ∧ FrameEnd U o U' L rm.cells rm.slots))
    (eT : T.heap = h) (hf : rm.frames + 1 ≤ R.frames) (hl : W + (maxL + 11) + rm.locals ≤ R.locals) {g : JFrame} (hg : g.method = m) (hsize : g.locals.size = c.maxLocals) {argsL rest : List Value} {a : Addr} (has : (.ref a :: argsL).toArray = as') (hy1 : y.name = "<init>")
    (hlen : ∀ sig, parseMethodDescriptor y.desc = some sig → argsL.length = sig.parameters.length) (hstack : g.stack = argsL.reverse ++ .ref a :: rest) (hW : 2 * g.monitorRoom + (rest.map fun v => v.category).sum ≤ W) (hdg : decode c.code g.pc = .ok (.invokespecial index, 3)) (hc : cells + rm.cells ≤ R.cells) (hs : slots + rm.slots ≤ R.slots) :
    ∃ v T' L', Stand p l e R s m args below meth c T' (locs ++ L') (cells + rm.cells) (slots + rm.slots) ∧ Q v T'.heap L' ∧ ∀ target, Steps p.tables e below (T'.setTop { g with pc := g.pc + 3, stack := v.toList ++ rest }) target → Steps p.tables e below (T.setTop g) target := by
  obtain ⟨v, _, ⟨T', L', k', n'⟩, -, X', ⟨Lc, hQ, q1, q2, q3⟩, st⟩ := X.specialBack hx (y := y) hy1 hown (mvT hZ w1) (mvT hZ w2) (mvT hZ w4) hy (backOf (W := W) hM hZ w4 w3 hf hl) hg hsize (Steps.refl _) hlen hstack hW hdg (fun _ _ => ⟨has, eT, hc, hs⟩)
  dsimp only [Pt.U, Pt.locs, Pt.cells, Pt.slots] at X' q1 q2 q3 st hQ
  subst q1 q2 q3
  exact ⟨v, T', Lc, X', hQ, fun target k => st.trans k⟩
theorem own_callV (X : Stand p l e R s m args below meth c T locs cells slots) (hx : p.tables.exec = Jvm.exec) (hZ : Z.Warmed39 s.vm) {own C : String} {index : Nat} {y z : MethodName} {bytes : ByteArray} {maxL : Nat} {ret : Option FieldType} {rm : Room} {W : Nat} {as' : Array Value} {Q : Option Value → Heap → List Loc → Prop}
    (hown : s.vm.findClass own = some m.cls) (w1 : (Cond.methodLink own index y).before a0 Z = true) (w2 : (Cond.declares y).before a0 Z = true) (w5 : (Cond.selects C y z).before a0 Z = true) (w6 : (Cond.instanceMethod z).before a0 Z = true) {b : Addr} (E : Exa Z h b C) (w4 : (Cond.code z bytes maxL ret).before a0 Z = true) (hy : y.cls ≠ "java/lang/invoke/MethodHandle" ∧ y.cls ≠ "java/lang/invoke/VarHandle") (w3 : (Cond.initialized z.cls).before a0 Z = true)
    (hM : MetFree l z (head1 [Cond.code z bytes maxL ret] rm) (fun a U => a = as' ∧ Z.Warmed39 U.vm ∧ U.heap = h) (fun _ _ _ _ _ => True) (fun _ U o U' => ∃ v L, o = .returned v ∧ Q v U'.heap L ∧ FrameEnd U o U' L rm.cells rm.slots))
    (eT : T.heap = h) (hf : rm.frames + 1 ≤ R.frames) (hl : W + (maxL + 11) + rm.locals ≤ R.locals) {g : JFrame} (hg : g.method = m) (hsize : g.locals.size = c.maxLocals) {argsL rest : List Value} (has : (.ref b :: argsL).toArray = as') (hnf : NotFace s y)
    (hlen : ∀ sig, parseMethodDescriptor y.desc = some sig → argsL.length = sig.parameters.length) (hstack : g.stack = argsL.reverse ++ .ref b :: rest) (hW : 2 * g.monitorRoom + (rest.map fun v => v.category).sum ≤ W) (hdg : decode c.code g.pc = .ok (.invokevirtual index, 3)) (hc : cells + rm.cells ≤ R.cells) (hs : slots + rm.slots ≤ R.slots) :
    ∃ v T' L', Stand p l e R s m args below meth c T' (locs ++ L') (cells + rm.cells) (slots + rm.slots) ∧ Q v T'.heap L' ∧ ∀ target, Steps p.tables e below (T'.setTop { g with pc := g.pc + 3, stack := v.toList ++ rest }) target → Steps p.tables e below (T.setTop g) target := by
  obtain ⟨cq, kq, qa, qb, qc⟩ := isOf hZ eT E
  obtain ⟨v, _, ⟨T', L', k', n'⟩, -, X', ⟨Lc, hQ, q1, q2, q3⟩, st⟩ := X.virtualBack hx (y := y) (z := z) hown (mvT hZ w1) (mvT hZ w2) hnf (mvT hZ w5) (mvT hZ w6) hy (backOf (W := W) hM hZ w4 w3 hf hl) qa qc hg hsize (Steps.refl _) hlen hstack hW hdg (fun _ _ => ⟨has, eT, hc, hs⟩)
  dsimp only [Pt.U, Pt.locs, Pt.cells, Pt.slots] at X' q1 q2 q3 st hQ
  subst q1 q2 q3
  exact ⟨v, T', Lc, X', hQ, fun target k => st.trans k⟩
end Own
end Jvm.RoadKit
namespace Jvm.Pilot.@@N@@
open Jvm Jvm.ClassFile Sem Op Lib Jvm.Free Jvm.Stand Jvm.LawKit Jvm.RoadKit Bundle Jvm.Pilot.@@N@@.Jvm.D
def own_hi (c : Int32) : Int32 := if c < 65536 then 0 else if 1114111 < c then 0 else 1
def own_isc (a w : Addr) (c : Int32) : Int32 := if c < 32 then (if a = w then (if 0 < c then 1 else 0) else if c = 9 then 1 else if c = 10 then 1 else if c = 13 then 1 else 0) else if 55295 < c then (if c < 57344 then own_hi c else if 65533 < c then own_hi c else 1) else 1
def own_rest (v c : Int32) : Int32 := if c = 65534 then 0 else if c = 65535 then 0 else if c = 0 then 0 else if c < 32 then (if v = 0 then (if c = 9 then 1 else if c = 10 then 1 else if c = 13 then 1 else 0) else 1) else 1
def own_exp (v c : Int32) : Int32 := if c < 0 then 0 else if 1114111 < c then 0 else if c < 55296 then own_rest v c else if 57343 < c then own_rest v c else 0
theorem own_same {a w : Addr} {v : Int32} (h : (v = 1 ∧ a = w) ∨ (v = 0 ∧ ¬ a = w)) (c : Int32) : own_isc a w c = own_exp v c := by
  obtain ⟨n, hn⟩ : ∃ n, n = c.toInt := ⟨_, rfl⟩
  have e0 : (0 : Int32).toInt = 0 := rfl
  have e9 : (9 : Int32).toInt = 9 := rfl
  have e10 : (10 : Int32).toInt = 10 := rfl
  have e13 : (13 : Int32).toInt = 13 := rfl
  have e32 : (32 : Int32).toInt = 32 := rfl
  have e55295 : (55295 : Int32).toInt = 55295 := rfl
  have e55296 : (55296 : Int32).toInt = 55296 := rfl
  have e57343 : (57343 : Int32).toInt = 57343 := rfl
  have e57344 : (57344 : Int32).toInt = 57344 := rfl
  have e65533 : (65533 : Int32).toInt = 65533 := rfl
  have e65534 : (65534 : Int32).toInt = 65534 := rfl
  have e65535 : (65535 : Int32).toInt = 65535 := rfl
  have e65536 : (65536 : Int32).toInt = 65536 := rfl
  have e1114111 : (1114111 : Int32).toInt = 1114111 := rfl
  rcases (by omega : (n < 0) ∨ (n = 0) ∨ (0 < n ∧ n < 32) ∨ (32 ≤ n ∧ n ≤ 55295) ∨ (55296 ≤ n ∧ n ≤ 57343) ∨ (57344 ≤ n ∧ n ≤ 65533) ∨ (n = 65534) ∨ (n = 65535) ∨ (65536 ≤ n ∧ n ≤ 1114111) ∨ (1114111 < n)) with q0 | q1 | q2 | q3 | q4 | q5 | q6 | q7 | q8 | q9
  · have f0_0 : c < (0 : Int32) := by rw [Int32.lt_iff_toInt_lt]; omega
    have f0_1 : c < (32 : Int32) := by rw [Int32.lt_iff_toInt_lt]; omega
    have f0_2 : ¬ ((0 : Int32) < c) := by rw [Int32.lt_iff_toInt_lt]; omega
    have f0_3 : ¬ ((55295 : Int32) < c) := by rw [Int32.lt_iff_toInt_lt]; omega
    have f0_4 : c < (57344 : Int32) := by rw [Int32.lt_iff_toInt_lt]; omega
    have f0_5 : ¬ ((65533 : Int32) < c) := by rw [Int32.lt_iff_toInt_lt]; omega
    have f0_6 : c < (65536 : Int32) := by rw [Int32.lt_iff_toInt_lt]; omega
    have f0_7 : ¬ ((1114111 : Int32) < c) := by rw [Int32.lt_iff_toInt_lt]; omega
    have f0_8 : c < (55296 : Int32) := by rw [Int32.lt_iff_toInt_lt]; omega
    have f0_9 : ¬ ((57343 : Int32) < c) := by rw [Int32.lt_iff_toInt_lt]; omega
    have f0_10 : ¬ c = 65534 := by rw [← Int32.toInt_inj]; omega
    have f0_11 : ¬ c = 65535 := by rw [← Int32.toInt_inj]; omega
    have f0_12 : ¬ c = 0 := by rw [← Int32.toInt_inj]; omega
    have f0_13 : ¬ c = 9 := by rw [← Int32.toInt_inj]; omega
    have f0_14 : ¬ c = 10 := by rw [← Int32.toInt_inj]; omega
    have f0_15 : ¬ c = 13 := by rw [← Int32.toInt_inj]; omega
    rcases h with ⟨rfl, rfl⟩ | ⟨rfl, h⟩ <;> simp only [own_isc, own_hi, own_exp, own_rest, f0_0, f0_1, f0_2, f0_3, f0_4, f0_5, f0_6, f0_7, f0_8, f0_9, f0_10, f0_11, f0_12, f0_13, f0_14, f0_15, if_true, if_false] <;> first | done | rfl | decide | (simp; done) | (simp [*]; done)
  · have f1_0 : ¬ (c < (0 : Int32)) := by rw [Int32.lt_iff_toInt_lt]; omega
    have f1_1 : c < (32 : Int32) := by rw [Int32.lt_iff_toInt_lt]; omega
    have f1_2 : ¬ ((0 : Int32) < c) := by rw [Int32.lt_iff_toInt_lt]; omega
    have f1_3 : ¬ ((55295 : Int32) < c) := by rw [Int32.lt_iff_toInt_lt]; omega
    have f1_4 : c < (57344 : Int32) := by rw [Int32.lt_iff_toInt_lt]; omega
    have f1_5 : ¬ ((65533 : Int32) < c) := by rw [Int32.lt_iff_toInt_lt]; omega
    have f1_6 : c < (65536 : Int32) := by rw [Int32.lt_iff_toInt_lt]; omega
    have f1_7 : ¬ ((1114111 : Int32) < c) := by rw [Int32.lt_iff_toInt_lt]; omega
    have f1_8 : c < (55296 : Int32) := by rw [Int32.lt_iff_toInt_lt]; omega
    have f1_9 : ¬ ((57343 : Int32) < c) := by rw [Int32.lt_iff_toInt_lt]; omega
    have f1_10 : ¬ c = 65534 := by rw [← Int32.toInt_inj]; omega
    have f1_11 : ¬ c = 65535 := by rw [← Int32.toInt_inj]; omega
    have f1_12 : c = 0 := by rw [← Int32.toInt_inj]; omega
    have f1_13 : ¬ c = 9 := by rw [← Int32.toInt_inj]; omega
    have f1_14 : ¬ c = 10 := by rw [← Int32.toInt_inj]; omega
    have f1_15 : ¬ c = 13 := by rw [← Int32.toInt_inj]; omega
    rcases h with ⟨rfl, rfl⟩ | ⟨rfl, h⟩ <;> simp only [own_isc, own_hi, own_exp, own_rest, f1_0, f1_1, f1_2, f1_3, f1_4, f1_5, f1_6, f1_7, f1_8, f1_9, f1_10, f1_11, f1_12, f1_13, f1_14, f1_15, if_true, if_false] <;> first | done | rfl | decide | (simp; done) | (simp [*]; done)
  · have f2_0 : ¬ (c < (0 : Int32)) := by rw [Int32.lt_iff_toInt_lt]; omega
    have f2_1 : c < (32 : Int32) := by rw [Int32.lt_iff_toInt_lt]; omega
    have f2_2 : (0 : Int32) < c := by rw [Int32.lt_iff_toInt_lt]; omega
    have f2_3 : ¬ ((55295 : Int32) < c) := by rw [Int32.lt_iff_toInt_lt]; omega
    have f2_4 : c < (57344 : Int32) := by rw [Int32.lt_iff_toInt_lt]; omega
    have f2_5 : ¬ ((65533 : Int32) < c) := by rw [Int32.lt_iff_toInt_lt]; omega
    have f2_6 : c < (65536 : Int32) := by rw [Int32.lt_iff_toInt_lt]; omega
    have f2_7 : ¬ ((1114111 : Int32) < c) := by rw [Int32.lt_iff_toInt_lt]; omega
    have f2_8 : c < (55296 : Int32) := by rw [Int32.lt_iff_toInt_lt]; omega
    have f2_9 : ¬ ((57343 : Int32) < c) := by rw [Int32.lt_iff_toInt_lt]; omega
    have f2_10 : ¬ c = 65534 := by rw [← Int32.toInt_inj]; omega
    have f2_11 : ¬ c = 65535 := by rw [← Int32.toInt_inj]; omega
    have f2_12 : ¬ c = 0 := by rw [← Int32.toInt_inj]; omega
    rcases h with ⟨rfl, rfl⟩ | ⟨rfl, h⟩ <;> simp only [own_isc, own_hi, own_exp, own_rest, f2_0, f2_1, f2_2, f2_3, f2_4, f2_5, f2_6, f2_7, f2_8, f2_9, f2_10, f2_11, f2_12, if_true, if_false] <;> first | done | rfl | decide | (simp; done) | (simp [*]; done)
  · have f3_0 : ¬ (c < (0 : Int32)) := by rw [Int32.lt_iff_toInt_lt]; omega
    have f3_1 : ¬ (c < (32 : Int32)) := by rw [Int32.lt_iff_toInt_lt]; omega
    have f3_2 : (0 : Int32) < c := by rw [Int32.lt_iff_toInt_lt]; omega
    have f3_3 : ¬ ((55295 : Int32) < c) := by rw [Int32.lt_iff_toInt_lt]; omega
    have f3_4 : c < (57344 : Int32) := by rw [Int32.lt_iff_toInt_lt]; omega
    have f3_5 : ¬ ((65533 : Int32) < c) := by rw [Int32.lt_iff_toInt_lt]; omega
    have f3_6 : c < (65536 : Int32) := by rw [Int32.lt_iff_toInt_lt]; omega
    have f3_7 : ¬ ((1114111 : Int32) < c) := by rw [Int32.lt_iff_toInt_lt]; omega
    have f3_8 : c < (55296 : Int32) := by rw [Int32.lt_iff_toInt_lt]; omega
    have f3_9 : ¬ ((57343 : Int32) < c) := by rw [Int32.lt_iff_toInt_lt]; omega
    have f3_10 : ¬ c = 65534 := by rw [← Int32.toInt_inj]; omega
    have f3_11 : ¬ c = 65535 := by rw [← Int32.toInt_inj]; omega
    have f3_12 : ¬ c = 0 := by rw [← Int32.toInt_inj]; omega
    have f3_13 : ¬ c = 9 := by rw [← Int32.toInt_inj]; omega
    have f3_14 : ¬ c = 10 := by rw [← Int32.toInt_inj]; omega
    have f3_15 : ¬ c = 13 := by rw [← Int32.toInt_inj]; omega
    rcases h with ⟨rfl, rfl⟩ | ⟨rfl, h⟩ <;> simp only [own_isc, own_hi, own_exp, own_rest, f3_0, f3_1, f3_2, f3_3, f3_4, f3_5, f3_6, f3_7, f3_8, f3_9, f3_10, f3_11, f3_12, f3_13, f3_14, f3_15, if_true, if_false] <;> first | done | rfl | decide | (simp; done) | (simp [*]; done)
  · have f4_0 : ¬ (c < (0 : Int32)) := by rw [Int32.lt_iff_toInt_lt]; omega
    have f4_1 : ¬ (c < (32 : Int32)) := by rw [Int32.lt_iff_toInt_lt]; omega
    have f4_2 : (0 : Int32) < c := by rw [Int32.lt_iff_toInt_lt]; omega
    have f4_3 : (55295 : Int32) < c := by rw [Int32.lt_iff_toInt_lt]; omega
    have f4_4 : c < (57344 : Int32) := by rw [Int32.lt_iff_toInt_lt]; omega
    have f4_5 : ¬ ((65533 : Int32) < c) := by rw [Int32.lt_iff_toInt_lt]; omega
    have f4_6 : c < (65536 : Int32) := by rw [Int32.lt_iff_toInt_lt]; omega
    have f4_7 : ¬ ((1114111 : Int32) < c) := by rw [Int32.lt_iff_toInt_lt]; omega
    have f4_8 : ¬ (c < (55296 : Int32)) := by rw [Int32.lt_iff_toInt_lt]; omega
    have f4_9 : ¬ ((57343 : Int32) < c) := by rw [Int32.lt_iff_toInt_lt]; omega
    have f4_10 : ¬ c = 65534 := by rw [← Int32.toInt_inj]; omega
    have f4_11 : ¬ c = 65535 := by rw [← Int32.toInt_inj]; omega
    have f4_12 : ¬ c = 0 := by rw [← Int32.toInt_inj]; omega
    have f4_13 : ¬ c = 9 := by rw [← Int32.toInt_inj]; omega
    have f4_14 : ¬ c = 10 := by rw [← Int32.toInt_inj]; omega
    have f4_15 : ¬ c = 13 := by rw [← Int32.toInt_inj]; omega
    rcases h with ⟨rfl, rfl⟩ | ⟨rfl, h⟩ <;> simp only [own_isc, own_hi, own_exp, own_rest, f4_0, f4_1, f4_2, f4_3, f4_4, f4_5, f4_6, f4_7, f4_8, f4_9, f4_10, f4_11, f4_12, f4_13, f4_14, f4_15, if_true, if_false] <;> first | done | rfl | decide | (simp; done) | (simp [*]; done)
  · have f5_0 : ¬ (c < (0 : Int32)) := by rw [Int32.lt_iff_toInt_lt]; omega
    have f5_1 : ¬ (c < (32 : Int32)) := by rw [Int32.lt_iff_toInt_lt]; omega
    have f5_2 : (0 : Int32) < c := by rw [Int32.lt_iff_toInt_lt]; omega
    have f5_3 : (55295 : Int32) < c := by rw [Int32.lt_iff_toInt_lt]; omega
    have f5_4 : ¬ (c < (57344 : Int32)) := by rw [Int32.lt_iff_toInt_lt]; omega
    have f5_5 : ¬ ((65533 : Int32) < c) := by rw [Int32.lt_iff_toInt_lt]; omega
    have f5_6 : c < (65536 : Int32) := by rw [Int32.lt_iff_toInt_lt]; omega
    have f5_7 : ¬ ((1114111 : Int32) < c) := by rw [Int32.lt_iff_toInt_lt]; omega
    have f5_8 : ¬ (c < (55296 : Int32)) := by rw [Int32.lt_iff_toInt_lt]; omega
    have f5_9 : (57343 : Int32) < c := by rw [Int32.lt_iff_toInt_lt]; omega
    have f5_10 : ¬ c = 65534 := by rw [← Int32.toInt_inj]; omega
    have f5_11 : ¬ c = 65535 := by rw [← Int32.toInt_inj]; omega
    have f5_12 : ¬ c = 0 := by rw [← Int32.toInt_inj]; omega
    have f5_13 : ¬ c = 9 := by rw [← Int32.toInt_inj]; omega
    have f5_14 : ¬ c = 10 := by rw [← Int32.toInt_inj]; omega
    have f5_15 : ¬ c = 13 := by rw [← Int32.toInt_inj]; omega
    rcases h with ⟨rfl, rfl⟩ | ⟨rfl, h⟩ <;> simp only [own_isc, own_hi, own_exp, own_rest, f5_0, f5_1, f5_2, f5_3, f5_4, f5_5, f5_6, f5_7, f5_8, f5_9, f5_10, f5_11, f5_12, f5_13, f5_14, f5_15, if_true, if_false] <;> first | done | rfl | decide | (simp; done) | (simp [*]; done)
  · have f6_0 : ¬ (c < (0 : Int32)) := by rw [Int32.lt_iff_toInt_lt]; omega
    have f6_1 : ¬ (c < (32 : Int32)) := by rw [Int32.lt_iff_toInt_lt]; omega
    have f6_2 : (0 : Int32) < c := by rw [Int32.lt_iff_toInt_lt]; omega
    have f6_3 : (55295 : Int32) < c := by rw [Int32.lt_iff_toInt_lt]; omega
    have f6_4 : ¬ (c < (57344 : Int32)) := by rw [Int32.lt_iff_toInt_lt]; omega
    have f6_5 : (65533 : Int32) < c := by rw [Int32.lt_iff_toInt_lt]; omega
    have f6_6 : c < (65536 : Int32) := by rw [Int32.lt_iff_toInt_lt]; omega
    have f6_7 : ¬ ((1114111 : Int32) < c) := by rw [Int32.lt_iff_toInt_lt]; omega
    have f6_8 : ¬ (c < (55296 : Int32)) := by rw [Int32.lt_iff_toInt_lt]; omega
    have f6_9 : (57343 : Int32) < c := by rw [Int32.lt_iff_toInt_lt]; omega
    have f6_10 : c = 65534 := by rw [← Int32.toInt_inj]; omega
    have f6_11 : ¬ c = 65535 := by rw [← Int32.toInt_inj]; omega
    have f6_12 : ¬ c = 0 := by rw [← Int32.toInt_inj]; omega
    have f6_13 : ¬ c = 9 := by rw [← Int32.toInt_inj]; omega
    have f6_14 : ¬ c = 10 := by rw [← Int32.toInt_inj]; omega
    have f6_15 : ¬ c = 13 := by rw [← Int32.toInt_inj]; omega
    rcases h with ⟨rfl, rfl⟩ | ⟨rfl, h⟩ <;> simp only [own_isc, own_hi, own_exp, own_rest, f6_0, f6_1, f6_2, f6_3, f6_4, f6_5, f6_6, f6_7, f6_8, f6_9, f6_10, f6_11, f6_12, f6_13, f6_14, f6_15, if_true, if_false] <;> first | done | rfl | decide | (simp; done) | (simp [*]; done)
  · have f7_0 : ¬ (c < (0 : Int32)) := by rw [Int32.lt_iff_toInt_lt]; omega
    have f7_1 : ¬ (c < (32 : Int32)) := by rw [Int32.lt_iff_toInt_lt]; omega
    have f7_2 : (0 : Int32) < c := by rw [Int32.lt_iff_toInt_lt]; omega
    have f7_3 : (55295 : Int32) < c := by rw [Int32.lt_iff_toInt_lt]; omega
    have f7_4 : ¬ (c < (57344 : Int32)) := by rw [Int32.lt_iff_toInt_lt]; omega
    have f7_5 : (65533 : Int32) < c := by rw [Int32.lt_iff_toInt_lt]; omega
    have f7_6 : c < (65536 : Int32) := by rw [Int32.lt_iff_toInt_lt]; omega
    have f7_7 : ¬ ((1114111 : Int32) < c) := by rw [Int32.lt_iff_toInt_lt]; omega
    have f7_8 : ¬ (c < (55296 : Int32)) := by rw [Int32.lt_iff_toInt_lt]; omega
    have f7_9 : (57343 : Int32) < c := by rw [Int32.lt_iff_toInt_lt]; omega
    have f7_10 : ¬ c = 65534 := by rw [← Int32.toInt_inj]; omega
    have f7_11 : c = 65535 := by rw [← Int32.toInt_inj]; omega
    have f7_12 : ¬ c = 0 := by rw [← Int32.toInt_inj]; omega
    have f7_13 : ¬ c = 9 := by rw [← Int32.toInt_inj]; omega
    have f7_14 : ¬ c = 10 := by rw [← Int32.toInt_inj]; omega
    have f7_15 : ¬ c = 13 := by rw [← Int32.toInt_inj]; omega
    rcases h with ⟨rfl, rfl⟩ | ⟨rfl, h⟩ <;> simp only [own_isc, own_hi, own_exp, own_rest, f7_0, f7_1, f7_2, f7_3, f7_4, f7_5, f7_6, f7_7, f7_8, f7_9, f7_10, f7_11, f7_12, f7_13, f7_14, f7_15, if_true, if_false] <;> first | done | rfl | decide | (simp; done) | (simp [*]; done)
  · have f8_0 : ¬ (c < (0 : Int32)) := by rw [Int32.lt_iff_toInt_lt]; omega
    have f8_1 : ¬ (c < (32 : Int32)) := by rw [Int32.lt_iff_toInt_lt]; omega
    have f8_2 : (0 : Int32) < c := by rw [Int32.lt_iff_toInt_lt]; omega
    have f8_3 : (55295 : Int32) < c := by rw [Int32.lt_iff_toInt_lt]; omega
    have f8_4 : ¬ (c < (57344 : Int32)) := by rw [Int32.lt_iff_toInt_lt]; omega
    have f8_5 : (65533 : Int32) < c := by rw [Int32.lt_iff_toInt_lt]; omega
    have f8_6 : ¬ (c < (65536 : Int32)) := by rw [Int32.lt_iff_toInt_lt]; omega
    have f8_7 : ¬ ((1114111 : Int32) < c) := by rw [Int32.lt_iff_toInt_lt]; omega
    have f8_8 : ¬ (c < (55296 : Int32)) := by rw [Int32.lt_iff_toInt_lt]; omega
    have f8_9 : (57343 : Int32) < c := by rw [Int32.lt_iff_toInt_lt]; omega
    have f8_10 : ¬ c = 65534 := by rw [← Int32.toInt_inj]; omega
    have f8_11 : ¬ c = 65535 := by rw [← Int32.toInt_inj]; omega
    have f8_12 : ¬ c = 0 := by rw [← Int32.toInt_inj]; omega
    have f8_13 : ¬ c = 9 := by rw [← Int32.toInt_inj]; omega
    have f8_14 : ¬ c = 10 := by rw [← Int32.toInt_inj]; omega
    have f8_15 : ¬ c = 13 := by rw [← Int32.toInt_inj]; omega
    rcases h with ⟨rfl, rfl⟩ | ⟨rfl, h⟩ <;> simp only [own_isc, own_hi, own_exp, own_rest, f8_0, f8_1, f8_2, f8_3, f8_4, f8_5, f8_6, f8_7, f8_8, f8_9, f8_10, f8_11, f8_12, f8_13, f8_14, f8_15, if_true, if_false] <;> first | done | rfl | decide | (simp; done) | (simp [*]; done)
  · have f9_0 : ¬ (c < (0 : Int32)) := by rw [Int32.lt_iff_toInt_lt]; omega
    have f9_1 : ¬ (c < (32 : Int32)) := by rw [Int32.lt_iff_toInt_lt]; omega
    have f9_2 : (0 : Int32) < c := by rw [Int32.lt_iff_toInt_lt]; omega
    have f9_3 : (55295 : Int32) < c := by rw [Int32.lt_iff_toInt_lt]; omega
    have f9_4 : ¬ (c < (57344 : Int32)) := by rw [Int32.lt_iff_toInt_lt]; omega
    have f9_5 : (65533 : Int32) < c := by rw [Int32.lt_iff_toInt_lt]; omega
    have f9_6 : ¬ (c < (65536 : Int32)) := by rw [Int32.lt_iff_toInt_lt]; omega
    have f9_7 : (1114111 : Int32) < c := by rw [Int32.lt_iff_toInt_lt]; omega
    have f9_8 : ¬ (c < (55296 : Int32)) := by rw [Int32.lt_iff_toInt_lt]; omega
    have f9_9 : (57343 : Int32) < c := by rw [Int32.lt_iff_toInt_lt]; omega
    have f9_10 : ¬ c = 65534 := by rw [← Int32.toInt_inj]; omega
    have f9_11 : ¬ c = 65535 := by rw [← Int32.toInt_inj]; omega
    have f9_12 : ¬ c = 0 := by rw [← Int32.toInt_inj]; omega
    have f9_13 : ¬ c = 9 := by rw [← Int32.toInt_inj]; omega
    have f9_14 : ¬ c = 10 := by rw [← Int32.toInt_inj]; omega
    have f9_15 : ¬ c = 13 := by rw [← Int32.toInt_inj]; omega
    rcases h with ⟨rfl, rfl⟩ | ⟨rfl, h⟩ <;> simp only [own_isc, own_hi, own_exp, own_rest, f9_0, f9_1, f9_2, f9_3, f9_4, f9_5, f9_6, f9_7, f9_8, f9_9, f9_10, f9_11, f9_12, f9_13, f9_14, f9_15, if_true, if_false] <;> first | done | rfl | decide | (simp; done) | (simp [*]; done)
theorem own_and7 (x : Int32) : ¬ (x &&& 7) < 0 ∧ (x &&& 7) < 8 := by
  have h1 : (x &&& 7).toBitVec = x.toBitVec &&& 7#32 := rfl
  have h2 : (x.toBitVec &&& 7#32).toNat ≤ 7 := by rw [BitVec.toNat_and]; exact Nat.and_le_right
  have h3 : (x &&& 7).toInt = ((x.toBitVec &&& 7#32).toNat : Int) := by
    show (x &&& 7).toBitVec.toInt = _
    rw [h1, BitVec.toInt_eq_toNat_cond, if_pos (by omega)]
  have e0 : (0 : Int32).toInt = 0 := rfl
  have e8 : (8 : Int32).toInt = 8 := rfl
  rw [Int32.lt_iff_toInt_lt, Int32.lt_iff_toInt_lt]
  omega
def own_law (n0 : Nat) (v : Option Value) (h : Heap) (L : List Loc) : Prop := v = some (.int 1) ∧ Fr n0 L
theorem own_ord {args : Array Value} {s : State} {t : Term} {C n d : String} {x : Addr} {k : Int32} (ht : t.eval args s none [] s = some (.ref x)) (h : (Jvm.Cond.eq (.field t C n d) (.int k)).value args s none s [] = some true) : Fld s s.heap x C n d (.int k) := by
  obtain ⟨v, w, h1, h2, -, k2⟩ := cmp_v (Or.inl h)
  cases (Term.int_eval k).symm.trans h2
  obtain ⟨z, rfl⟩ : ∃ z, v = .int z := k2
  have q : z = k := gotT (Cond.eq_ints h1 (Term.int_eval k)) h
  subst q
  exact Fld.start ((fld_at ht).symm.trans h1)
theorem ef_rm1 (m : MethodId) (x0 : Addr) (x1 : Int32) : entryFrame m #[(.ref x0), (.int x1)] 2 = mkF m 0 #[.val (.ref x0), .val (.int x1)] [] := by first | (simp [entryFrame, mkF, argsToLocals, Value.category]; done) | rfl
theorem pn_com_example_vonare_vonare_tokenizer_XmlVersion : plainName "com/example/vonare/vonare/tokenizer/XmlVersion" = true := by first | (simp [plainName, overriddenIn]; done) | decide +kernel
theorem d1_0 : decode prog_99_method_7_code 0 = .ok (.iload_n 1, 1) := by decide +kernel
theorem d1_1 : decode prog_99_method_7_code 1 = .ok (.bipush 32, 2) := by decide +kernel
theorem d1_3 : decode prog_99_method_7_code 3 = .ok (.if_icmp .ge 46, 3) := by decide +kernel
theorem d1_6 : decode prog_99_method_7_code 6 = .ok (.aload_n 0, 1) := by decide +kernel
theorem d1_7 : decode prog_99_method_7_code 7 = .ok (.getstatic 7, 3) := by decide +kernel
theorem d1_10 : decode prog_99_method_7_code 10 = .ok (.if_acmp .ne 15, 3) := by decide +kernel
theorem d1_13 : decode prog_99_method_7_code 13 = .ok (.iload_n 1, 1) := by decide +kernel
theorem d1_14 : decode prog_99_method_7_code 14 = .ok (.ifCond .le 7, 3) := by decide +kernel
theorem d1_17 : decode prog_99_method_7_code 17 = .ok (.iconst 1, 1) := by decide +kernel
theorem d1_18 : decode prog_99_method_7_code 18 = .ok (.goto 30, 3) := by decide +kernel
theorem d1_48 : decode prog_99_method_7_code 48 = .ok (.ireturn, 1) := by decide +kernel
theorem d1_21 : decode prog_99_method_7_code 21 = .ok (.iconst 0, 1) := by decide +kernel
theorem d1_22 : decode prog_99_method_7_code 22 = .ok (.goto 26, 3) := by decide +kernel
theorem d1_25 : decode prog_99_method_7_code 25 = .ok (.iload_n 1, 1) := by decide +kernel
theorem d1_26 : decode prog_99_method_7_code 26 = .ok (.bipush 9, 2) := by decide +kernel
theorem d1_28 : decode prog_99_method_7_code 28 = .ok (.if_icmp .eq 15, 3) := by decide +kernel
theorem d1_43 : decode prog_99_method_7_code 43 = .ok (.iconst 1, 1) := by decide +kernel
theorem d1_44 : decode prog_99_method_7_code 44 = .ok (.goto 4, 3) := by decide +kernel
theorem d1_31 : decode prog_99_method_7_code 31 = .ok (.iload_n 1, 1) := by decide +kernel
theorem d1_32 : decode prog_99_method_7_code 32 = .ok (.bipush 10, 2) := by decide +kernel
theorem d1_34 : decode prog_99_method_7_code 34 = .ok (.if_icmp .eq 9, 3) := by decide +kernel
theorem d1_37 : decode prog_99_method_7_code 37 = .ok (.iload_n 1, 1) := by decide +kernel
theorem d1_38 : decode prog_99_method_7_code 38 = .ok (.bipush 13, 2) := by decide +kernel
theorem d1_40 : decode prog_99_method_7_code 40 = .ok (.if_icmp .ne 7, 3) := by decide +kernel
theorem d1_47 : decode prog_99_method_7_code 47 = .ok (.iconst 0, 1) := by decide +kernel
theorem d1_49 : decode prog_99_method_7_code 49 = .ok (.iload_n 1, 1) := by decide +kernel
theorem d1_50 : decode prog_99_method_7_code 50 = .ok (.ldc 43, 2) := by decide +kernel
theorem d1_52 : decode prog_99_method_7_code 52 = .ok (.if_icmp .le 27, 3) := by decide +kernel
theorem d1_55 : decode prog_99_method_7_code 55 = .ok (.iload_n 1, 1) := by decide +kernel
theorem d1_56 : decode prog_99_method_7_code 56 = .ok (.ldc 44, 2) := by decide +kernel
theorem d1_58 : decode prog_99_method_7_code 58 = .ok (.if_icmp .lt 9, 3) := by decide +kernel
theorem d1_67 : decode prog_99_method_7_code 67 = .ok (.iload_n 1, 1) := by decide +kernel
theorem d1_68 : decode prog_99_method_7_code 68 = .ok (.ldc 46, 2) := by decide +kernel
theorem d1_70 : decode prog_99_method_7_code 70 = .ok (.if_icmp .lt 13, 3) := by decide +kernel
theorem d1_83 : decode prog_99_method_7_code 83 = .ok (.iconst 0, 1) := by decide +kernel
theorem d1_84 : decode prog_99_method_7_code 84 = .ok (.ireturn, 1) := by decide +kernel
theorem d1_73 : decode prog_99_method_7_code 73 = .ok (.iload_n 1, 1) := by decide +kernel
theorem d1_74 : decode prog_99_method_7_code 74 = .ok (.ldc 49, 2) := by decide +kernel
theorem d1_76 : decode prog_99_method_7_code 76 = .ok (.if_icmp .gt 7, 3) := by decide +kernel
theorem d1_79 : decode prog_99_method_7_code 79 = .ok (.iconst 1, 1) := by decide +kernel
theorem d1_80 : decode prog_99_method_7_code 80 = .ok (.goto 4, 3) := by decide +kernel
theorem d1_61 : decode prog_99_method_7_code 61 = .ok (.iload_n 1, 1) := by decide +kernel
theorem d1_62 : decode prog_99_method_7_code 62 = .ok (.ldc 45, 2) := by decide +kernel
theorem d1_64 : decode prog_99_method_7_code 64 = .ok (.if_icmp .le 15, 3) := by decide +kernel
set_option maxRecDepth 65536 in
set_option maxHeartbeats 40000000 in
theorem rm1 (l : Launch) (Z : State) (a0 : Array Value) (hw : ∀ d ∈ tables_1, d.before a0 Z = true) (ws : List Jvm.Cond) (a1 : Addr) (p1 : Int32) (wI : Addr) (h0 : Heap) (n0 : Nat) (Z0 : n0 ≤ h0.size) (SI : Sta Z h0 "com/example/vonare/vonare/tokenizer/XmlVersion" "XML_1_1" "Lcom/example/vonare/vonare/tokenizer/XmlVersion;" (.ref wI)) :
    MetFree l (⟨"com/example/vonare/vonare/tokenizer/XmlVersion", "isChar", "(I)Z"⟩ : MethodName) (head1 (Jvm.Cond.code (⟨"com/example/vonare/vonare/tokenizer/XmlVersion", "isChar", "(I)Z"⟩ : MethodName) prog_99_method_7_code 2 (some .boolean) :: ws) ({ frames := 0, cells := 0, slots := 0, locals := 0 } : Room)) (fun a U => a = #[(.ref a1), (.int p1)] ∧ Z.Warmed39 U.vm ∧ U.heap = h0) (fun _ _ _ _ _ => True) (fun _ U o U' => ∃ v L, o = .returned v ∧ own_pure (.int (own_isc a1 wI p1)) h0 n0 v U'.heap L ∧ FrameEnd U o U' L ({ frames := 0, cells := 0, slots := 0, locals := 0 } : Room).cells ({ frames := 0, cells := 0, slots := 0, locals := 0 } : Room).slots) := by
  refine MetFree.of_bodySF (plainFor_of_name pn_com_example_vonare_vonare_tokenizer_XmlVersion) hisR ?_
  intro p e s m args below meth c s₁ Bd hml0 hP hK
  obtain ⟨rfl, hZ, hh⟩ := hP
  have hx := Bd.exec
  have hby := Bd.bytes
  have hml : c.maxLocals = 2 := hml0
  have hown : s.vm.findClass "com/example/vonare/vonare/tokenizer/XmlVersion" = some m.cls := findClass_of_methodNamed Bd.named
  have hnm := (name_of_methodNamed Bd.named Bd.method).1
  have X0 : Stand p l e ({ frames := 0, cells := 0, slots := 0, locals := 0 } : Room) s m #[(.ref a1), (.int p1)] below meth c s₁ [] 0 0 := Stand.of_body Bd
  have e0 : s₁.heap = h0 := by rw [← hh, Bd.state]; rfl
  have N0 := Fr.nil n0
  suffices own_main : own_End p e below s (own_pure (.int (own_isc a1 wI p1)) h0 n0) ({ frames := 0, cells := 0, slots := 0, locals := 0 } : Room).cells ({ frames := 0, cells := 0, slots := 0, locals := 0 } : Room).slots s₁ (mkF m 0 #[.val (.ref a1), .val (.int p1)] []) by
    obtain ⟨s₂, o, k1, k2, k3, k4⟩ := own_main
    exact ⟨s₂, o, castTop (ef_rm1 m a1 p1) k1, k2, k3, k4⟩
  show own_End _ _ _ _ _ _ _ s₁ (mkF m 0 #[.val (.ref a1), .val (.int p1)] [])
  refine own_go (fun t k => XS.iloadN X0.here hx rfl (hb hby d1_0) rfl k) ?_
  show own_End _ _ _ _ _ _ _ s₁ (mkF m 1 #[.val (.ref a1), .val (.int p1)] [(.int p1)])
  refine own_go (fun t k => XS.bipush X0.here hx rfl (hb hby d1_1) k) ?_
  show own_End _ _ _ _ _ _ _ s₁ (mkF m 3 #[.val (.ref a1), .val (.int p1)] [(.int (32 : Int32)), (.int p1)])
  by_cases hc3 : p1 < (32 : Int32)
  · refine own_go (fun t k => XS.icmpNo X0.here hx rfl (hb hby d1_3) rfl (tlt hc3).2.1 k) ?_
    show own_End _ _ _ _ _ _ _ s₁ (mkF m 6 #[.val (.ref a1), .val (.int p1)] [])
    refine own_go (fun t k => XS.aloadN X0.here hx rfl (hb hby d1_6) rfl rfl k) ?_
    show own_End _ _ _ _ _ _ _ s₁ (mkF m 7 #[.val (.ref a1), .val (.int p1)] [(.ref a1)])
    obtain ⟨T1, X1, e1, st1⟩ := getS2 X0 hx hZ hown (host := "") (Or.inl (hw _ (List.mem_of_getElem? (i := 16) rfl))) Via.refl e0 SI (g := (mkF m 7 #[.val (.ref a1), .val (.int p1)] [(.ref a1)])) rfl (hb hby d1_7)
    refine own_go st1 ?_
    show own_End _ _ _ _ _ _ _ T1 (mkF m 10 #[.val (.ref a1), .val (.int p1)] [(.ref wI), (.ref a1)])
    by_cases ha10 : a1 = wI
    · refine own_go (fun t k => Jvm.RoadKit.acmp (g := (mkF m 10 #[.val (.ref a1), .val (.int p1)] [(.ref wI), (.ref a1)])) X1 hx rfl rfl rfl (pc0 := 10) (pc' := 13) (same := true) rfl (hb hby d1_10) rfl (decide_eq_true (congrArg Value.ref ha10)) (by decide) (by decide) k) ?_
      show own_End _ _ _ _ _ _ _ T1 (mkF m 13 #[.val (.ref a1), .val (.int p1)] [])
      refine own_go (fun t k => XS.iloadN X1.here hx rfl (hb hby d1_13) rfl k) ?_
      show own_End _ _ _ _ _ _ _ T1 (mkF m 14 #[.val (.ref a1), .val (.int p1)] [(.int p1)])
      by_cases hc14 : (0 : Int32) < p1
      · refine own_go (fun t k => XS.ifNo X1.here hx rfl (hb hby d1_14) rfl ((if0 _ _).trans (tlt hc14).2.2.2) k) ?_
        show own_End _ _ _ _ _ _ _ T1 (mkF m 17 #[.val (.ref a1), .val (.int p1)] [])
        refine own_go (fun t k => XS.iconst X1.here hx rfl (hb hby d1_17) k) ?_
        show own_End _ _ _ _ _ _ _ T1 (mkF m 18 #[.val (.ref a1), .val (.int p1)] [(.int (1 : Int32))])
        refine own_go (fun t k => XS.goto X1.here hx rfl (pc0 := 18) (pc' := 48) rfl (hb hby d1_18) (by decide) (by decide) k) ?_
        show own_End _ _ _ _ _ _ _ T1 (mkF m 48 #[.val (.ref a1), .val (.int p1)] [(.int (1 : Int32))])
        exact own_retW X1 hx Bd.returns Bd.notSynchronized rfl (Or.inl ⟨rfl, by simp, _, rfl⟩) (hb hby d1_48) ⟨by simp [own_isc, own_hi, hc3, ha10, hc14], N0, e1⟩ (by decide) (by decide)
      · refine own_go (fun t k => XS.ifYes X1.here hx rfl (pc0 := 14) (pc' := 21) rfl (hb hby d1_14) rfl ((if0 _ _).trans (flt hc14).2.2.2) (by decide) (by decide) k) ?_
        show own_End _ _ _ _ _ _ _ T1 (mkF m 21 #[.val (.ref a1), .val (.int p1)] [])
        refine own_go (fun t k => XS.iconst X1.here hx rfl (hb hby d1_21) k) ?_
        show own_End _ _ _ _ _ _ _ T1 (mkF m 22 #[.val (.ref a1), .val (.int p1)] [(.int (0 : Int32))])
        refine own_go (fun t k => XS.goto X1.here hx rfl (pc0 := 22) (pc' := 48) rfl (hb hby d1_22) (by decide) (by decide) k) ?_
        show own_End _ _ _ _ _ _ _ T1 (mkF m 48 #[.val (.ref a1), .val (.int p1)] [(.int (0 : Int32))])
        exact own_retW X1 hx Bd.returns Bd.notSynchronized rfl (Or.inl ⟨rfl, by simp, _, rfl⟩) (hb hby d1_48) ⟨by simp [own_isc, own_hi, hc3, ha10, hc14], N0, e1⟩ (by decide) (by decide)
    · refine own_go (fun t k => Jvm.RoadKit.acmp (g := (mkF m 10 #[.val (.ref a1), .val (.int p1)] [(.ref wI), (.ref a1)])) X1 hx rfl rfl rfl (pc0 := 10) (pc' := 25) (same := false) rfl (hb hby d1_10) rfl (decide_eq_false fun q => ha10 (Value.ref.inj q)) (by decide) (by decide) k) ?_
      show own_End _ _ _ _ _ _ _ T1 (mkF m 25 #[.val (.ref a1), .val (.int p1)] [])
      refine own_go (fun t k => XS.iloadN X1.here hx rfl (hb hby d1_25) rfl k) ?_
      show own_End _ _ _ _ _ _ _ T1 (mkF m 26 #[.val (.ref a1), .val (.int p1)] [(.int p1)])
      refine own_go (fun t k => XS.bipush X1.here hx rfl (hb hby d1_26) k) ?_
      show own_End _ _ _ _ _ _ _ T1 (mkF m 28 #[.val (.ref a1), .val (.int p1)] [(.int (9 : Int32)), (.int p1)])
      by_cases hc28 : p1 = (9 : Int32)
      · refine own_go (fun t k => XS.icmpYes X1.here hx rfl (pc0 := 28) (pc' := 43) rfl (hb hby d1_28) rfl (teq hc28).1 (by decide) (by decide) k) ?_
        show own_End _ _ _ _ _ _ _ T1 (mkF m 43 #[.val (.ref a1), .val (.int p1)] [])
        refine own_go (fun t k => XS.iconst X1.here hx rfl (hb hby d1_43) k) ?_
        show own_End _ _ _ _ _ _ _ T1 (mkF m 44 #[.val (.ref a1), .val (.int p1)] [(.int (1 : Int32))])
        refine own_go (fun t k => XS.goto X1.here hx rfl (pc0 := 44) (pc' := 48) rfl (hb hby d1_44) (by decide) (by decide) k) ?_
        show own_End _ _ _ _ _ _ _ T1 (mkF m 48 #[.val (.ref a1), .val (.int p1)] [(.int (1 : Int32))])
        exact own_retW X1 hx Bd.returns Bd.notSynchronized rfl (Or.inl ⟨rfl, by simp, _, rfl⟩) (hb hby d1_48) ⟨by simp [own_isc, own_hi, hc3, ha10, hc28], N0, e1⟩ (by decide) (by decide)
      · refine own_go (fun t k => XS.icmpNo X1.here hx rfl (hb hby d1_28) rfl (feq hc28).1 k) ?_
        show own_End _ _ _ _ _ _ _ T1 (mkF m 31 #[.val (.ref a1), .val (.int p1)] [])
        refine own_go (fun t k => XS.iloadN X1.here hx rfl (hb hby d1_31) rfl k) ?_
        show own_End _ _ _ _ _ _ _ T1 (mkF m 32 #[.val (.ref a1), .val (.int p1)] [(.int p1)])
        refine own_go (fun t k => XS.bipush X1.here hx rfl (hb hby d1_32) k) ?_
        show own_End _ _ _ _ _ _ _ T1 (mkF m 34 #[.val (.ref a1), .val (.int p1)] [(.int (10 : Int32)), (.int p1)])
        by_cases hc34 : p1 = (10 : Int32)
        · refine own_go (fun t k => XS.icmpYes X1.here hx rfl (pc0 := 34) (pc' := 43) rfl (hb hby d1_34) rfl (teq hc34).1 (by decide) (by decide) k) ?_
          show own_End _ _ _ _ _ _ _ T1 (mkF m 43 #[.val (.ref a1), .val (.int p1)] [])
          refine own_go (fun t k => XS.iconst X1.here hx rfl (hb hby d1_43) k) ?_
          show own_End _ _ _ _ _ _ _ T1 (mkF m 44 #[.val (.ref a1), .val (.int p1)] [(.int (1 : Int32))])
          refine own_go (fun t k => XS.goto X1.here hx rfl (pc0 := 44) (pc' := 48) rfl (hb hby d1_44) (by decide) (by decide) k) ?_
          show own_End _ _ _ _ _ _ _ T1 (mkF m 48 #[.val (.ref a1), .val (.int p1)] [(.int (1 : Int32))])
          exact own_retW X1 hx Bd.returns Bd.notSynchronized rfl (Or.inl ⟨rfl, by simp, _, rfl⟩) (hb hby d1_48) ⟨by simp [own_isc, own_hi, hc3, ha10, hc28, hc34], N0, e1⟩ (by decide) (by decide)
        · refine own_go (fun t k => XS.icmpNo X1.here hx rfl (hb hby d1_34) rfl (feq hc34).1 k) ?_
          show own_End _ _ _ _ _ _ _ T1 (mkF m 37 #[.val (.ref a1), .val (.int p1)] [])
          refine own_go (fun t k => XS.iloadN X1.here hx rfl (hb hby d1_37) rfl k) ?_
          show own_End _ _ _ _ _ _ _ T1 (mkF m 38 #[.val (.ref a1), .val (.int p1)] [(.int p1)])
          refine own_go (fun t k => XS.bipush X1.here hx rfl (hb hby d1_38) k) ?_
          show own_End _ _ _ _ _ _ _ T1 (mkF m 40 #[.val (.ref a1), .val (.int p1)] [(.int (13 : Int32)), (.int p1)])
          by_cases hc40 : p1 = (13 : Int32)
          · refine own_go (fun t k => XS.icmpNo X1.here hx rfl (hb hby d1_40) rfl (teq hc40).2 k) ?_
            show own_End _ _ _ _ _ _ _ T1 (mkF m 43 #[.val (.ref a1), .val (.int p1)] [])
            refine own_go (fun t k => XS.iconst X1.here hx rfl (hb hby d1_43) k) ?_
            show own_End _ _ _ _ _ _ _ T1 (mkF m 44 #[.val (.ref a1), .val (.int p1)] [(.int (1 : Int32))])
            refine own_go (fun t k => XS.goto X1.here hx rfl (pc0 := 44) (pc' := 48) rfl (hb hby d1_44) (by decide) (by decide) k) ?_
            show own_End _ _ _ _ _ _ _ T1 (mkF m 48 #[.val (.ref a1), .val (.int p1)] [(.int (1 : Int32))])
            exact own_retW X1 hx Bd.returns Bd.notSynchronized rfl (Or.inl ⟨rfl, by simp, _, rfl⟩) (hb hby d1_48) ⟨by simp [own_isc, own_hi, hc3, ha10, hc28, hc34, hc40], N0, e1⟩ (by decide) (by decide)
          · refine own_go (fun t k => XS.icmpYes X1.here hx rfl (pc0 := 40) (pc' := 47) rfl (hb hby d1_40) rfl (feq hc40).2 (by decide) (by decide) k) ?_
            show own_End _ _ _ _ _ _ _ T1 (mkF m 47 #[.val (.ref a1), .val (.int p1)] [])
            refine own_go (fun t k => XS.iconst X1.here hx rfl (hb hby d1_47) k) ?_
            show own_End _ _ _ _ _ _ _ T1 (mkF m 48 #[.val (.ref a1), .val (.int p1)] [(.int (0 : Int32))])
            exact own_retW X1 hx Bd.returns Bd.notSynchronized rfl (Or.inl ⟨rfl, by simp, _, rfl⟩) (hb hby d1_48) ⟨by simp [own_isc, own_hi, hc3, ha10, hc28, hc34, hc40], N0, e1⟩ (by decide) (by decide)
  · refine own_go (fun t k => XS.icmpYes X0.here hx rfl (pc0 := 3) (pc' := 49) rfl (hb hby d1_3) rfl (flt hc3).2.1 (by decide) (by decide) k) ?_
    show own_End _ _ _ _ _ _ _ s₁ (mkF m 49 #[.val (.ref a1), .val (.int p1)] [])
    refine own_go (fun t k => XS.iloadN X0.here hx rfl (hb hby d1_49) rfl k) ?_
    show own_End _ _ _ _ _ _ _ s₁ (mkF m 50 #[.val (.ref a1), .val (.int p1)] [(.int p1)])
    refine own_go (fun t k => X0.ldcInt hx hown (mvT hZ (hw _ (List.mem_of_getElem? (i := 25) rfl))) (g := (mkF m 50 #[.val (.ref a1), .val (.int p1)] [(.int p1)])) rfl (hb hby d1_50) t k) ?_
    show own_End _ _ _ _ _ _ _ s₁ (mkF m 52 #[.val (.ref a1), .val (.int p1)] [(.int (55295 : Int32)), (.int p1)])
    by_cases hc52 : (55295 : Int32) < p1
    · refine own_go (fun t k => XS.icmpNo X0.here hx rfl (hb hby d1_52) rfl (tlt hc52).2.2.2 k) ?_
      show own_End _ _ _ _ _ _ _ s₁ (mkF m 55 #[.val (.ref a1), .val (.int p1)] [])
      refine own_go (fun t k => XS.iloadN X0.here hx rfl (hb hby d1_55) rfl k) ?_
      show own_End _ _ _ _ _ _ _ s₁ (mkF m 56 #[.val (.ref a1), .val (.int p1)] [(.int p1)])
      refine own_go (fun t k => X0.ldcInt hx hown (mvT hZ (hw _ (List.mem_of_getElem? (i := 26) rfl))) (g := (mkF m 56 #[.val (.ref a1), .val (.int p1)] [(.int p1)])) rfl (hb hby d1_56) t k) ?_
      show own_End _ _ _ _ _ _ _ s₁ (mkF m 58 #[.val (.ref a1), .val (.int p1)] [(.int (57344 : Int32)), (.int p1)])
      by_cases hc58 : p1 < (57344 : Int32)
      · refine own_go (fun t k => XS.icmpYes X0.here hx rfl (pc0 := 58) (pc' := 67) rfl (hb hby d1_58) rfl (tlt hc58).1 (by decide) (by decide) k) ?_
        show own_End _ _ _ _ _ _ _ s₁ (mkF m 67 #[.val (.ref a1), .val (.int p1)] [])
        refine own_go (fun t k => XS.iloadN X0.here hx rfl (hb hby d1_67) rfl k) ?_
        show own_End _ _ _ _ _ _ _ s₁ (mkF m 68 #[.val (.ref a1), .val (.int p1)] [(.int p1)])
        refine own_go (fun t k => X0.ldcInt hx hown (mvT hZ (hw _ (List.mem_of_getElem? (i := 28) rfl))) (g := (mkF m 68 #[.val (.ref a1), .val (.int p1)] [(.int p1)])) rfl (hb hby d1_68) t k) ?_
        show own_End _ _ _ _ _ _ _ s₁ (mkF m 70 #[.val (.ref a1), .val (.int p1)] [(.int (65536 : Int32)), (.int p1)])
        by_cases hc70 : p1 < (65536 : Int32)
        · refine own_go (fun t k => XS.icmpYes X0.here hx rfl (pc0 := 70) (pc' := 83) rfl (hb hby d1_70) rfl (tlt hc70).1 (by decide) (by decide) k) ?_
          show own_End _ _ _ _ _ _ _ s₁ (mkF m 83 #[.val (.ref a1), .val (.int p1)] [])
          refine own_go (fun t k => XS.iconst X0.here hx rfl (hb hby d1_83) k) ?_
          show own_End _ _ _ _ _ _ _ s₁ (mkF m 84 #[.val (.ref a1), .val (.int p1)] [(.int (0 : Int32))])
          exact own_retW X0 hx Bd.returns Bd.notSynchronized rfl (Or.inl ⟨rfl, by simp, _, rfl⟩) (hb hby d1_84) ⟨by simp [own_isc, own_hi, hc3, hc52, hc58, hc70], N0, e0⟩ (by decide) (by decide)
        · refine own_go (fun t k => XS.icmpNo X0.here hx rfl (hb hby d1_70) rfl (flt hc70).1 k) ?_
          show own_End _ _ _ _ _ _ _ s₁ (mkF m 73 #[.val (.ref a1), .val (.int p1)] [])
          refine own_go (fun t k => XS.iloadN X0.here hx rfl (hb hby d1_73) rfl k) ?_
          show own_End _ _ _ _ _ _ _ s₁ (mkF m 74 #[.val (.ref a1), .val (.int p1)] [(.int p1)])
          refine own_go (fun t k => X0.ldcInt hx hown (mvT hZ (hw _ (List.mem_of_getElem? (i := 29) rfl))) (g := (mkF m 74 #[.val (.ref a1), .val (.int p1)] [(.int p1)])) rfl (hb hby d1_74) t k) ?_
          show own_End _ _ _ _ _ _ _ s₁ (mkF m 76 #[.val (.ref a1), .val (.int p1)] [(.int (1114111 : Int32)), (.int p1)])
          by_cases hc76 : (1114111 : Int32) < p1
          · refine own_go (fun t k => XS.icmpYes X0.here hx rfl (pc0 := 76) (pc' := 83) rfl (hb hby d1_76) rfl (tlt hc76).2.2.1 (by decide) (by decide) k) ?_
            show own_End _ _ _ _ _ _ _ s₁ (mkF m 83 #[.val (.ref a1), .val (.int p1)] [])
            refine own_go (fun t k => XS.iconst X0.here hx rfl (hb hby d1_83) k) ?_
            show own_End _ _ _ _ _ _ _ s₁ (mkF m 84 #[.val (.ref a1), .val (.int p1)] [(.int (0 : Int32))])
            exact own_retW X0 hx Bd.returns Bd.notSynchronized rfl (Or.inl ⟨rfl, by simp, _, rfl⟩) (hb hby d1_84) ⟨by simp [own_isc, own_hi, hc3, hc52, hc58, hc70, hc76], N0, e0⟩ (by decide) (by decide)
          · refine own_go (fun t k => XS.icmpNo X0.here hx rfl (hb hby d1_76) rfl (flt hc76).2.2.1 k) ?_
            show own_End _ _ _ _ _ _ _ s₁ (mkF m 79 #[.val (.ref a1), .val (.int p1)] [])
            refine own_go (fun t k => XS.iconst X0.here hx rfl (hb hby d1_79) k) ?_
            show own_End _ _ _ _ _ _ _ s₁ (mkF m 80 #[.val (.ref a1), .val (.int p1)] [(.int (1 : Int32))])
            refine own_go (fun t k => XS.goto X0.here hx rfl (pc0 := 80) (pc' := 84) rfl (hb hby d1_80) (by decide) (by decide) k) ?_
            show own_End _ _ _ _ _ _ _ s₁ (mkF m 84 #[.val (.ref a1), .val (.int p1)] [(.int (1 : Int32))])
            exact own_retW X0 hx Bd.returns Bd.notSynchronized rfl (Or.inl ⟨rfl, by simp, _, rfl⟩) (hb hby d1_84) ⟨by simp [own_isc, own_hi, hc3, hc52, hc58, hc70, hc76], N0, e0⟩ (by decide) (by decide)
      · refine own_go (fun t k => XS.icmpNo X0.here hx rfl (hb hby d1_58) rfl (flt hc58).1 k) ?_
        show own_End _ _ _ _ _ _ _ s₁ (mkF m 61 #[.val (.ref a1), .val (.int p1)] [])
        refine own_go (fun t k => XS.iloadN X0.here hx rfl (hb hby d1_61) rfl k) ?_
        show own_End _ _ _ _ _ _ _ s₁ (mkF m 62 #[.val (.ref a1), .val (.int p1)] [(.int p1)])
        refine own_go (fun t k => X0.ldcInt hx hown (mvT hZ (hw _ (List.mem_of_getElem? (i := 27) rfl))) (g := (mkF m 62 #[.val (.ref a1), .val (.int p1)] [(.int p1)])) rfl (hb hby d1_62) t k) ?_
        show own_End _ _ _ _ _ _ _ s₁ (mkF m 64 #[.val (.ref a1), .val (.int p1)] [(.int (65533 : Int32)), (.int p1)])
        by_cases hc64 : (65533 : Int32) < p1
        · refine own_go (fun t k => XS.icmpNo X0.here hx rfl (hb hby d1_64) rfl (tlt hc64).2.2.2 k) ?_
          show own_End _ _ _ _ _ _ _ s₁ (mkF m 67 #[.val (.ref a1), .val (.int p1)] [])
          refine own_go (fun t k => XS.iloadN X0.here hx rfl (hb hby d1_67) rfl k) ?_
          show own_End _ _ _ _ _ _ _ s₁ (mkF m 68 #[.val (.ref a1), .val (.int p1)] [(.int p1)])
          refine own_go (fun t k => X0.ldcInt hx hown (mvT hZ (hw _ (List.mem_of_getElem? (i := 28) rfl))) (g := (mkF m 68 #[.val (.ref a1), .val (.int p1)] [(.int p1)])) rfl (hb hby d1_68) t k) ?_
          show own_End _ _ _ _ _ _ _ s₁ (mkF m 70 #[.val (.ref a1), .val (.int p1)] [(.int (65536 : Int32)), (.int p1)])
          by_cases hc70 : p1 < (65536 : Int32)
          · refine own_go (fun t k => XS.icmpYes X0.here hx rfl (pc0 := 70) (pc' := 83) rfl (hb hby d1_70) rfl (tlt hc70).1 (by decide) (by decide) k) ?_
            show own_End _ _ _ _ _ _ _ s₁ (mkF m 83 #[.val (.ref a1), .val (.int p1)] [])
            refine own_go (fun t k => XS.iconst X0.here hx rfl (hb hby d1_83) k) ?_
            show own_End _ _ _ _ _ _ _ s₁ (mkF m 84 #[.val (.ref a1), .val (.int p1)] [(.int (0 : Int32))])
            exact own_retW X0 hx Bd.returns Bd.notSynchronized rfl (Or.inl ⟨rfl, by simp, _, rfl⟩) (hb hby d1_84) ⟨by simp [own_isc, own_hi, hc3, hc52, hc58, hc64, hc70], N0, e0⟩ (by decide) (by decide)
          · refine own_go (fun t k => XS.icmpNo X0.here hx rfl (hb hby d1_70) rfl (flt hc70).1 k) ?_
            show own_End _ _ _ _ _ _ _ s₁ (mkF m 73 #[.val (.ref a1), .val (.int p1)] [])
            refine own_go (fun t k => XS.iloadN X0.here hx rfl (hb hby d1_73) rfl k) ?_
            show own_End _ _ _ _ _ _ _ s₁ (mkF m 74 #[.val (.ref a1), .val (.int p1)] [(.int p1)])
            refine own_go (fun t k => X0.ldcInt hx hown (mvT hZ (hw _ (List.mem_of_getElem? (i := 29) rfl))) (g := (mkF m 74 #[.val (.ref a1), .val (.int p1)] [(.int p1)])) rfl (hb hby d1_74) t k) ?_
            show own_End _ _ _ _ _ _ _ s₁ (mkF m 76 #[.val (.ref a1), .val (.int p1)] [(.int (1114111 : Int32)), (.int p1)])
            by_cases hc76 : (1114111 : Int32) < p1
            · refine own_go (fun t k => XS.icmpYes X0.here hx rfl (pc0 := 76) (pc' := 83) rfl (hb hby d1_76) rfl (tlt hc76).2.2.1 (by decide) (by decide) k) ?_
              show own_End _ _ _ _ _ _ _ s₁ (mkF m 83 #[.val (.ref a1), .val (.int p1)] [])
              refine own_go (fun t k => XS.iconst X0.here hx rfl (hb hby d1_83) k) ?_
              show own_End _ _ _ _ _ _ _ s₁ (mkF m 84 #[.val (.ref a1), .val (.int p1)] [(.int (0 : Int32))])
              exact own_retW X0 hx Bd.returns Bd.notSynchronized rfl (Or.inl ⟨rfl, by simp, _, rfl⟩) (hb hby d1_84) ⟨by simp [own_isc, own_hi, hc3, hc52, hc58, hc64, hc70, hc76], N0, e0⟩ (by decide) (by decide)
            · refine own_go (fun t k => XS.icmpNo X0.here hx rfl (hb hby d1_76) rfl (flt hc76).2.2.1 k) ?_
              show own_End _ _ _ _ _ _ _ s₁ (mkF m 79 #[.val (.ref a1), .val (.int p1)] [])
              refine own_go (fun t k => XS.iconst X0.here hx rfl (hb hby d1_79) k) ?_
              show own_End _ _ _ _ _ _ _ s₁ (mkF m 80 #[.val (.ref a1), .val (.int p1)] [(.int (1 : Int32))])
              refine own_go (fun t k => XS.goto X0.here hx rfl (pc0 := 80) (pc' := 84) rfl (hb hby d1_80) (by decide) (by decide) k) ?_
              show own_End _ _ _ _ _ _ _ s₁ (mkF m 84 #[.val (.ref a1), .val (.int p1)] [(.int (1 : Int32))])
              exact own_retW X0 hx Bd.returns Bd.notSynchronized rfl (Or.inl ⟨rfl, by simp, _, rfl⟩) (hb hby d1_84) ⟨by simp [own_isc, own_hi, hc3, hc52, hc58, hc64, hc70, hc76], N0, e0⟩ (by decide) (by decide)
        · refine own_go (fun t k => XS.icmpYes X0.here hx rfl (pc0 := 64) (pc' := 79) rfl (hb hby d1_64) rfl (flt hc64).2.2.2 (by decide) (by decide) k) ?_
          show own_End _ _ _ _ _ _ _ s₁ (mkF m 79 #[.val (.ref a1), .val (.int p1)] [])
          refine own_go (fun t k => XS.iconst X0.here hx rfl (hb hby d1_79) k) ?_
          show own_End _ _ _ _ _ _ _ s₁ (mkF m 80 #[.val (.ref a1), .val (.int p1)] [(.int (1 : Int32))])
          refine own_go (fun t k => XS.goto X0.here hx rfl (pc0 := 80) (pc' := 84) rfl (hb hby d1_80) (by decide) (by decide) k) ?_
          show own_End _ _ _ _ _ _ _ s₁ (mkF m 84 #[.val (.ref a1), .val (.int p1)] [(.int (1 : Int32))])
          exact own_retW X0 hx Bd.returns Bd.notSynchronized rfl (Or.inl ⟨rfl, by simp, _, rfl⟩) (hb hby d1_84) ⟨by simp [own_isc, own_hi, hc3, hc52, hc58, hc64], N0, e0⟩ (by decide) (by decide)
    · refine own_go (fun t k => XS.icmpYes X0.here hx rfl (pc0 := 52) (pc' := 79) rfl (hb hby d1_52) rfl (flt hc52).2.2.2 (by decide) (by decide) k) ?_
      show own_End _ _ _ _ _ _ _ s₁ (mkF m 79 #[.val (.ref a1), .val (.int p1)] [])
      refine own_go (fun t k => XS.iconst X0.here hx rfl (hb hby d1_79) k) ?_
      show own_End _ _ _ _ _ _ _ s₁ (mkF m 80 #[.val (.ref a1), .val (.int p1)] [(.int (1 : Int32))])
      refine own_go (fun t k => XS.goto X0.here hx rfl (pc0 := 80) (pc' := 84) rfl (hb hby d1_80) (by decide) (by decide) k) ?_
      show own_End _ _ _ _ _ _ _ s₁ (mkF m 84 #[.val (.ref a1), .val (.int p1)] [(.int (1 : Int32))])
      exact own_retW X0 hx Bd.returns Bd.notSynchronized rfl (Or.inl ⟨rfl, by simp, _, rfl⟩) (hb hby d1_84) ⟨by simp [own_isc, own_hi, hc3, hc52], N0, e0⟩ (by decide) (by decide)
theorem ef_rm2 (m : MethodId) (x0 : Int32) (x1 : Int32) : entryFrame m #[(.int x0), (.int x1)] 2 = mkF m 0 #[.val (.int x0), .val (.int x1)] [] := by first | (simp [entryFrame, mkF, argsToLocals, Value.category]; done) | rfl
theorem pn_com_example_vonare_vonare_tokenizer_XmlVersionIsCharPinLaw : plainName "com/example/vonare/vonare/tokenizer/XmlVersionIsCharPinLaw" = true := by first | (simp [plainName, overriddenIn]; done) | decide +kernel
theorem d2_0 : decode method_2_code 0 = .ok (.iload_n 1, 1) := by decide +kernel
theorem d2_1 : decode method_2_code 1 = .ok (.ifCond .lt 9, 3) := by decide +kernel
theorem d2_10 : decode method_2_code 10 = .ok (.iconst 0, 1) := by decide +kernel
theorem d2_11 : decode method_2_code 11 = .ok (.ireturn, 1) := by decide +kernel
theorem d2_4 : decode method_2_code 4 = .ok (.iload_n 1, 1) := by decide +kernel
theorem d2_5 : decode method_2_code 5 = .ok (.ldc 7, 2) := by decide +kernel
theorem d2_7 : decode method_2_code 7 = .ok (.if_icmp .le 5, 3) := by decide +kernel
theorem d2_12 : decode method_2_code 12 = .ok (.iload_n 1, 1) := by decide +kernel
theorem d2_13 : decode method_2_code 13 = .ok (.ldc 8, 2) := by decide +kernel
theorem d2_15 : decode method_2_code 15 = .ok (.if_icmp .lt 11, 3) := by decide +kernel
theorem d2_26 : decode method_2_code 26 = .ok (.iload_n 1, 1) := by decide +kernel
theorem d2_27 : decode method_2_code 27 = .ok (.ldc 10, 2) := by decide +kernel
theorem d2_29 : decode method_2_code 29 = .ok (.if_icmp .eq 9, 3) := by decide +kernel
theorem d2_38 : decode method_2_code 38 = .ok (.iconst 0, 1) := by decide +kernel
theorem d2_39 : decode method_2_code 39 = .ok (.ireturn, 1) := by decide +kernel
theorem d2_32 : decode method_2_code 32 = .ok (.iload_n 1, 1) := by decide +kernel
theorem d2_33 : decode method_2_code 33 = .ok (.ldc 11, 2) := by decide +kernel
theorem d2_35 : decode method_2_code 35 = .ok (.if_icmp .ne 5, 3) := by decide +kernel
theorem d2_40 : decode method_2_code 40 = .ok (.iload_n 1, 1) := by decide +kernel
theorem d2_41 : decode method_2_code 41 = .ok (.ifCond .ne 5, 3) := by decide +kernel
theorem d2_44 : decode method_2_code 44 = .ok (.iconst 0, 1) := by decide +kernel
theorem d2_45 : decode method_2_code 45 = .ok (.ireturn, 1) := by decide +kernel
theorem d2_46 : decode method_2_code 46 = .ok (.iload_n 1, 1) := by decide +kernel
theorem d2_47 : decode method_2_code 47 = .ok (.bipush 32, 2) := by decide +kernel
theorem d2_49 : decode method_2_code 49 = .ok (.if_icmp .ge 31, 3) := by decide +kernel
theorem d2_52 : decode method_2_code 52 = .ok (.iload_n 0, 1) := by decide +kernel
theorem d2_53 : decode method_2_code 53 = .ok (.ifCond .ne 27, 3) := by decide +kernel
theorem d2_56 : decode method_2_code 56 = .ok (.iload_n 1, 1) := by decide +kernel
theorem d2_57 : decode method_2_code 57 = .ok (.bipush 9, 2) := by decide +kernel
theorem d2_59 : decode method_2_code 59 = .ok (.if_icmp .eq 15, 3) := by decide +kernel
theorem d2_74 : decode method_2_code 74 = .ok (.iconst 1, 1) := by decide +kernel
theorem d2_75 : decode method_2_code 75 = .ok (.goto 4, 3) := by decide +kernel
theorem d2_79 : decode method_2_code 79 = .ok (.ireturn, 1) := by decide +kernel
theorem d2_62 : decode method_2_code 62 = .ok (.iload_n 1, 1) := by decide +kernel
theorem d2_63 : decode method_2_code 63 = .ok (.bipush 10, 2) := by decide +kernel
theorem d2_65 : decode method_2_code 65 = .ok (.if_icmp .eq 9, 3) := by decide +kernel
theorem d2_68 : decode method_2_code 68 = .ok (.iload_n 1, 1) := by decide +kernel
theorem d2_69 : decode method_2_code 69 = .ok (.bipush 13, 2) := by decide +kernel
theorem d2_71 : decode method_2_code 71 = .ok (.if_icmp .ne 7, 3) := by decide +kernel
theorem d2_78 : decode method_2_code 78 = .ok (.iconst 0, 1) := by decide +kernel
theorem d2_80 : decode method_2_code 80 = .ok (.iconst 1, 1) := by decide +kernel
theorem d2_81 : decode method_2_code 81 = .ok (.ireturn, 1) := by decide +kernel
theorem d2_18 : decode method_2_code 18 = .ok (.iload_n 1, 1) := by decide +kernel
theorem d2_19 : decode method_2_code 19 = .ok (.ldc 9, 2) := by decide +kernel
theorem d2_21 : decode method_2_code 21 = .ok (.if_icmp .gt 5, 3) := by decide +kernel
theorem d2_24 : decode method_2_code 24 = .ok (.iconst 0, 1) := by decide +kernel
theorem d2_25 : decode method_2_code 25 = .ok (.ireturn, 1) := by decide +kernel
set_option maxRecDepth 65536 in
set_option maxHeartbeats 40000000 in
theorem rm2 (l : Launch) (Z : State) (a0 : Array Value) (hw : ∀ d ∈ tables_1, d.before a0 Z = true) (ws : List Jvm.Cond) (v1 p1 : Int32) (h0 : Heap) (n0 : Nat) (Z0 : n0 ≤ h0.size)  :
    MetFree l (⟨"com/example/vonare/vonare/tokenizer/XmlVersionIsCharPinLaw", "expected", "(ZI)Z"⟩ : MethodName) (head1 (Jvm.Cond.code (⟨"com/example/vonare/vonare/tokenizer/XmlVersionIsCharPinLaw", "expected", "(ZI)Z"⟩ : MethodName) method_2_code 2 (some .boolean) :: ws) ({ frames := 0, cells := 0, slots := 0, locals := 0 } : Room)) (fun a U => a = #[(.int v1), (.int p1)] ∧ Z.Warmed39 U.vm ∧ U.heap = h0) (fun _ _ _ _ _ => True) (fun _ U o U' => ∃ v L, o = .returned v ∧ own_pure (.int (own_exp v1 p1)) h0 n0 v U'.heap L ∧ FrameEnd U o U' L ({ frames := 0, cells := 0, slots := 0, locals := 0 } : Room).cells ({ frames := 0, cells := 0, slots := 0, locals := 0 } : Room).slots) := by
  refine MetFree.of_bodySF (plainFor_of_name pn_com_example_vonare_vonare_tokenizer_XmlVersionIsCharPinLaw) hisR ?_
  intro p e s m args below meth c s₁ Bd hml0 hP hK
  obtain ⟨rfl, hZ, hh⟩ := hP
  have hx := Bd.exec
  have hby := Bd.bytes
  have hml : c.maxLocals = 2 := hml0
  have hown : s.vm.findClass "com/example/vonare/vonare/tokenizer/XmlVersionIsCharPinLaw" = some m.cls := findClass_of_methodNamed Bd.named
  have hnm := (name_of_methodNamed Bd.named Bd.method).1
  have X0 : Stand p l e ({ frames := 0, cells := 0, slots := 0, locals := 0 } : Room) s m #[(.int v1), (.int p1)] below meth c s₁ [] 0 0 := Stand.of_body Bd
  have e0 : s₁.heap = h0 := by rw [← hh, Bd.state]; rfl
  have N0 := Fr.nil n0
  suffices own_main : own_End p e below s (own_pure (.int (own_exp v1 p1)) h0 n0) ({ frames := 0, cells := 0, slots := 0, locals := 0 } : Room).cells ({ frames := 0, cells := 0, slots := 0, locals := 0 } : Room).slots s₁ (mkF m 0 #[.val (.int v1), .val (.int p1)] []) by
    obtain ⟨s₂, o, k1, k2, k3, k4⟩ := own_main
    exact ⟨s₂, o, castTop (ef_rm2 m v1 p1) k1, k2, k3, k4⟩
  show own_End _ _ _ _ _ _ _ s₁ (mkF m 0 #[.val (.int v1), .val (.int p1)] [])
  refine own_go (fun t k => XS.iloadN X0.here hx rfl (hb hby d2_0) rfl k) ?_
  show own_End _ _ _ _ _ _ _ s₁ (mkF m 1 #[.val (.int v1), .val (.int p1)] [(.int p1)])
  by_cases hc1 : p1 < (0 : Int32)
  · refine own_go (fun t k => XS.ifYes X0.here hx rfl (pc0 := 1) (pc' := 10) rfl (hb hby d2_1) rfl ((if0 _ _).trans (tlt hc1).1) (by decide) (by decide) k) ?_
    show own_End _ _ _ _ _ _ _ s₁ (mkF m 10 #[.val (.int v1), .val (.int p1)] [])
    refine own_go (fun t k => XS.iconst X0.here hx rfl (hb hby d2_10) k) ?_
    show own_End _ _ _ _ _ _ _ s₁ (mkF m 11 #[.val (.int v1), .val (.int p1)] [(.int (0 : Int32))])
    exact own_retW X0 hx Bd.returns Bd.notSynchronized rfl (Or.inl ⟨rfl, by simp, _, rfl⟩) (hb hby d2_11) ⟨by simp [own_exp, own_rest, hc1], N0, e0⟩ (by decide) (by decide)
  · refine own_go (fun t k => XS.ifNo X0.here hx rfl (hb hby d2_1) rfl ((if0 _ _).trans (flt hc1).1) k) ?_
    show own_End _ _ _ _ _ _ _ s₁ (mkF m 4 #[.val (.int v1), .val (.int p1)] [])
    refine own_go (fun t k => XS.iloadN X0.here hx rfl (hb hby d2_4) rfl k) ?_
    show own_End _ _ _ _ _ _ _ s₁ (mkF m 5 #[.val (.int v1), .val (.int p1)] [(.int p1)])
    refine own_go (fun t k => X0.ldcInt hx hown (mvT hZ (hw _ (List.mem_of_getElem? (i := 22) rfl))) (g := (mkF m 5 #[.val (.int v1), .val (.int p1)] [(.int p1)])) rfl (hb hby d2_5) t k) ?_
    show own_End _ _ _ _ _ _ _ s₁ (mkF m 7 #[.val (.int v1), .val (.int p1)] [(.int (1114111 : Int32)), (.int p1)])
    by_cases hc7 : (1114111 : Int32) < p1
    · refine own_go (fun t k => XS.icmpNo X0.here hx rfl (hb hby d2_7) rfl (tlt hc7).2.2.2 k) ?_
      show own_End _ _ _ _ _ _ _ s₁ (mkF m 10 #[.val (.int v1), .val (.int p1)] [])
      refine own_go (fun t k => XS.iconst X0.here hx rfl (hb hby d2_10) k) ?_
      show own_End _ _ _ _ _ _ _ s₁ (mkF m 11 #[.val (.int v1), .val (.int p1)] [(.int (0 : Int32))])
      exact own_retW X0 hx Bd.returns Bd.notSynchronized rfl (Or.inl ⟨rfl, by simp, _, rfl⟩) (hb hby d2_11) ⟨by simp [own_exp, own_rest, hc1, hc7], N0, e0⟩ (by decide) (by decide)
    · refine own_go (fun t k => XS.icmpYes X0.here hx rfl (pc0 := 7) (pc' := 12) rfl (hb hby d2_7) rfl (flt hc7).2.2.2 (by decide) (by decide) k) ?_
      show own_End _ _ _ _ _ _ _ s₁ (mkF m 12 #[.val (.int v1), .val (.int p1)] [])
      refine own_go (fun t k => XS.iloadN X0.here hx rfl (hb hby d2_12) rfl k) ?_
      show own_End _ _ _ _ _ _ _ s₁ (mkF m 13 #[.val (.int v1), .val (.int p1)] [(.int p1)])
      refine own_go (fun t k => X0.ldcInt hx hown (mvT hZ (hw _ (List.mem_of_getElem? (i := 4) rfl))) (g := (mkF m 13 #[.val (.int v1), .val (.int p1)] [(.int p1)])) rfl (hb hby d2_13) t k) ?_
      show own_End _ _ _ _ _ _ _ s₁ (mkF m 15 #[.val (.int v1), .val (.int p1)] [(.int (55296 : Int32)), (.int p1)])
      by_cases hc15 : p1 < (55296 : Int32)
      · refine own_go (fun t k => XS.icmpYes X0.here hx rfl (pc0 := 15) (pc' := 26) rfl (hb hby d2_15) rfl (tlt hc15).1 (by decide) (by decide) k) ?_
        show own_End _ _ _ _ _ _ _ s₁ (mkF m 26 #[.val (.int v1), .val (.int p1)] [])
        refine own_go (fun t k => XS.iloadN X0.here hx rfl (hb hby d2_26) rfl k) ?_
        show own_End _ _ _ _ _ _ _ s₁ (mkF m 27 #[.val (.int v1), .val (.int p1)] [(.int p1)])
        refine own_go (fun t k => X0.ldcInt hx hown (mvT hZ (hw _ (List.mem_of_getElem? (i := 6) rfl))) (g := (mkF m 27 #[.val (.int v1), .val (.int p1)] [(.int p1)])) rfl (hb hby d2_27) t k) ?_
        show own_End _ _ _ _ _ _ _ s₁ (mkF m 29 #[.val (.int v1), .val (.int p1)] [(.int (65534 : Int32)), (.int p1)])
        by_cases hc29 : p1 = (65534 : Int32)
        · refine own_go (fun t k => XS.icmpYes X0.here hx rfl (pc0 := 29) (pc' := 38) rfl (hb hby d2_29) rfl (teq hc29).1 (by decide) (by decide) k) ?_
          show own_End _ _ _ _ _ _ _ s₁ (mkF m 38 #[.val (.int v1), .val (.int p1)] [])
          refine own_go (fun t k => XS.iconst X0.here hx rfl (hb hby d2_38) k) ?_
          show own_End _ _ _ _ _ _ _ s₁ (mkF m 39 #[.val (.int v1), .val (.int p1)] [(.int (0 : Int32))])
          exact own_retW X0 hx Bd.returns Bd.notSynchronized rfl (Or.inl ⟨rfl, by simp, _, rfl⟩) (hb hby d2_39) ⟨by simp [own_exp, own_rest, hc1, hc7, hc15, hc29], N0, e0⟩ (by decide) (by decide)
        · refine own_go (fun t k => XS.icmpNo X0.here hx rfl (hb hby d2_29) rfl (feq hc29).1 k) ?_
          show own_End _ _ _ _ _ _ _ s₁ (mkF m 32 #[.val (.int v1), .val (.int p1)] [])
          refine own_go (fun t k => XS.iloadN X0.here hx rfl (hb hby d2_32) rfl k) ?_
          show own_End _ _ _ _ _ _ _ s₁ (mkF m 33 #[.val (.int v1), .val (.int p1)] [(.int p1)])
          refine own_go (fun t k => X0.ldcInt hx hown (mvT hZ (hw _ (List.mem_of_getElem? (i := 23) rfl))) (g := (mkF m 33 #[.val (.int v1), .val (.int p1)] [(.int p1)])) rfl (hb hby d2_33) t k) ?_
          show own_End _ _ _ _ _ _ _ s₁ (mkF m 35 #[.val (.int v1), .val (.int p1)] [(.int (65535 : Int32)), (.int p1)])
          by_cases hc35 : p1 = (65535 : Int32)
          · refine own_go (fun t k => XS.icmpNo X0.here hx rfl (hb hby d2_35) rfl (teq hc35).2 k) ?_
            show own_End _ _ _ _ _ _ _ s₁ (mkF m 38 #[.val (.int v1), .val (.int p1)] [])
            refine own_go (fun t k => XS.iconst X0.here hx rfl (hb hby d2_38) k) ?_
            show own_End _ _ _ _ _ _ _ s₁ (mkF m 39 #[.val (.int v1), .val (.int p1)] [(.int (0 : Int32))])
            exact own_retW X0 hx Bd.returns Bd.notSynchronized rfl (Or.inl ⟨rfl, by simp, _, rfl⟩) (hb hby d2_39) ⟨by simp [own_exp, own_rest, hc1, hc7, hc15, hc29, hc35], N0, e0⟩ (by decide) (by decide)
          · refine own_go (fun t k => XS.icmpYes X0.here hx rfl (pc0 := 35) (pc' := 40) rfl (hb hby d2_35) rfl (feq hc35).2 (by decide) (by decide) k) ?_
            show own_End _ _ _ _ _ _ _ s₁ (mkF m 40 #[.val (.int v1), .val (.int p1)] [])
            refine own_go (fun t k => XS.iloadN X0.here hx rfl (hb hby d2_40) rfl k) ?_
            show own_End _ _ _ _ _ _ _ s₁ (mkF m 41 #[.val (.int v1), .val (.int p1)] [(.int p1)])
            by_cases hc41 : p1 = (0 : Int32)
            · refine own_go (fun t k => XS.ifNo X0.here hx rfl (hb hby d2_41) rfl ((if0 _ _).trans (teq hc41).2) k) ?_
              show own_End _ _ _ _ _ _ _ s₁ (mkF m 44 #[.val (.int v1), .val (.int p1)] [])
              refine own_go (fun t k => XS.iconst X0.here hx rfl (hb hby d2_44) k) ?_
              show own_End _ _ _ _ _ _ _ s₁ (mkF m 45 #[.val (.int v1), .val (.int p1)] [(.int (0 : Int32))])
              exact own_retW X0 hx Bd.returns Bd.notSynchronized rfl (Or.inl ⟨rfl, by simp, _, rfl⟩) (hb hby d2_45) ⟨by simp [own_exp, own_rest, hc1, hc7, hc15, hc29, hc35, hc41], N0, e0⟩ (by decide) (by decide)
            · refine own_go (fun t k => XS.ifYes X0.here hx rfl (pc0 := 41) (pc' := 46) rfl (hb hby d2_41) rfl ((if0 _ _).trans (feq hc41).2) (by decide) (by decide) k) ?_
              show own_End _ _ _ _ _ _ _ s₁ (mkF m 46 #[.val (.int v1), .val (.int p1)] [])
              refine own_go (fun t k => XS.iloadN X0.here hx rfl (hb hby d2_46) rfl k) ?_
              show own_End _ _ _ _ _ _ _ s₁ (mkF m 47 #[.val (.int v1), .val (.int p1)] [(.int p1)])
              refine own_go (fun t k => XS.bipush X0.here hx rfl (hb hby d2_47) k) ?_
              show own_End _ _ _ _ _ _ _ s₁ (mkF m 49 #[.val (.int v1), .val (.int p1)] [(.int (32 : Int32)), (.int p1)])
              by_cases hc49 : p1 < (32 : Int32)
              · refine own_go (fun t k => XS.icmpNo X0.here hx rfl (hb hby d2_49) rfl (tlt hc49).2.1 k) ?_
                show own_End _ _ _ _ _ _ _ s₁ (mkF m 52 #[.val (.int v1), .val (.int p1)] [])
                refine own_go (fun t k => XS.iloadN X0.here hx rfl (hb hby d2_52) rfl k) ?_
                show own_End _ _ _ _ _ _ _ s₁ (mkF m 53 #[.val (.int v1), .val (.int p1)] [(.int v1)])
                by_cases hc53 : v1 = (0 : Int32)
                · refine own_go (fun t k => XS.ifNo X0.here hx rfl (hb hby d2_53) rfl ((if0 _ _).trans (teq hc53).2) k) ?_
                  show own_End _ _ _ _ _ _ _ s₁ (mkF m 56 #[.val (.int v1), .val (.int p1)] [])
                  refine own_go (fun t k => XS.iloadN X0.here hx rfl (hb hby d2_56) rfl k) ?_
                  show own_End _ _ _ _ _ _ _ s₁ (mkF m 57 #[.val (.int v1), .val (.int p1)] [(.int p1)])
                  refine own_go (fun t k => XS.bipush X0.here hx rfl (hb hby d2_57) k) ?_
                  show own_End _ _ _ _ _ _ _ s₁ (mkF m 59 #[.val (.int v1), .val (.int p1)] [(.int (9 : Int32)), (.int p1)])
                  by_cases hc59 : p1 = (9 : Int32)
                  · refine own_go (fun t k => XS.icmpYes X0.here hx rfl (pc0 := 59) (pc' := 74) rfl (hb hby d2_59) rfl (teq hc59).1 (by decide) (by decide) k) ?_
                    show own_End _ _ _ _ _ _ _ s₁ (mkF m 74 #[.val (.int v1), .val (.int p1)] [])
                    refine own_go (fun t k => XS.iconst X0.here hx rfl (hb hby d2_74) k) ?_
                    show own_End _ _ _ _ _ _ _ s₁ (mkF m 75 #[.val (.int v1), .val (.int p1)] [(.int (1 : Int32))])
                    refine own_go (fun t k => XS.goto X0.here hx rfl (pc0 := 75) (pc' := 79) rfl (hb hby d2_75) (by decide) (by decide) k) ?_
                    show own_End _ _ _ _ _ _ _ s₁ (mkF m 79 #[.val (.int v1), .val (.int p1)] [(.int (1 : Int32))])
                    exact own_retW X0 hx Bd.returns Bd.notSynchronized rfl (Or.inl ⟨rfl, by simp, _, rfl⟩) (hb hby d2_79) ⟨by simp [own_exp, own_rest, hc1, hc7, hc15, hc29, hc35, hc41, hc49, hc53, hc59], N0, e0⟩ (by decide) (by decide)
                  · refine own_go (fun t k => XS.icmpNo X0.here hx rfl (hb hby d2_59) rfl (feq hc59).1 k) ?_
                    show own_End _ _ _ _ _ _ _ s₁ (mkF m 62 #[.val (.int v1), .val (.int p1)] [])
                    refine own_go (fun t k => XS.iloadN X0.here hx rfl (hb hby d2_62) rfl k) ?_
                    show own_End _ _ _ _ _ _ _ s₁ (mkF m 63 #[.val (.int v1), .val (.int p1)] [(.int p1)])
                    refine own_go (fun t k => XS.bipush X0.here hx rfl (hb hby d2_63) k) ?_
                    show own_End _ _ _ _ _ _ _ s₁ (mkF m 65 #[.val (.int v1), .val (.int p1)] [(.int (10 : Int32)), (.int p1)])
                    by_cases hc65 : p1 = (10 : Int32)
                    · refine own_go (fun t k => XS.icmpYes X0.here hx rfl (pc0 := 65) (pc' := 74) rfl (hb hby d2_65) rfl (teq hc65).1 (by decide) (by decide) k) ?_
                      show own_End _ _ _ _ _ _ _ s₁ (mkF m 74 #[.val (.int v1), .val (.int p1)] [])
                      refine own_go (fun t k => XS.iconst X0.here hx rfl (hb hby d2_74) k) ?_
                      show own_End _ _ _ _ _ _ _ s₁ (mkF m 75 #[.val (.int v1), .val (.int p1)] [(.int (1 : Int32))])
                      refine own_go (fun t k => XS.goto X0.here hx rfl (pc0 := 75) (pc' := 79) rfl (hb hby d2_75) (by decide) (by decide) k) ?_
                      show own_End _ _ _ _ _ _ _ s₁ (mkF m 79 #[.val (.int v1), .val (.int p1)] [(.int (1 : Int32))])
                      exact own_retW X0 hx Bd.returns Bd.notSynchronized rfl (Or.inl ⟨rfl, by simp, _, rfl⟩) (hb hby d2_79) ⟨by simp [own_exp, own_rest, hc1, hc7, hc15, hc29, hc35, hc41, hc49, hc53, hc59, hc65], N0, e0⟩ (by decide) (by decide)
                    · refine own_go (fun t k => XS.icmpNo X0.here hx rfl (hb hby d2_65) rfl (feq hc65).1 k) ?_
                      show own_End _ _ _ _ _ _ _ s₁ (mkF m 68 #[.val (.int v1), .val (.int p1)] [])
                      refine own_go (fun t k => XS.iloadN X0.here hx rfl (hb hby d2_68) rfl k) ?_
                      show own_End _ _ _ _ _ _ _ s₁ (mkF m 69 #[.val (.int v1), .val (.int p1)] [(.int p1)])
                      refine own_go (fun t k => XS.bipush X0.here hx rfl (hb hby d2_69) k) ?_
                      show own_End _ _ _ _ _ _ _ s₁ (mkF m 71 #[.val (.int v1), .val (.int p1)] [(.int (13 : Int32)), (.int p1)])
                      by_cases hc71 : p1 = (13 : Int32)
                      · refine own_go (fun t k => XS.icmpNo X0.here hx rfl (hb hby d2_71) rfl (teq hc71).2 k) ?_
                        show own_End _ _ _ _ _ _ _ s₁ (mkF m 74 #[.val (.int v1), .val (.int p1)] [])
                        refine own_go (fun t k => XS.iconst X0.here hx rfl (hb hby d2_74) k) ?_
                        show own_End _ _ _ _ _ _ _ s₁ (mkF m 75 #[.val (.int v1), .val (.int p1)] [(.int (1 : Int32))])
                        refine own_go (fun t k => XS.goto X0.here hx rfl (pc0 := 75) (pc' := 79) rfl (hb hby d2_75) (by decide) (by decide) k) ?_
                        show own_End _ _ _ _ _ _ _ s₁ (mkF m 79 #[.val (.int v1), .val (.int p1)] [(.int (1 : Int32))])
                        exact own_retW X0 hx Bd.returns Bd.notSynchronized rfl (Or.inl ⟨rfl, by simp, _, rfl⟩) (hb hby d2_79) ⟨by simp [own_exp, own_rest, hc1, hc7, hc15, hc29, hc35, hc41, hc49, hc53, hc59, hc65, hc71], N0, e0⟩ (by decide) (by decide)
                      · refine own_go (fun t k => XS.icmpYes X0.here hx rfl (pc0 := 71) (pc' := 78) rfl (hb hby d2_71) rfl (feq hc71).2 (by decide) (by decide) k) ?_
                        show own_End _ _ _ _ _ _ _ s₁ (mkF m 78 #[.val (.int v1), .val (.int p1)] [])
                        refine own_go (fun t k => XS.iconst X0.here hx rfl (hb hby d2_78) k) ?_
                        show own_End _ _ _ _ _ _ _ s₁ (mkF m 79 #[.val (.int v1), .val (.int p1)] [(.int (0 : Int32))])
                        exact own_retW X0 hx Bd.returns Bd.notSynchronized rfl (Or.inl ⟨rfl, by simp, _, rfl⟩) (hb hby d2_79) ⟨by simp [own_exp, own_rest, hc1, hc7, hc15, hc29, hc35, hc41, hc49, hc53, hc59, hc65, hc71], N0, e0⟩ (by decide) (by decide)
                · refine own_go (fun t k => XS.ifYes X0.here hx rfl (pc0 := 53) (pc' := 80) rfl (hb hby d2_53) rfl ((if0 _ _).trans (feq hc53).2) (by decide) (by decide) k) ?_
                  show own_End _ _ _ _ _ _ _ s₁ (mkF m 80 #[.val (.int v1), .val (.int p1)] [])
                  refine own_go (fun t k => XS.iconst X0.here hx rfl (hb hby d2_80) k) ?_
                  show own_End _ _ _ _ _ _ _ s₁ (mkF m 81 #[.val (.int v1), .val (.int p1)] [(.int (1 : Int32))])
                  exact own_retW X0 hx Bd.returns Bd.notSynchronized rfl (Or.inl ⟨rfl, by simp, _, rfl⟩) (hb hby d2_81) ⟨by simp [own_exp, own_rest, hc1, hc7, hc15, hc29, hc35, hc41, hc49, hc53], N0, e0⟩ (by decide) (by decide)
              · refine own_go (fun t k => XS.icmpYes X0.here hx rfl (pc0 := 49) (pc' := 80) rfl (hb hby d2_49) rfl (flt hc49).2.1 (by decide) (by decide) k) ?_
                show own_End _ _ _ _ _ _ _ s₁ (mkF m 80 #[.val (.int v1), .val (.int p1)] [])
                refine own_go (fun t k => XS.iconst X0.here hx rfl (hb hby d2_80) k) ?_
                show own_End _ _ _ _ _ _ _ s₁ (mkF m 81 #[.val (.int v1), .val (.int p1)] [(.int (1 : Int32))])
                exact own_retW X0 hx Bd.returns Bd.notSynchronized rfl (Or.inl ⟨rfl, by simp, _, rfl⟩) (hb hby d2_81) ⟨by simp [own_exp, own_rest, hc1, hc7, hc15, hc29, hc35, hc41, hc49], N0, e0⟩ (by decide) (by decide)
      · refine own_go (fun t k => XS.icmpNo X0.here hx rfl (hb hby d2_15) rfl (flt hc15).1 k) ?_
        show own_End _ _ _ _ _ _ _ s₁ (mkF m 18 #[.val (.int v1), .val (.int p1)] [])
        refine own_go (fun t k => XS.iloadN X0.here hx rfl (hb hby d2_18) rfl k) ?_
        show own_End _ _ _ _ _ _ _ s₁ (mkF m 19 #[.val (.int v1), .val (.int p1)] [(.int p1)])
        refine own_go (fun t k => X0.ldcInt hx hown (mvT hZ (hw _ (List.mem_of_getElem? (i := 30) rfl))) (g := (mkF m 19 #[.val (.int v1), .val (.int p1)] [(.int p1)])) rfl (hb hby d2_19) t k) ?_
        show own_End _ _ _ _ _ _ _ s₁ (mkF m 21 #[.val (.int v1), .val (.int p1)] [(.int (57343 : Int32)), (.int p1)])
        by_cases hc21 : (57343 : Int32) < p1
        · refine own_go (fun t k => XS.icmpYes X0.here hx rfl (pc0 := 21) (pc' := 26) rfl (hb hby d2_21) rfl (tlt hc21).2.2.1 (by decide) (by decide) k) ?_
          show own_End _ _ _ _ _ _ _ s₁ (mkF m 26 #[.val (.int v1), .val (.int p1)] [])
          refine own_go (fun t k => XS.iloadN X0.here hx rfl (hb hby d2_26) rfl k) ?_
          show own_End _ _ _ _ _ _ _ s₁ (mkF m 27 #[.val (.int v1), .val (.int p1)] [(.int p1)])
          refine own_go (fun t k => X0.ldcInt hx hown (mvT hZ (hw _ (List.mem_of_getElem? (i := 6) rfl))) (g := (mkF m 27 #[.val (.int v1), .val (.int p1)] [(.int p1)])) rfl (hb hby d2_27) t k) ?_
          show own_End _ _ _ _ _ _ _ s₁ (mkF m 29 #[.val (.int v1), .val (.int p1)] [(.int (65534 : Int32)), (.int p1)])
          by_cases hc29 : p1 = (65534 : Int32)
          · refine own_go (fun t k => XS.icmpYes X0.here hx rfl (pc0 := 29) (pc' := 38) rfl (hb hby d2_29) rfl (teq hc29).1 (by decide) (by decide) k) ?_
            show own_End _ _ _ _ _ _ _ s₁ (mkF m 38 #[.val (.int v1), .val (.int p1)] [])
            refine own_go (fun t k => XS.iconst X0.here hx rfl (hb hby d2_38) k) ?_
            show own_End _ _ _ _ _ _ _ s₁ (mkF m 39 #[.val (.int v1), .val (.int p1)] [(.int (0 : Int32))])
            exact own_retW X0 hx Bd.returns Bd.notSynchronized rfl (Or.inl ⟨rfl, by simp, _, rfl⟩) (hb hby d2_39) ⟨by simp [own_exp, own_rest, hc1, hc7, hc15, hc21, hc29], N0, e0⟩ (by decide) (by decide)
          · refine own_go (fun t k => XS.icmpNo X0.here hx rfl (hb hby d2_29) rfl (feq hc29).1 k) ?_
            show own_End _ _ _ _ _ _ _ s₁ (mkF m 32 #[.val (.int v1), .val (.int p1)] [])
            refine own_go (fun t k => XS.iloadN X0.here hx rfl (hb hby d2_32) rfl k) ?_
            show own_End _ _ _ _ _ _ _ s₁ (mkF m 33 #[.val (.int v1), .val (.int p1)] [(.int p1)])
            refine own_go (fun t k => X0.ldcInt hx hown (mvT hZ (hw _ (List.mem_of_getElem? (i := 23) rfl))) (g := (mkF m 33 #[.val (.int v1), .val (.int p1)] [(.int p1)])) rfl (hb hby d2_33) t k) ?_
            show own_End _ _ _ _ _ _ _ s₁ (mkF m 35 #[.val (.int v1), .val (.int p1)] [(.int (65535 : Int32)), (.int p1)])
            by_cases hc35 : p1 = (65535 : Int32)
            · refine own_go (fun t k => XS.icmpNo X0.here hx rfl (hb hby d2_35) rfl (teq hc35).2 k) ?_
              show own_End _ _ _ _ _ _ _ s₁ (mkF m 38 #[.val (.int v1), .val (.int p1)] [])
              refine own_go (fun t k => XS.iconst X0.here hx rfl (hb hby d2_38) k) ?_
              show own_End _ _ _ _ _ _ _ s₁ (mkF m 39 #[.val (.int v1), .val (.int p1)] [(.int (0 : Int32))])
              exact own_retW X0 hx Bd.returns Bd.notSynchronized rfl (Or.inl ⟨rfl, by simp, _, rfl⟩) (hb hby d2_39) ⟨by simp [own_exp, own_rest, hc1, hc7, hc15, hc21, hc29, hc35], N0, e0⟩ (by decide) (by decide)
            · refine own_go (fun t k => XS.icmpYes X0.here hx rfl (pc0 := 35) (pc' := 40) rfl (hb hby d2_35) rfl (feq hc35).2 (by decide) (by decide) k) ?_
              show own_End _ _ _ _ _ _ _ s₁ (mkF m 40 #[.val (.int v1), .val (.int p1)] [])
              refine own_go (fun t k => XS.iloadN X0.here hx rfl (hb hby d2_40) rfl k) ?_
              show own_End _ _ _ _ _ _ _ s₁ (mkF m 41 #[.val (.int v1), .val (.int p1)] [(.int p1)])
              by_cases hc41 : p1 = (0 : Int32)
              · refine own_go (fun t k => XS.ifNo X0.here hx rfl (hb hby d2_41) rfl ((if0 _ _).trans (teq hc41).2) k) ?_
                show own_End _ _ _ _ _ _ _ s₁ (mkF m 44 #[.val (.int v1), .val (.int p1)] [])
                refine own_go (fun t k => XS.iconst X0.here hx rfl (hb hby d2_44) k) ?_
                show own_End _ _ _ _ _ _ _ s₁ (mkF m 45 #[.val (.int v1), .val (.int p1)] [(.int (0 : Int32))])
                exact own_retW X0 hx Bd.returns Bd.notSynchronized rfl (Or.inl ⟨rfl, by simp, _, rfl⟩) (hb hby d2_45) ⟨by simp [own_exp, own_rest, hc1, hc7, hc15, hc21, hc29, hc35, hc41], N0, e0⟩ (by decide) (by decide)
              · refine own_go (fun t k => XS.ifYes X0.here hx rfl (pc0 := 41) (pc' := 46) rfl (hb hby d2_41) rfl ((if0 _ _).trans (feq hc41).2) (by decide) (by decide) k) ?_
                show own_End _ _ _ _ _ _ _ s₁ (mkF m 46 #[.val (.int v1), .val (.int p1)] [])
                refine own_go (fun t k => XS.iloadN X0.here hx rfl (hb hby d2_46) rfl k) ?_
                show own_End _ _ _ _ _ _ _ s₁ (mkF m 47 #[.val (.int v1), .val (.int p1)] [(.int p1)])
                refine own_go (fun t k => XS.bipush X0.here hx rfl (hb hby d2_47) k) ?_
                show own_End _ _ _ _ _ _ _ s₁ (mkF m 49 #[.val (.int v1), .val (.int p1)] [(.int (32 : Int32)), (.int p1)])
                by_cases hc49 : p1 < (32 : Int32)
                · refine own_go (fun t k => XS.icmpNo X0.here hx rfl (hb hby d2_49) rfl (tlt hc49).2.1 k) ?_
                  show own_End _ _ _ _ _ _ _ s₁ (mkF m 52 #[.val (.int v1), .val (.int p1)] [])
                  refine own_go (fun t k => XS.iloadN X0.here hx rfl (hb hby d2_52) rfl k) ?_
                  show own_End _ _ _ _ _ _ _ s₁ (mkF m 53 #[.val (.int v1), .val (.int p1)] [(.int v1)])
                  by_cases hc53 : v1 = (0 : Int32)
                  · refine own_go (fun t k => XS.ifNo X0.here hx rfl (hb hby d2_53) rfl ((if0 _ _).trans (teq hc53).2) k) ?_
                    show own_End _ _ _ _ _ _ _ s₁ (mkF m 56 #[.val (.int v1), .val (.int p1)] [])
                    refine own_go (fun t k => XS.iloadN X0.here hx rfl (hb hby d2_56) rfl k) ?_
                    show own_End _ _ _ _ _ _ _ s₁ (mkF m 57 #[.val (.int v1), .val (.int p1)] [(.int p1)])
                    refine own_go (fun t k => XS.bipush X0.here hx rfl (hb hby d2_57) k) ?_
                    show own_End _ _ _ _ _ _ _ s₁ (mkF m 59 #[.val (.int v1), .val (.int p1)] [(.int (9 : Int32)), (.int p1)])
                    by_cases hc59 : p1 = (9 : Int32)
                    · refine own_go (fun t k => XS.icmpYes X0.here hx rfl (pc0 := 59) (pc' := 74) rfl (hb hby d2_59) rfl (teq hc59).1 (by decide) (by decide) k) ?_
                      show own_End _ _ _ _ _ _ _ s₁ (mkF m 74 #[.val (.int v1), .val (.int p1)] [])
                      refine own_go (fun t k => XS.iconst X0.here hx rfl (hb hby d2_74) k) ?_
                      show own_End _ _ _ _ _ _ _ s₁ (mkF m 75 #[.val (.int v1), .val (.int p1)] [(.int (1 : Int32))])
                      refine own_go (fun t k => XS.goto X0.here hx rfl (pc0 := 75) (pc' := 79) rfl (hb hby d2_75) (by decide) (by decide) k) ?_
                      show own_End _ _ _ _ _ _ _ s₁ (mkF m 79 #[.val (.int v1), .val (.int p1)] [(.int (1 : Int32))])
                      exact own_retW X0 hx Bd.returns Bd.notSynchronized rfl (Or.inl ⟨rfl, by simp, _, rfl⟩) (hb hby d2_79) ⟨by simp [own_exp, own_rest, hc1, hc7, hc15, hc21, hc29, hc35, hc41, hc49, hc53, hc59], N0, e0⟩ (by decide) (by decide)
                    · refine own_go (fun t k => XS.icmpNo X0.here hx rfl (hb hby d2_59) rfl (feq hc59).1 k) ?_
                      show own_End _ _ _ _ _ _ _ s₁ (mkF m 62 #[.val (.int v1), .val (.int p1)] [])
                      refine own_go (fun t k => XS.iloadN X0.here hx rfl (hb hby d2_62) rfl k) ?_
                      show own_End _ _ _ _ _ _ _ s₁ (mkF m 63 #[.val (.int v1), .val (.int p1)] [(.int p1)])
                      refine own_go (fun t k => XS.bipush X0.here hx rfl (hb hby d2_63) k) ?_
                      show own_End _ _ _ _ _ _ _ s₁ (mkF m 65 #[.val (.int v1), .val (.int p1)] [(.int (10 : Int32)), (.int p1)])
                      by_cases hc65 : p1 = (10 : Int32)
                      · refine own_go (fun t k => XS.icmpYes X0.here hx rfl (pc0 := 65) (pc' := 74) rfl (hb hby d2_65) rfl (teq hc65).1 (by decide) (by decide) k) ?_
                        show own_End _ _ _ _ _ _ _ s₁ (mkF m 74 #[.val (.int v1), .val (.int p1)] [])
                        refine own_go (fun t k => XS.iconst X0.here hx rfl (hb hby d2_74) k) ?_
                        show own_End _ _ _ _ _ _ _ s₁ (mkF m 75 #[.val (.int v1), .val (.int p1)] [(.int (1 : Int32))])
                        refine own_go (fun t k => XS.goto X0.here hx rfl (pc0 := 75) (pc' := 79) rfl (hb hby d2_75) (by decide) (by decide) k) ?_
                        show own_End _ _ _ _ _ _ _ s₁ (mkF m 79 #[.val (.int v1), .val (.int p1)] [(.int (1 : Int32))])
                        exact own_retW X0 hx Bd.returns Bd.notSynchronized rfl (Or.inl ⟨rfl, by simp, _, rfl⟩) (hb hby d2_79) ⟨by simp [own_exp, own_rest, hc1, hc7, hc15, hc21, hc29, hc35, hc41, hc49, hc53, hc59, hc65], N0, e0⟩ (by decide) (by decide)
                      · refine own_go (fun t k => XS.icmpNo X0.here hx rfl (hb hby d2_65) rfl (feq hc65).1 k) ?_
                        show own_End _ _ _ _ _ _ _ s₁ (mkF m 68 #[.val (.int v1), .val (.int p1)] [])
                        refine own_go (fun t k => XS.iloadN X0.here hx rfl (hb hby d2_68) rfl k) ?_
                        show own_End _ _ _ _ _ _ _ s₁ (mkF m 69 #[.val (.int v1), .val (.int p1)] [(.int p1)])
                        refine own_go (fun t k => XS.bipush X0.here hx rfl (hb hby d2_69) k) ?_
                        show own_End _ _ _ _ _ _ _ s₁ (mkF m 71 #[.val (.int v1), .val (.int p1)] [(.int (13 : Int32)), (.int p1)])
                        by_cases hc71 : p1 = (13 : Int32)
                        · refine own_go (fun t k => XS.icmpNo X0.here hx rfl (hb hby d2_71) rfl (teq hc71).2 k) ?_
                          show own_End _ _ _ _ _ _ _ s₁ (mkF m 74 #[.val (.int v1), .val (.int p1)] [])
                          refine own_go (fun t k => XS.iconst X0.here hx rfl (hb hby d2_74) k) ?_
                          show own_End _ _ _ _ _ _ _ s₁ (mkF m 75 #[.val (.int v1), .val (.int p1)] [(.int (1 : Int32))])
                          refine own_go (fun t k => XS.goto X0.here hx rfl (pc0 := 75) (pc' := 79) rfl (hb hby d2_75) (by decide) (by decide) k) ?_
                          show own_End _ _ _ _ _ _ _ s₁ (mkF m 79 #[.val (.int v1), .val (.int p1)] [(.int (1 : Int32))])
                          exact own_retW X0 hx Bd.returns Bd.notSynchronized rfl (Or.inl ⟨rfl, by simp, _, rfl⟩) (hb hby d2_79) ⟨by simp [own_exp, own_rest, hc1, hc7, hc15, hc21, hc29, hc35, hc41, hc49, hc53, hc59, hc65, hc71], N0, e0⟩ (by decide) (by decide)
                        · refine own_go (fun t k => XS.icmpYes X0.here hx rfl (pc0 := 71) (pc' := 78) rfl (hb hby d2_71) rfl (feq hc71).2 (by decide) (by decide) k) ?_
                          show own_End _ _ _ _ _ _ _ s₁ (mkF m 78 #[.val (.int v1), .val (.int p1)] [])
                          refine own_go (fun t k => XS.iconst X0.here hx rfl (hb hby d2_78) k) ?_
                          show own_End _ _ _ _ _ _ _ s₁ (mkF m 79 #[.val (.int v1), .val (.int p1)] [(.int (0 : Int32))])
                          exact own_retW X0 hx Bd.returns Bd.notSynchronized rfl (Or.inl ⟨rfl, by simp, _, rfl⟩) (hb hby d2_79) ⟨by simp [own_exp, own_rest, hc1, hc7, hc15, hc21, hc29, hc35, hc41, hc49, hc53, hc59, hc65, hc71], N0, e0⟩ (by decide) (by decide)
                  · refine own_go (fun t k => XS.ifYes X0.here hx rfl (pc0 := 53) (pc' := 80) rfl (hb hby d2_53) rfl ((if0 _ _).trans (feq hc53).2) (by decide) (by decide) k) ?_
                    show own_End _ _ _ _ _ _ _ s₁ (mkF m 80 #[.val (.int v1), .val (.int p1)] [])
                    refine own_go (fun t k => XS.iconst X0.here hx rfl (hb hby d2_80) k) ?_
                    show own_End _ _ _ _ _ _ _ s₁ (mkF m 81 #[.val (.int v1), .val (.int p1)] [(.int (1 : Int32))])
                    exact own_retW X0 hx Bd.returns Bd.notSynchronized rfl (Or.inl ⟨rfl, by simp, _, rfl⟩) (hb hby d2_81) ⟨by simp [own_exp, own_rest, hc1, hc7, hc15, hc21, hc29, hc35, hc41, hc49, hc53], N0, e0⟩ (by decide) (by decide)
                · refine own_go (fun t k => XS.icmpYes X0.here hx rfl (pc0 := 49) (pc' := 80) rfl (hb hby d2_49) rfl (flt hc49).2.1 (by decide) (by decide) k) ?_
                  show own_End _ _ _ _ _ _ _ s₁ (mkF m 80 #[.val (.int v1), .val (.int p1)] [])
                  refine own_go (fun t k => XS.iconst X0.here hx rfl (hb hby d2_80) k) ?_
                  show own_End _ _ _ _ _ _ _ s₁ (mkF m 81 #[.val (.int v1), .val (.int p1)] [(.int (1 : Int32))])
                  exact own_retW X0 hx Bd.returns Bd.notSynchronized rfl (Or.inl ⟨rfl, by simp, _, rfl⟩) (hb hby d2_81) ⟨by simp [own_exp, own_rest, hc1, hc7, hc15, hc21, hc29, hc35, hc41, hc49], N0, e0⟩ (by decide) (by decide)
        · refine own_go (fun t k => XS.icmpNo X0.here hx rfl (hb hby d2_21) rfl (flt hc21).2.2.1 k) ?_
          show own_End _ _ _ _ _ _ _ s₁ (mkF m 24 #[.val (.int v1), .val (.int p1)] [])
          refine own_go (fun t k => XS.iconst X0.here hx rfl (hb hby d2_24) k) ?_
          show own_End _ _ _ _ _ _ _ s₁ (mkF m 25 #[.val (.int v1), .val (.int p1)] [(.int (0 : Int32))])
          exact own_retW X0 hx Bd.returns Bd.notSynchronized rfl (Or.inl ⟨rfl, by simp, _, rfl⟩) (hb hby d2_25) ⟨by simp [own_exp, own_rest, hc1, hc7, hc15, hc21], N0, e0⟩ (by decide) (by decide)
theorem ef_rm0 (m : MethodId) (x0 : Int32) (x1 : Int32) (x2 : Int32) (x3 : Int32) : entryFrame m #[(.int x0), (.int x1), (.int x2), (.int x3)] maxLocals = mkF m 0 #[.val (.int x0), .val (.int x1), .val (.int x2), .val (.int x3), .unset, .unset, .unset, .unset, .unset] [] := by first | (simp [entryFrame, mkF, argsToLocals, Value.category, maxLocals]; done) | rfl
theorem pd__I_Z : parseMethodDescriptor "(I)Z" = some ⟨[.int], some .boolean⟩ := by decide +kernel
theorem pd__ZI_Z : parseMethodDescriptor "(ZI)Z" = some ⟨[.boolean, .int], some .boolean⟩ := by decide +kernel
set_option maxRecDepth 65536 in
set_option maxHeartbeats 40000000 in
theorem rm0 (l : Launch) (Z : State) (a0 : Array Value) (hw : ∀ d ∈ tables_1, d.before a0 Z = true) (ws : List Jvm.Cond) (p1 p2 p3 p4 : Int32) (wO wI : Addr) (h0 : Heap) (n0 : Nat) (Z0 : n0 ≤ h0.size) (SO : Sta Z h0 "com/example/vonare/vonare/tokenizer/XmlVersion" "XML_1_0" "Lcom/example/vonare/vonare/tokenizer/XmlVersion;" (.ref wO)) (SI : Sta Z h0 "com/example/vonare/vonare/tokenizer/XmlVersion" "XML_1_1" "Lcom/example/vonare/vonare/tokenizer/XmlVersion;" (.ref wI)) (EO : Exa Z h0 wO "com/example/vonare/vonare/tokenizer/XmlVersion") (EI : Exa Z h0 wI "com/example/vonare/vonare/tokenizer/XmlVersion") (nOI : ¬ wO = wI) :
    MetFree l x (head1 (Jvm.Cond.code x code maxLocals ret :: ws) room_1) (fun a U => a = #[(.int p1), (.int p2), (.int p3), (.int p4)] ∧ Z.Warmed39 U.vm ∧ U.heap = h0) (fun _ _ _ _ _ => True) (fun _ U o U' => ∃ v L, o = .returned v ∧ own_law n0 v U'.heap L ∧ FrameEnd U o U' L room_1.cells room_1.slots) := by
  refine MetFree.of_bodySF (plainFor_of_name pn_com_example_vonare_vonare_tokenizer_XmlVersionIsCharPinLaw) hisR ?_
  intro p e s m args below meth c s₁ Bd hml0 hP hK
  obtain ⟨rfl, hZ, hh⟩ := hP
  have hx := Bd.exec
  have hby := Bd.bytes
  have hml : c.maxLocals = 9 := hml0
  have hown : s.vm.findClass "com/example/vonare/vonare/tokenizer/XmlVersionIsCharPinLaw" = some m.cls := findClass_of_methodNamed Bd.named
  have hnm := (name_of_methodNamed Bd.named Bd.method).1
  have X0 : Stand p l e room_1 s m #[(.int p1), (.int p2), (.int p3), (.int p4)] below meth c s₁ [] 0 0 := Stand.of_body Bd
  have e0 : s₁.heap = h0 := by rw [← hh, Bd.state]; rfl
  have N0 := Fr.nil n0
  suffices own_main : own_End p e below s (own_law n0) room_1.cells room_1.slots s₁ (mkF m 0 #[.val (.int p1), .val (.int p2), .val (.int p3), .val (.int p4), .unset, .unset, .unset, .unset, .unset] []) by
    obtain ⟨s₂, o, k1, k2, k3, k4⟩ := own_main
    exact ⟨s₂, o, castTop (ef_rm0 m p1 p2 p3 p4) k1, k2, k3, k4⟩
  have j29 : ∀ (T : State) (X : Stand p l e room_1 s m #[(.int p1), (.int p2), (.int p3), (.int p4)] below meth c T [] 0 0) (eT : T.heap = h0) (v : Int32) (a : Addr), ((v = 1 ∧ a = wI) ∨ (v = 0 ∧ ¬ a = wI)) → Exa Z h0 a "com/example/vonare/vonare/tokenizer/XmlVersion" → own_End p e below s (own_law n0) room_1.cells room_1.slots T (mkF m 29 #[.val (.int p1), .val (.int p2), .val (.int p3), .val (.int p4), .val (.int v), .val (.ref a), .unset, .unset, .unset] []) := by
    intro Tj29 Xj29 ej29 v a hva hE
    show own_End _ _ _ _ _ _ _ Tj29 (mkF m 29 #[.val (.int p1), .val (.int p2), .val (.int p3), .val (.int p4), .val (.int v), .val (.ref a), .unset, .unset, .unset] [])
    refine own_go (fun t k => XS.bipush Xj29.here hx rfl (hb hby at_29) k) ?_
    show own_End _ _ _ _ _ _ _ Tj29 (mkF m 31 #[.val (.int p1), .val (.int p2), .val (.int p3), .val (.int p4), .val (.int v), .val (.ref a), .unset, .unset, .unset] [(.int (8 : Int32))])
    obtain ⟨T2, h2, k2, X2, e2, E2, A2, st2⟩ := newP Xj29 hx hZ (hw _ (List.mem_of_getElem? (i := 3) rfl)) ej29 (g := (mkF m 31 #[.val (.int p1), .val (.int p2), .val (.int p3), .val (.int p4), .val (.int v), .val (.ref a), .unset, .unset, .unset] [(.int (8 : Int32))])) rfl (hb hby at_31) rfl (by decide) (cap := 8) (by decide) (by decide) (by decide) (by decide)
    obtain ⟨b2, g2⟩ : ∃ z, z = h0.size := ⟨_, rfl⟩
    rw [← g2] at A2 st2
    have ne_a_b2 : a ≠ b2 := Nat.ne_of_lt (Nat.lt_of_lt_of_le hE.lt (Nat.le_of_eq g2.symm))
    have g_b2 : n0 ≤ b2 := Nat.le_trans Z0 (Nat.le_of_eq g2.symm)
    have sz_b2 : h0.size ≤ b2 := Nat.le_trans (Keep.refl h0 []).1 (Nat.le_of_eq g2.symm)
    have V2 : Arv Z h2 b2 k2 .int (8 : Int32) [(.int (0 : Int32)), (.int (0 : Int32)), (.int (0 : Int32)), (.int (0 : Int32)), (.int (0 : Int32)), (.int (0 : Int32)), (.int (0 : Int32)), (.int (0 : Int32))] (.int (0 : Int32)) := (Arv.new A2 (by decide)).pad (pad_rep [] (.int (0 : Int32)) 8)
    have K3 : Keep h0 h2 [] := (Keep.refl h0 []).ext E2
    refine own_go st2 ?_
    show own_End _ _ _ _ _ _ _ T2 (mkF m 33 #[.val (.int p1), .val (.int p2), .val (.int p3), .val (.int p4), .val (.int v), .val (.ref a), .unset, .unset, .unset] [(.ref b2)])
    refine own_go (fun t k => XS.dup X2.here hx rfl (hb hby at_33) rfl rfl k) ?_
    show own_End _ _ _ _ _ _ _ T2 (mkF m 34 #[.val (.int p1), .val (.int p2), .val (.int p3), .val (.int p4), .val (.int v), .val (.ref a), .unset, .unset, .unset] [(.ref b2), (.ref b2)])
    refine own_go (fun t k => XS.iconst X2.here hx rfl (hb hby at_34) k) ?_
    show own_End _ _ _ _ _ _ _ T2 (mkF m 35 #[.val (.int p1), .val (.int p2), .val (.int p3), .val (.int p4), .val (.int v), .val (.ref a), .unset, .unset, .unset] [(.int (0 : Int32)), (.ref b2), (.ref b2)])
    refine own_go (fun t k => XS.iconst X2.here hx rfl (hb hby at_35) k) ?_
    show own_End _ _ _ _ _ _ _ T2 (mkF m 36 #[.val (.int p1), .val (.int p2), .val (.int p3), .val (.int p4), .val (.int v), .val (.ref a), .unset, .unset, .unset] [(.int (0 : Int32)), (.int (0 : Int32)), (.ref b2), (.ref b2)])
    obtain ⟨cl4, Ar4, q4, S4, M4, H4, G4⟩ := V2
    obtain ⟨T4, h4, X4, e4, W4, st4⟩ := stI X2 hx hZ e2 Ar4 (j := (0 : Int32)) (inb_of S4 ⟨by decide, by decide⟩) (g := (mkF m 36 #[.val (.int p1), .val (.int p2), .val (.int p3), .val (.int p4), .val (.int v), .val (.ref a), .unset, .unset, .unset] [(.int (0 : Int32)), (.int (0 : Int32)), (.ref b2), (.ref b2)])) rfl rfl (hb hby at_36)
    have V4 := Arv.set Ar4 q4 S4 M4 H4 G4 rfl W4 0 rfl (Nat.le_of_ble_eq_true rfl)
    have K5 : Keep h0 h4 [] := K3.wr W4 (Or.inr sz_b2)
    have N4 := Fr.snoc X4 N0 g_b2
    refine own_go st4 ?_
    show own_End _ _ _ _ _ _ _ T4 (mkF m 37 #[.val (.int p1), .val (.int p2), .val (.int p3), .val (.int p4), .val (.int v), .val (.ref a), .unset, .unset, .unset] [(.ref b2)])
    refine own_go (fun t k => XS.dup X4.here hx rfl (hb hby at_37) rfl rfl k) ?_
    show own_End _ _ _ _ _ _ _ T4 (mkF m 38 #[.val (.int p1), .val (.int p2), .val (.int p3), .val (.int p4), .val (.int v), .val (.ref a), .unset, .unset, .unset] [(.ref b2), (.ref b2)])
    refine own_go (fun t k => XS.iconst X4.here hx rfl (hb hby at_38) k) ?_
    show own_End _ _ _ _ _ _ _ T4 (mkF m 39 #[.val (.int p1), .val (.int p2), .val (.int p3), .val (.int p4), .val (.int v), .val (.ref a), .unset, .unset, .unset] [(.int (1 : Int32)), (.ref b2), (.ref b2)])
    refine own_go (fun t k => XS.bipush X4.here hx rfl (hb hby at_39) k) ?_
    show own_End _ _ _ _ _ _ _ T4 (mkF m 41 #[.val (.int p1), .val (.int p2), .val (.int p3), .val (.int p4), .val (.int v), .val (.ref a), .unset, .unset, .unset] [(.int (32 : Int32)), (.int (1 : Int32)), (.ref b2), (.ref b2)])
    obtain ⟨cl6, Ar6, q6, S6, M6, H6, G6⟩ := V4
    obtain ⟨T6, h6, X6, e6, W6, st6⟩ := stI X4 hx hZ e4 Ar6 (j := (1 : Int32)) (inb_of S6 ⟨by decide, by decide⟩) (g := (mkF m 41 #[.val (.int p1), .val (.int p2), .val (.int p3), .val (.int p4), .val (.int v), .val (.ref a), .unset, .unset, .unset] [(.int (32 : Int32)), (.int (1 : Int32)), (.ref b2), (.ref b2)])) rfl rfl (hb hby at_41)
    have V6 := Arv.set Ar6 q6 S6 M6 H6 G6 rfl W6 1 rfl (Nat.le_of_ble_eq_true rfl)
    have K7 : Keep h0 h6 [] := K5.wr W6 (Or.inr sz_b2)
    have N6 := Fr.snoc X6 N4 g_b2
    refine own_go st6 ?_
    show own_End _ _ _ _ _ _ _ T6 (mkF m 42 #[.val (.int p1), .val (.int p2), .val (.int p3), .val (.int p4), .val (.int v), .val (.ref a), .unset, .unset, .unset] [(.ref b2)])
    refine own_go (fun t k => XS.dup X6.here hx rfl (hb hby at_42) rfl rfl k) ?_
    show own_End _ _ _ _ _ _ _ T6 (mkF m 43 #[.val (.int p1), .val (.int p2), .val (.int p3), .val (.int p4), .val (.int v), .val (.ref a), .unset, .unset, .unset] [(.ref b2), (.ref b2)])
    refine own_go (fun t k => XS.iconst X6.here hx rfl (hb hby at_43) k) ?_
    show own_End _ _ _ _ _ _ _ T6 (mkF m 44 #[.val (.int p1), .val (.int p2), .val (.int p3), .val (.int p4), .val (.int v), .val (.ref a), .unset, .unset, .unset] [(.int (2 : Int32)), (.ref b2), (.ref b2)])
    refine own_go (fun t k => X6.ldcInt hx hown (mvT hZ (hw _ (List.mem_of_getElem? (i := 4) rfl))) (g := (mkF m 44 #[.val (.int p1), .val (.int p2), .val (.int p3), .val (.int p4), .val (.int v), .val (.ref a), .unset, .unset, .unset] [(.int (2 : Int32)), (.ref b2), (.ref b2)])) rfl (hb hby at_44) t k) ?_
    show own_End _ _ _ _ _ _ _ T6 (mkF m 46 #[.val (.int p1), .val (.int p2), .val (.int p3), .val (.int p4), .val (.int v), .val (.ref a), .unset, .unset, .unset] [(.int (55296 : Int32)), (.int (2 : Int32)), (.ref b2), (.ref b2)])
    obtain ⟨cl8, Ar8, q8, S8, M8, H8, G8⟩ := V6
    obtain ⟨T8, h8, X8, e8, W8, st8⟩ := stI X6 hx hZ e6 Ar8 (j := (2 : Int32)) (inb_of S8 ⟨by decide, by decide⟩) (g := (mkF m 46 #[.val (.int p1), .val (.int p2), .val (.int p3), .val (.int p4), .val (.int v), .val (.ref a), .unset, .unset, .unset] [(.int (55296 : Int32)), (.int (2 : Int32)), (.ref b2), (.ref b2)])) rfl rfl (hb hby at_46)
    have V8 := Arv.set Ar8 q8 S8 M8 H8 G8 rfl W8 2 rfl (Nat.le_of_ble_eq_true rfl)
    have K9 : Keep h0 h8 [] := K7.wr W8 (Or.inr sz_b2)
    have N8 := Fr.snoc X8 N6 g_b2
    refine own_go st8 ?_
    show own_End _ _ _ _ _ _ _ T8 (mkF m 47 #[.val (.int p1), .val (.int p2), .val (.int p3), .val (.int p4), .val (.int v), .val (.ref a), .unset, .unset, .unset] [(.ref b2)])
    refine own_go (fun t k => XS.dup X8.here hx rfl (hb hby at_47) rfl rfl k) ?_
    show own_End _ _ _ _ _ _ _ T8 (mkF m 48 #[.val (.int p1), .val (.int p2), .val (.int p3), .val (.int p4), .val (.int v), .val (.ref a), .unset, .unset, .unset] [(.ref b2), (.ref b2)])
    refine own_go (fun t k => XS.iconst X8.here hx rfl (hb hby at_48) k) ?_
    show own_End _ _ _ _ _ _ _ T8 (mkF m 49 #[.val (.int p1), .val (.int p2), .val (.int p3), .val (.int p4), .val (.int v), .val (.ref a), .unset, .unset, .unset] [(.int (3 : Int32)), (.ref b2), (.ref b2)])
    refine own_go (fun t k => X8.ldcInt hx hown (mvT hZ (hw _ (List.mem_of_getElem? (i := 5) rfl))) (g := (mkF m 49 #[.val (.int p1), .val (.int p2), .val (.int p3), .val (.int p4), .val (.int v), .val (.ref a), .unset, .unset, .unset] [(.int (3 : Int32)), (.ref b2), (.ref b2)])) rfl (hb hby at_49) t k) ?_
    show own_End _ _ _ _ _ _ _ T8 (mkF m 51 #[.val (.int p1), .val (.int p2), .val (.int p3), .val (.int p4), .val (.int v), .val (.ref a), .unset, .unset, .unset] [(.int (57344 : Int32)), (.int (3 : Int32)), (.ref b2), (.ref b2)])
    obtain ⟨cl10, Ar10, q10, S10, M10, H10, G10⟩ := V8
    obtain ⟨T10, h10, X10, e10, W10, st10⟩ := stI X8 hx hZ e8 Ar10 (j := (3 : Int32)) (inb_of S10 ⟨by decide, by decide⟩) (g := (mkF m 51 #[.val (.int p1), .val (.int p2), .val (.int p3), .val (.int p4), .val (.int v), .val (.ref a), .unset, .unset, .unset] [(.int (57344 : Int32)), (.int (3 : Int32)), (.ref b2), (.ref b2)])) rfl rfl (hb hby at_51)
    have V10 := Arv.set Ar10 q10 S10 M10 H10 G10 rfl W10 3 rfl (Nat.le_of_ble_eq_true rfl)
    have K11 : Keep h0 h10 [] := K9.wr W10 (Or.inr sz_b2)
    have N10 := Fr.snoc X10 N8 g_b2
    refine own_go st10 ?_
    show own_End _ _ _ _ _ _ _ T10 (mkF m 52 #[.val (.int p1), .val (.int p2), .val (.int p3), .val (.int p4), .val (.int v), .val (.ref a), .unset, .unset, .unset] [(.ref b2)])
    refine own_go (fun t k => XS.dup X10.here hx rfl (hb hby at_52) rfl rfl k) ?_
    show own_End _ _ _ _ _ _ _ T10 (mkF m 53 #[.val (.int p1), .val (.int p2), .val (.int p3), .val (.int p4), .val (.int v), .val (.ref a), .unset, .unset, .unset] [(.ref b2), (.ref b2)])
    refine own_go (fun t k => XS.iconst X10.here hx rfl (hb hby at_53) k) ?_
    show own_End _ _ _ _ _ _ _ T10 (mkF m 54 #[.val (.int p1), .val (.int p2), .val (.int p3), .val (.int p4), .val (.int v), .val (.ref a), .unset, .unset, .unset] [(.int (4 : Int32)), (.ref b2), (.ref b2)])
    refine own_go (fun t k => X10.ldcInt hx hown (mvT hZ (hw _ (List.mem_of_getElem? (i := 6) rfl))) (g := (mkF m 54 #[.val (.int p1), .val (.int p2), .val (.int p3), .val (.int p4), .val (.int v), .val (.ref a), .unset, .unset, .unset] [(.int (4 : Int32)), (.ref b2), (.ref b2)])) rfl (hb hby at_54) t k) ?_
    show own_End _ _ _ _ _ _ _ T10 (mkF m 56 #[.val (.int p1), .val (.int p2), .val (.int p3), .val (.int p4), .val (.int v), .val (.ref a), .unset, .unset, .unset] [(.int (65534 : Int32)), (.int (4 : Int32)), (.ref b2), (.ref b2)])
    obtain ⟨cl12, Ar12, q12, S12, M12, H12, G12⟩ := V10
    obtain ⟨T12, h12, X12, e12, W12, st12⟩ := stI X10 hx hZ e10 Ar12 (j := (4 : Int32)) (inb_of S12 ⟨by decide, by decide⟩) (g := (mkF m 56 #[.val (.int p1), .val (.int p2), .val (.int p3), .val (.int p4), .val (.int v), .val (.ref a), .unset, .unset, .unset] [(.int (65534 : Int32)), (.int (4 : Int32)), (.ref b2), (.ref b2)])) rfl rfl (hb hby at_56)
    have V12 := Arv.set Ar12 q12 S12 M12 H12 G12 rfl W12 4 rfl (Nat.le_of_ble_eq_true rfl)
    have K13 : Keep h0 h12 [] := K11.wr W12 (Or.inr sz_b2)
    have N12 := Fr.snoc X12 N10 g_b2
    refine own_go st12 ?_
    show own_End _ _ _ _ _ _ _ T12 (mkF m 57 #[.val (.int p1), .val (.int p2), .val (.int p3), .val (.int p4), .val (.int v), .val (.ref a), .unset, .unset, .unset] [(.ref b2)])
    refine own_go (fun t k => XS.dup X12.here hx rfl (hb hby at_57) rfl rfl k) ?_
    show own_End _ _ _ _ _ _ _ T12 (mkF m 58 #[.val (.int p1), .val (.int p2), .val (.int p3), .val (.int p4), .val (.int v), .val (.ref a), .unset, .unset, .unset] [(.ref b2), (.ref b2)])
    refine own_go (fun t k => XS.iconst X12.here hx rfl (hb hby at_58) k) ?_
    show own_End _ _ _ _ _ _ _ T12 (mkF m 59 #[.val (.int p1), .val (.int p2), .val (.int p3), .val (.int p4), .val (.int v), .val (.ref a), .unset, .unset, .unset] [(.int (5 : Int32)), (.ref b2), (.ref b2)])
    refine own_go (fun t k => X12.ldcInt hx hown (mvT hZ (hw _ (List.mem_of_getElem? (i := 7) rfl))) (g := (mkF m 59 #[.val (.int p1), .val (.int p2), .val (.int p3), .val (.int p4), .val (.int v), .val (.ref a), .unset, .unset, .unset] [(.int (5 : Int32)), (.ref b2), (.ref b2)])) rfl (hb hby at_59) t k) ?_
    show own_End _ _ _ _ _ _ _ T12 (mkF m 61 #[.val (.int p1), .val (.int p2), .val (.int p3), .val (.int p4), .val (.int v), .val (.ref a), .unset, .unset, .unset] [(.int (65536 : Int32)), (.int (5 : Int32)), (.ref b2), (.ref b2)])
    obtain ⟨cl14, Ar14, q14, S14, M14, H14, G14⟩ := V12
    obtain ⟨T14, h14, X14, e14, W14, st14⟩ := stI X12 hx hZ e12 Ar14 (j := (5 : Int32)) (inb_of S14 ⟨by decide, by decide⟩) (g := (mkF m 61 #[.val (.int p1), .val (.int p2), .val (.int p3), .val (.int p4), .val (.int v), .val (.ref a), .unset, .unset, .unset] [(.int (65536 : Int32)), (.int (5 : Int32)), (.ref b2), (.ref b2)])) rfl rfl (hb hby at_61)
    have V14 := Arv.set Ar14 q14 S14 M14 H14 G14 rfl W14 5 rfl (Nat.le_of_ble_eq_true rfl)
    have K15 : Keep h0 h14 [] := K13.wr W14 (Or.inr sz_b2)
    have N14 := Fr.snoc X14 N12 g_b2
    refine own_go st14 ?_
    show own_End _ _ _ _ _ _ _ T14 (mkF m 62 #[.val (.int p1), .val (.int p2), .val (.int p3), .val (.int p4), .val (.int v), .val (.ref a), .unset, .unset, .unset] [(.ref b2)])
    refine own_go (fun t k => XS.dup X14.here hx rfl (hb hby at_62) rfl rfl k) ?_
    show own_End _ _ _ _ _ _ _ T14 (mkF m 63 #[.val (.int p1), .val (.int p2), .val (.int p3), .val (.int p4), .val (.int v), .val (.ref a), .unset, .unset, .unset] [(.ref b2), (.ref b2)])
    refine own_go (fun t k => XS.bipush X14.here hx rfl (hb hby at_63) k) ?_
    show own_End _ _ _ _ _ _ _ T14 (mkF m 65 #[.val (.int p1), .val (.int p2), .val (.int p3), .val (.int p4), .val (.int v), .val (.ref a), .unset, .unset, .unset] [(.int (6 : Int32)), (.ref b2), (.ref b2)])
    refine own_go (fun t k => X14.ldcInt hx hown (mvT hZ (hw _ (List.mem_of_getElem? (i := 8) rfl))) (g := (mkF m 65 #[.val (.int p1), .val (.int p2), .val (.int p3), .val (.int p4), .val (.int v), .val (.ref a), .unset, .unset, .unset] [(.int (6 : Int32)), (.ref b2), (.ref b2)])) rfl (hb hby at_65) t k) ?_
    show own_End _ _ _ _ _ _ _ T14 (mkF m 67 #[.val (.int p1), .val (.int p2), .val (.int p3), .val (.int p4), .val (.int v), .val (.ref a), .unset, .unset, .unset] [(.int (1114112 : Int32)), (.int (6 : Int32)), (.ref b2), (.ref b2)])
    obtain ⟨cl16, Ar16, q16, S16, M16, H16, G16⟩ := V14
    obtain ⟨T16, h16, X16, e16, W16, st16⟩ := stI X14 hx hZ e14 Ar16 (j := (6 : Int32)) (inb_of S16 ⟨by decide, by decide⟩) (g := (mkF m 67 #[.val (.int p1), .val (.int p2), .val (.int p3), .val (.int p4), .val (.int v), .val (.ref a), .unset, .unset, .unset] [(.int (1114112 : Int32)), (.int (6 : Int32)), (.ref b2), (.ref b2)])) rfl rfl (hb hby at_67)
    have V16 := Arv.set Ar16 q16 S16 M16 H16 G16 rfl W16 6 rfl (Nat.le_of_ble_eq_true rfl)
    have K17 : Keep h0 h16 [] := K15.wr W16 (Or.inr sz_b2)
    have N16 := Fr.snoc X16 N14 g_b2
    refine own_go st16 ?_
    show own_End _ _ _ _ _ _ _ T16 (mkF m 68 #[.val (.int p1), .val (.int p2), .val (.int p3), .val (.int p4), .val (.int v), .val (.ref a), .unset, .unset, .unset] [(.ref b2)])
    refine own_go (fun t k => XS.dup X16.here hx rfl (hb hby at_68) rfl rfl k) ?_
    show own_End _ _ _ _ _ _ _ T16 (mkF m 69 #[.val (.int p1), .val (.int p2), .val (.int p3), .val (.int p4), .val (.int v), .val (.ref a), .unset, .unset, .unset] [(.ref b2), (.ref b2)])
    refine own_go (fun t k => XS.bipush X16.here hx rfl (hb hby at_69) k) ?_
    show own_End _ _ _ _ _ _ _ T16 (mkF m 71 #[.val (.int p1), .val (.int p2), .val (.int p3), .val (.int p4), .val (.int v), .val (.ref a), .unset, .unset, .unset] [(.int (7 : Int32)), (.ref b2), (.ref b2)])
    refine own_go (fun t k => X16.ldcInt hx hown (mvT hZ (hw _ (List.mem_of_getElem? (i := 9) rfl))) (g := (mkF m 71 #[.val (.int p1), .val (.int p2), .val (.int p3), .val (.int p4), .val (.int v), .val (.ref a), .unset, .unset, .unset] [(.int (7 : Int32)), (.ref b2), (.ref b2)])) rfl (hb hby at_71) t k) ?_
    show own_End _ _ _ _ _ _ _ T16 (mkF m 73 #[.val (.int p1), .val (.int p2), .val (.int p3), .val (.int p4), .val (.int v), .val (.ref a), .unset, .unset, .unset] [(.int (-2147483648 : Int32)), (.int (7 : Int32)), (.ref b2), (.ref b2)])
    obtain ⟨cl18, Ar18, q18, S18, M18, H18, G18⟩ := V16
    obtain ⟨T18, h18, X18, e18, W18, st18⟩ := stI X16 hx hZ e16 Ar18 (j := (7 : Int32)) (inb_of S18 ⟨by decide, by decide⟩) (g := (mkF m 73 #[.val (.int p1), .val (.int p2), .val (.int p3), .val (.int p4), .val (.int v), .val (.ref a), .unset, .unset, .unset] [(.int (-2147483648 : Int32)), (.int (7 : Int32)), (.ref b2), (.ref b2)])) rfl rfl (hb hby at_73)
    have V18 := Arv.set Ar18 q18 S18 M18 H18 G18 rfl W18 7 rfl (Nat.le_of_ble_eq_true rfl)
    have K19 : Keep h0 h18 [] := K17.wr W18 (Or.inr sz_b2)
    have N18 := Fr.snoc X18 N16 g_b2
    refine own_go st18 ?_
    show own_End _ _ _ _ _ _ _ T18 (mkF m 74 #[.val (.int p1), .val (.int p2), .val (.int p3), .val (.int p4), .val (.int v), .val (.ref a), .unset, .unset, .unset] [(.ref b2)])
    refine own_go (fun t k => XS.astore X18.here hx rfl (hb hby at_74) rfl rfl (l' := #[.val (.int p1), .val (.int p2), .val (.int p3), .val (.int p4), .val (.int v), .val (.ref a), .val (.ref b2), .unset, .unset]) rfl k) ?_
    show own_End _ _ _ _ _ _ _ T18 (mkF m 76 #[.val (.int p1), .val (.int p2), .val (.int p3), .val (.int p4), .val (.int v), .val (.ref a), .val (.ref b2), .unset, .unset] [])
    have j138 : ∀ (md cc : Int32),  own_End p e below s (own_law n0) room_1.cells room_1.slots T18 (mkF m 138 #[.val (.int p1), .val (.int p2), .val (.int p3), .val (.int p4), .val (.int v), .val (.ref a), .val (.ref b2), .val (.int md), .val (.int cc)] []) := by
      intro md cc
      show own_End _ _ _ _ _ _ _ T18 (mkF m 138 #[.val (.int p1), .val (.int p2), .val (.int p3), .val (.int p4), .val (.int v), .val (.ref a), .val (.ref b2), .val (.int md), .val (.int cc)] [])
      refine own_go (fun t k => XS.aload X18.here hx rfl (hb hby at_138) rfl rfl k) ?_
      show own_End _ _ _ _ _ _ _ T18 (mkF m 140 #[.val (.int p1), .val (.int p2), .val (.int p3), .val (.int p4), .val (.int v), .val (.ref a), .val (.ref b2), .val (.int md), .val (.int cc)] [(.ref a)])
      refine own_go (fun t k => XS.iload X18.here hx rfl (hb hby at_140) rfl k) ?_
      show own_End _ _ _ _ _ _ _ T18 (mkF m 142 #[.val (.int p1), .val (.int p2), .val (.int p3), .val (.int p4), .val (.int v), .val (.ref a), .val (.ref b2), .val (.int md), .val (.int cc)] [(.int cc), (.ref a)])
      obtain ⟨v20, T20, L20, X20, hQ20, st20⟩ := own_callV (y := (⟨"com/example/vonare/vonare/tokenizer/XmlVersion", "isChar", "(I)Z"⟩ : MethodName)) (z := (⟨"com/example/vonare/vonare/tokenizer/XmlVersion", "isChar", "(I)Z"⟩ : MethodName)) X18 hx hZ hown (hw _ (List.mem_of_getElem? (i := 11) rfl)) (hw _ (List.mem_of_getElem? (i := 12) rfl)) (hw _ (List.mem_of_getElem? (i := 14) rfl)) (hw _ (List.mem_of_getElem? (i := 13) rfl)) (((((((((hE.ext E2).wr W4).wr W6).wr W8).wr W10).wr W12).wr W14).wr W16).wr W18) (hw _ (List.mem_of_getElem? (i := 15) rfl)) (by decide) (hw _ (List.mem_of_getElem? (i := 1) rfl)) (rm1 l Z a0 hw [] a cc wI h18 n0 (Nat.le_trans (Nat.le_trans (Nat.le_trans (Nat.le_trans (Nat.le_trans (Nat.le_trans (Nat.le_trans (Nat.le_trans (Nat.le_trans Z0 E2.1) (Keep.of_wr W4).1) (Keep.of_wr W6).1) (Keep.of_wr W8).1) (Keep.of_wr W10).1) (Keep.of_wr W12).1) (Keep.of_wr W14).1) (Keep.of_wr W16).1) (Keep.of_wr W18).1) (((((((((SI.ext E2).wr W4).wr W6).wr W8).wr W10).wr W12).wr W14).wr W16).wr W18)) e18 (W := 0) (by decide) (by decide) (g := (mkF m 142 #[.val (.int p1), .val (.int p2), .val (.int p3), .val (.int p4), .val (.int v), .val (.ref a), .val (.ref b2), .val (.int md), .val (.int cc)] [(.int cc), (.ref a)])) rfl (by rw [hml]; rfl) (argsL := [(.int cc)]) (rest := []) (b := a) rfl (notFace_of_selects (args := #[]) (mvT hZ (hw _ (List.mem_of_getElem? (i := 14) rfl)))) (lenOf pd__I_Z rfl) rfl (by show 2 * 0 + _ ≤ _; exact Nat.le_of_eq rfl) (hb hby at_142) (by decide) (by decide)
      obtain ⟨rfl, N20q, e20⟩ := hQ20
      have N20 := Fr.app N18 N20q
      refine own_go st20 ?_
      show own_End _ _ _ _ _ _ _ T20 (mkF m 145 #[.val (.int p1), .val (.int p2), .val (.int p3), .val (.int p4), .val (.int v), .val (.ref a), .val (.ref b2), .val (.int md), .val (.int cc)] [(.int (own_isc a wI cc))])
      refine own_go (fun t k => XS.iload X20.here hx rfl (hb hby at_145) rfl k) ?_
      show own_End _ _ _ _ _ _ _ T20 (mkF m 147 #[.val (.int p1), .val (.int p2), .val (.int p3), .val (.int p4), .val (.int v), .val (.ref a), .val (.ref b2), .val (.int md), .val (.int cc)] [(.int v), (.int (own_isc a wI cc))])
      refine own_go (fun t k => XS.iload X20.here hx rfl (hb hby at_147) rfl k) ?_
      show own_End _ _ _ _ _ _ _ T20 (mkF m 149 #[.val (.int p1), .val (.int p2), .val (.int p3), .val (.int p4), .val (.int v), .val (.ref a), .val (.ref b2), .val (.int md), .val (.int cc)] [(.int cc), (.int v), (.int (own_isc a wI cc))])
      obtain ⟨v21, T21, L21, X21, hQ21, st21⟩ := own_callS (y := (⟨"com/example/vonare/vonare/tokenizer/XmlVersionIsCharPinLaw", "expected", "(ZI)Z"⟩ : MethodName)) X20 hx hZ hown (hw _ (List.mem_of_getElem? (i := 18) rfl)) (hw _ (List.mem_of_getElem? (i := 19) rfl)) (hw _ (List.mem_of_getElem? (i := 21) rfl)) (by decide) (hw _ (List.mem_of_getElem? (i := 20) rfl)) (rm2 l Z a0 hw [] v cc h18 n0 (Nat.le_trans (Nat.le_trans (Nat.le_trans (Nat.le_trans (Nat.le_trans (Nat.le_trans (Nat.le_trans (Nat.le_trans (Nat.le_trans Z0 E2.1) (Keep.of_wr W4).1) (Keep.of_wr W6).1) (Keep.of_wr W8).1) (Keep.of_wr W10).1) (Keep.of_wr W12).1) (Keep.of_wr W14).1) (Keep.of_wr W16).1) (Keep.of_wr W18).1)) e20 (W := 1) (by decide) (by decide) (g := (mkF m 149 #[.val (.int p1), .val (.int p2), .val (.int p3), .val (.int p4), .val (.int v), .val (.ref a), .val (.ref b2), .val (.int md), .val (.int cc)] [(.int cc), (.int v), (.int (own_isc a wI cc))])) rfl (by rw [hml]; rfl) (argsL := [(.int v), (.int cc)]) (rest := [(.int (own_isc a wI cc))]) rfl (lenOf pd__ZI_Z rfl) rfl (by show 2 * 0 + _ ≤ _; exact Nat.le_of_eq rfl) (hb hby at_149) (by decide) (by decide)
      obtain ⟨rfl, N21q, e21⟩ := hQ21
      have N21 := Fr.app N20 N21q
      refine own_go st21 ?_
      show own_End _ _ _ _ _ _ _ T21 (mkF m 152 #[.val (.int p1), .val (.int p2), .val (.int p3), .val (.int p4), .val (.int v), .val (.ref a), .val (.ref b2), .val (.int md), .val (.int cc)] [(.int (own_exp v cc)), (.int (own_isc a wI cc))])
      refine own_go (fun t k => XS.icmpNo X21.here hx rfl (hb hby at_152) rfl (teq (own_same hva cc)).2 k) ?_
      show own_End _ _ _ _ _ _ _ T21 (mkF m 155 #[.val (.int p1), .val (.int p2), .val (.int p3), .val (.int p4), .val (.int v), .val (.ref a), .val (.ref b2), .val (.int md), .val (.int cc)] [])
      refine own_go (fun t k => XS.iconst X21.here hx rfl (hb hby at_155) k) ?_
      show own_End _ _ _ _ _ _ _ T21 (mkF m 156 #[.val (.int p1), .val (.int p2), .val (.int p3), .val (.int p4), .val (.int v), .val (.ref a), .val (.ref b2), .val (.int md), .val (.int cc)] [(.int (1 : Int32))])
      refine own_go (fun t k => XS.goto X21.here hx rfl (pc0 := 156) (pc' := 160) rfl (hb hby at_156) (by decide) (by decide) k) ?_
      show own_End _ _ _ _ _ _ _ T21 (mkF m 160 #[.val (.int p1), .val (.int p2), .val (.int p3), .val (.int p4), .val (.int v), .val (.ref a), .val (.ref b2), .val (.int md), .val (.int cc)] [(.int (1 : Int32))])
      exact own_retW X21 hx Bd.returns Bd.notSynchronized rfl (Or.inl ⟨rfl, by simp, _, rfl⟩) (hb hby at_160) ⟨rfl, N21⟩ (by decide) (by decide)
    show own_End _ _ _ _ _ _ _ T18 (mkF m 76 #[.val (.int p1), .val (.int p2), .val (.int p3), .val (.int p4), .val (.int v), .val (.ref a), .val (.ref b2), .unset, .unset] [])
    refine own_go (fun t k => XS.iloadN X18.here hx rfl (hb hby at_76) rfl k) ?_
    show own_End _ _ _ _ _ _ _ T18 (mkF m 77 #[.val (.int p1), .val (.int p2), .val (.int p3), .val (.int p4), .val (.int v), .val (.ref a), .val (.ref b2), .unset, .unset] [(.int p3)])
    refine own_go (fun t k => XS.iconst X18.here hx rfl (hb hby at_77) k) ?_
    show own_End _ _ _ _ _ _ _ T18 (mkF m 78 #[.val (.int p1), .val (.int p2), .val (.int p3), .val (.int p4), .val (.int v), .val (.ref a), .val (.ref b2), .unset, .unset] [(.int (3 : Int32)), (.int p3)])
    refine own_go (fun t k => XS.iand X18.here hx rfl (hb hby at_78) rfl k) ?_
    show own_End _ _ _ _ _ _ _ T18 (mkF m 79 #[.val (.int p1), .val (.int p2), .val (.int p3), .val (.int p4), .val (.int v), .val (.ref a), .val (.ref b2), .unset, .unset] [(.int (p3 &&& (3 : Int32)))])
    refine own_go (fun t k => XS.istore X18.here hx rfl (hb hby at_79) rfl (l' := #[.val (.int p1), .val (.int p2), .val (.int p3), .val (.int p4), .val (.int v), .val (.ref a), .val (.ref b2), .val (.int (p3 &&& (3 : Int32))), .unset]) rfl k) ?_
    show own_End _ _ _ _ _ _ _ T18 (mkF m 81 #[.val (.int p1), .val (.int p2), .val (.int p3), .val (.int p4), .val (.int v), .val (.ref a), .val (.ref b2), .val (.int (p3 &&& (3 : Int32))), .unset] [])
    refine own_go (fun t k => XS.iload X18.here hx rfl (hb hby at_81) rfl k) ?_
    show own_End _ _ _ _ _ _ _ T18 (mkF m 83 #[.val (.int p1), .val (.int p2), .val (.int p3), .val (.int p4), .val (.int v), .val (.ref a), .val (.ref b2), .val (.int (p3 &&& (3 : Int32))), .unset] [(.int (p3 &&& (3 : Int32)))])
    by_cases hc83j29 : (p3 &&& (3 : Int32)) = (0 : Int32)
    · refine own_go (fun t k => XS.ifNo X18.here hx rfl (hb hby at_83) rfl ((if0 _ _).trans (teq hc83j29).2) k) ?_
      show own_End _ _ _ _ _ _ _ T18 (mkF m 86 #[.val (.int p1), .val (.int p2), .val (.int p3), .val (.int p4), .val (.int v), .val (.ref a), .val (.ref b2), .val (.int (p3 &&& (3 : Int32))), .unset] [])
      refine own_go (fun t k => XS.iloadN X18.here hx rfl (hb hby at_86) rfl k) ?_
      show own_End _ _ _ _ _ _ _ T18 (mkF m 87 #[.val (.int p1), .val (.int p2), .val (.int p3), .val (.int p4), .val (.int v), .val (.ref a), .val (.ref b2), .val (.int (p3 &&& (3 : Int32))), .unset] [(.int p2)])
      refine own_go (fun t k => XS.istore X18.here hx rfl (hb hby at_87) rfl (l' := #[.val (.int p1), .val (.int p2), .val (.int p3), .val (.int p4), .val (.int v), .val (.ref a), .val (.ref b2), .val (.int (p3 &&& (3 : Int32))), .val (.int p2)]) rfl k) ?_
      show own_End _ _ _ _ _ _ _ T18 (mkF m 89 #[.val (.int p1), .val (.int p2), .val (.int p3), .val (.int p4), .val (.int v), .val (.ref a), .val (.ref b2), .val (.int (p3 &&& (3 : Int32))), .val (.int p2)] [])
      refine own_go (fun t k => XS.goto X18.here hx rfl (pc0 := 89) (pc' := 138) rfl (hb hby at_89) (by decide) (by decide) k) ?_
      exact j138 (p3 &&& (3 : Int32)) p2
    · refine own_go (fun t k => XS.ifYes X18.here hx rfl (pc0 := 83) (pc' := 92) rfl (hb hby at_83) rfl ((if0 _ _).trans (feq hc83j29).2) (by decide) (by decide) k) ?_
      show own_End _ _ _ _ _ _ _ T18 (mkF m 92 #[.val (.int p1), .val (.int p2), .val (.int p3), .val (.int p4), .val (.int v), .val (.ref a), .val (.ref b2), .val (.int (p3 &&& (3 : Int32))), .unset] [])
      refine own_go (fun t k => XS.iload X18.here hx rfl (hb hby at_92) rfl k) ?_
      show own_End _ _ _ _ _ _ _ T18 (mkF m 94 #[.val (.int p1), .val (.int p2), .val (.int p3), .val (.int p4), .val (.int v), .val (.ref a), .val (.ref b2), .val (.int (p3 &&& (3 : Int32))), .unset] [(.int (p3 &&& (3 : Int32)))])
      refine own_go (fun t k => XS.iconst X18.here hx rfl (hb hby at_94) k) ?_
      show own_End _ _ _ _ _ _ _ T18 (mkF m 95 #[.val (.int p1), .val (.int p2), .val (.int p3), .val (.int p4), .val (.int v), .val (.ref a), .val (.ref b2), .val (.int (p3 &&& (3 : Int32))), .unset] [(.int (1 : Int32)), (.int (p3 &&& (3 : Int32)))])
      by_cases hc95j29 : (p3 &&& (3 : Int32)) = (1 : Int32)
      · refine own_go (fun t k => XS.icmpNo X18.here hx rfl (hb hby at_95) rfl (teq hc95j29).2 k) ?_
        show own_End _ _ _ _ _ _ _ T18 (mkF m 98 #[.val (.int p1), .val (.int p2), .val (.int p3), .val (.int p4), .val (.int v), .val (.ref a), .val (.ref b2), .val (.int (p3 &&& (3 : Int32))), .unset] [])
        refine own_go (fun t k => XS.iloadN X18.here hx rfl (hb hby at_98) rfl k) ?_
        show own_End _ _ _ _ _ _ _ T18 (mkF m 99 #[.val (.int p1), .val (.int p2), .val (.int p3), .val (.int p4), .val (.int v), .val (.ref a), .val (.ref b2), .val (.int (p3 &&& (3 : Int32))), .unset] [(.int p2)])
        refine own_go (fun t k => XS.bipush X18.here hx rfl (hb hby at_99) k) ?_
        show own_End _ _ _ _ _ _ _ T18 (mkF m 101 #[.val (.int p1), .val (.int p2), .val (.int p3), .val (.int p4), .val (.int v), .val (.ref a), .val (.ref b2), .val (.int (p3 &&& (3 : Int32))), .unset] [(.int (31 : Int32)), (.int p2)])
        refine own_go (fun t k => XS.iand X18.here hx rfl (hb hby at_101) rfl k) ?_
        show own_End _ _ _ _ _ _ _ T18 (mkF m 102 #[.val (.int p1), .val (.int p2), .val (.int p3), .val (.int p4), .val (.int v), .val (.ref a), .val (.ref b2), .val (.int (p3 &&& (3 : Int32))), .unset] [(.int (p2 &&& (31 : Int32)))])
        refine own_go (fun t k => XS.istore X18.here hx rfl (hb hby at_102) rfl (l' := #[.val (.int p1), .val (.int p2), .val (.int p3), .val (.int p4), .val (.int v), .val (.ref a), .val (.ref b2), .val (.int (p3 &&& (3 : Int32))), .val (.int (p2 &&& (31 : Int32)))]) rfl k) ?_
        show own_End _ _ _ _ _ _ _ T18 (mkF m 104 #[.val (.int p1), .val (.int p2), .val (.int p3), .val (.int p4), .val (.int v), .val (.ref a), .val (.ref b2), .val (.int (p3 &&& (3 : Int32))), .val (.int (p2 &&& (31 : Int32)))] [])
        refine own_go (fun t k => XS.goto X18.here hx rfl (pc0 := 104) (pc' := 138) rfl (hb hby at_104) (by decide) (by decide) k) ?_
        exact j138 (p3 &&& (3 : Int32)) (p2 &&& (31 : Int32))
      · refine own_go (fun t k => XS.icmpYes X18.here hx rfl (pc0 := 95) (pc' := 107) rfl (hb hby at_95) rfl (feq hc95j29).2 (by decide) (by decide) k) ?_
        show own_End _ _ _ _ _ _ _ T18 (mkF m 107 #[.val (.int p1), .val (.int p2), .val (.int p3), .val (.int p4), .val (.int v), .val (.ref a), .val (.ref b2), .val (.int (p3 &&& (3 : Int32))), .unset] [])
        refine own_go (fun t k => XS.iload X18.here hx rfl (hb hby at_107) rfl k) ?_
        show own_End _ _ _ _ _ _ _ T18 (mkF m 109 #[.val (.int p1), .val (.int p2), .val (.int p3), .val (.int p4), .val (.int v), .val (.ref a), .val (.ref b2), .val (.int (p3 &&& (3 : Int32))), .unset] [(.int (p3 &&& (3 : Int32)))])
        refine own_go (fun t k => XS.iconst X18.here hx rfl (hb hby at_109) k) ?_
        show own_End _ _ _ _ _ _ _ T18 (mkF m 110 #[.val (.int p1), .val (.int p2), .val (.int p3), .val (.int p4), .val (.int v), .val (.ref a), .val (.ref b2), .val (.int (p3 &&& (3 : Int32))), .unset] [(.int (2 : Int32)), (.int (p3 &&& (3 : Int32)))])
        by_cases hc110j29 : (p3 &&& (3 : Int32)) = (2 : Int32)
        · refine own_go (fun t k => XS.icmpNo X18.here hx rfl (hb hby at_110) rfl (teq hc110j29).2 k) ?_
          show own_End _ _ _ _ _ _ _ T18 (mkF m 113 #[.val (.int p1), .val (.int p2), .val (.int p3), .val (.int p4), .val (.int v), .val (.ref a), .val (.ref b2), .val (.int (p3 &&& (3 : Int32))), .unset] [])
          refine own_go (fun t k => XS.iloadN X18.here hx rfl (hb hby at_113) rfl k) ?_
          show own_End _ _ _ _ _ _ _ T18 (mkF m 114 #[.val (.int p1), .val (.int p2), .val (.int p3), .val (.int p4), .val (.int v), .val (.ref a), .val (.ref b2), .val (.int (p3 &&& (3 : Int32))), .unset] [(.int p2)])
          refine own_go (fun t k => X18.ldcInt hx hown (mvT hZ (hw _ (List.mem_of_getElem? (i := 10) rfl))) (g := (mkF m 114 #[.val (.int p1), .val (.int p2), .val (.int p3), .val (.int p4), .val (.int v), .val (.ref a), .val (.ref b2), .val (.int (p3 &&& (3 : Int32))), .unset] [(.int p2)])) rfl (hb hby at_114) t k) ?_
          show own_End _ _ _ _ _ _ _ T18 (mkF m 116 #[.val (.int p1), .val (.int p2), .val (.int p3), .val (.int p4), .val (.int v), .val (.ref a), .val (.ref b2), .val (.int (p3 &&& (3 : Int32))), .unset] [(.int (2097151 : Int32)), (.int p2)])
          refine own_go (fun t k => XS.iand X18.here hx rfl (hb hby at_116) rfl k) ?_
          show own_End _ _ _ _ _ _ _ T18 (mkF m 117 #[.val (.int p1), .val (.int p2), .val (.int p3), .val (.int p4), .val (.int v), .val (.ref a), .val (.ref b2), .val (.int (p3 &&& (3 : Int32))), .unset] [(.int (p2 &&& (2097151 : Int32)))])
          refine own_go (fun t k => XS.istore X18.here hx rfl (hb hby at_117) rfl (l' := #[.val (.int p1), .val (.int p2), .val (.int p3), .val (.int p4), .val (.int v), .val (.ref a), .val (.ref b2), .val (.int (p3 &&& (3 : Int32))), .val (.int (p2 &&& (2097151 : Int32)))]) rfl k) ?_
          show own_End _ _ _ _ _ _ _ T18 (mkF m 119 #[.val (.int p1), .val (.int p2), .val (.int p3), .val (.int p4), .val (.int v), .val (.ref a), .val (.ref b2), .val (.int (p3 &&& (3 : Int32))), .val (.int (p2 &&& (2097151 : Int32)))] [])
          refine own_go (fun t k => XS.goto X18.here hx rfl (pc0 := 119) (pc' := 138) rfl (hb hby at_119) (by decide) (by decide) k) ?_
          exact j138 (p3 &&& (3 : Int32)) (p2 &&& (2097151 : Int32))
        · refine own_go (fun t k => XS.icmpYes X18.here hx rfl (pc0 := 110) (pc' := 122) rfl (hb hby at_110) rfl (feq hc110j29).2 (by decide) (by decide) k) ?_
          show own_End _ _ _ _ _ _ _ T18 (mkF m 122 #[.val (.int p1), .val (.int p2), .val (.int p3), .val (.int p4), .val (.int v), .val (.ref a), .val (.ref b2), .val (.int (p3 &&& (3 : Int32))), .unset] [])
          refine own_go (fun t k => XS.aload X18.here hx rfl (hb hby at_122) rfl rfl k) ?_
          show own_End _ _ _ _ _ _ _ T18 (mkF m 124 #[.val (.int p1), .val (.int p2), .val (.int p3), .val (.int p4), .val (.int v), .val (.ref a), .val (.ref b2), .val (.int (p3 &&& (3 : Int32))), .unset] [(.ref b2)])
          refine own_go (fun t k => XS.iloadN X18.here hx rfl (hb hby at_124) rfl k) ?_
          show own_End _ _ _ _ _ _ _ T18 (mkF m 125 #[.val (.int p1), .val (.int p2), .val (.int p3), .val (.int p4), .val (.int v), .val (.ref a), .val (.ref b2), .val (.int (p3 &&& (3 : Int32))), .unset] [(.int p4), (.ref b2)])
          refine own_go (fun t k => XS.bipush X18.here hx rfl (hb hby at_125) k) ?_
          show own_End _ _ _ _ _ _ _ T18 (mkF m 127 #[.val (.int p1), .val (.int p2), .val (.int p3), .val (.int p4), .val (.int v), .val (.ref a), .val (.ref b2), .val (.int (p3 &&& (3 : Int32))), .unset] [(.int (7 : Int32)), (.int p4), (.ref b2)])
          refine own_go (fun t k => XS.iand X18.here hx rfl (hb hby at_127) rfl k) ?_
          show own_End _ _ _ _ _ _ _ T18 (mkF m 128 #[.val (.int p1), .val (.int p2), .val (.int p3), .val (.int p4), .val (.int v), .val (.ref a), .val (.ref b2), .val (.int (p3 &&& (3 : Int32))), .unset] [(.int (p4 &&& (7 : Int32))), (.ref b2)])
          obtain ⟨cl22, Ar22, q22, S22, M22, H22, G22⟩ := V18
          have hin22 := inb_of (c := cl22) S22 (own_and7 p4)
          have hlt22 := Nat.lt_of_not_le fun q => hin22 (Or.inr q)
          obtain ⟨z22, hz22⟩ := fit_I (G22 _ hlt22) (by simp)
          have hat22 := (H22 _ hlt22).trans (congrArg some hz22)
          refine own_go (fun t k => X18.iaload hx (j := (p4 &&& (7 : Int32))) (v := (.int z22)) (by rw [e18]; exact Ar22.1) (State.isArrayOf_alike hZ.alike Ar22.2.1) Ar22.2.2 hin22 hat22 (g := (mkF m 128 #[.val (.int p1), .val (.int p2), .val (.int p3), .val (.int p4), .val (.int v), .val (.ref a), .val (.ref b2), .val (.int (p3 &&& (3 : Int32))), .unset] [(.int (p4 &&& (7 : Int32))), (.ref b2)])) rfl rfl (hb hby at_128) t k) ?_
          show own_End _ _ _ _ _ _ _ T18 (mkF m 129 #[.val (.int p1), .val (.int p2), .val (.int p3), .val (.int p4), .val (.int v), .val (.ref a), .val (.ref b2), .val (.int (p3 &&& (3 : Int32))), .unset] [(.int z22)])
          refine own_go (fun t k => XS.iloadN X18.here hx rfl (hb hby at_129) rfl k) ?_
          show own_End _ _ _ _ _ _ _ T18 (mkF m 130 #[.val (.int p1), .val (.int p2), .val (.int p3), .val (.int p4), .val (.int v), .val (.ref a), .val (.ref b2), .val (.int (p3 &&& (3 : Int32))), .unset] [(.int p2), (.int z22)])
          refine own_go (fun t k => XS.bipush X18.here hx rfl (hb hby at_130) k) ?_
          show own_End _ _ _ _ _ _ _ T18 (mkF m 132 #[.val (.int p1), .val (.int p2), .val (.int p3), .val (.int p4), .val (.int v), .val (.ref a), .val (.ref b2), .val (.int (p3 &&& (3 : Int32))), .unset] [(.int (7 : Int32)), (.int p2), (.int z22)])
          refine own_go (fun t k => XS.iand X18.here hx rfl (hb hby at_132) rfl k) ?_
          show own_End _ _ _ _ _ _ _ T18 (mkF m 133 #[.val (.int p1), .val (.int p2), .val (.int p3), .val (.int p4), .val (.int v), .val (.ref a), .val (.ref b2), .val (.int (p3 &&& (3 : Int32))), .unset] [(.int (p2 &&& (7 : Int32))), (.int z22)])
          refine own_go (fun t k => XS.iconst X18.here hx rfl (hb hby at_133) k) ?_
          show own_End _ _ _ _ _ _ _ T18 (mkF m 134 #[.val (.int p1), .val (.int p2), .val (.int p3), .val (.int p4), .val (.int v), .val (.ref a), .val (.ref b2), .val (.int (p3 &&& (3 : Int32))), .unset] [(.int (4 : Int32)), (.int (p2 &&& (7 : Int32))), (.int z22)])
          refine own_go (fun t k => XS.isub X18.here hx rfl (hb hby at_134) rfl k) ?_
          show own_End _ _ _ _ _ _ _ T18 (mkF m 135 #[.val (.int p1), .val (.int p2), .val (.int p3), .val (.int p4), .val (.int v), .val (.ref a), .val (.ref b2), .val (.int (p3 &&& (3 : Int32))), .unset] [(.int ((p2 &&& (7 : Int32)) - (4 : Int32))), (.int z22)])
          refine own_go (fun t k => XS.iadd X18.here hx rfl (hb hby at_135) rfl k) ?_
          show own_End _ _ _ _ _ _ _ T18 (mkF m 136 #[.val (.int p1), .val (.int p2), .val (.int p3), .val (.int p4), .val (.int v), .val (.ref a), .val (.ref b2), .val (.int (p3 &&& (3 : Int32))), .unset] [(.int (z22 + ((p2 &&& (7 : Int32)) - (4 : Int32))))])
          refine own_go (fun t k => XS.istore X18.here hx rfl (hb hby at_136) rfl (l' := #[.val (.int p1), .val (.int p2), .val (.int p3), .val (.int p4), .val (.int v), .val (.ref a), .val (.ref b2), .val (.int (p3 &&& (3 : Int32))), .val (.int (z22 + ((p2 &&& (7 : Int32)) - (4 : Int32))))]) rfl k) ?_
          exact j138 (p3 &&& (3 : Int32)) (z22 + ((p2 &&& (7 : Int32)) - (4 : Int32)))
  show own_End _ _ _ _ _ _ _ s₁ (mkF m 0 #[.val (.int p1), .val (.int p2), .val (.int p3), .val (.int p4), .unset, .unset, .unset, .unset, .unset] [])
  refine own_go (fun t k => XS.iloadN X0.here hx rfl (hb hby at_0) rfl k) ?_
  show own_End _ _ _ _ _ _ _ s₁ (mkF m 1 #[.val (.int p1), .val (.int p2), .val (.int p3), .val (.int p4), .unset, .unset, .unset, .unset, .unset] [(.int p1)])
  refine own_go (fun t k => XS.iconst X0.here hx rfl (hb hby at_1) k) ?_
  show own_End _ _ _ _ _ _ _ s₁ (mkF m 2 #[.val (.int p1), .val (.int p2), .val (.int p3), .val (.int p4), .unset, .unset, .unset, .unset, .unset] [(.int (1 : Int32)), (.int p1)])
  refine own_go (fun t k => XS.iand X0.here hx rfl (hb hby at_2) rfl k) ?_
  show own_End _ _ _ _ _ _ _ s₁ (mkF m 3 #[.val (.int p1), .val (.int p2), .val (.int p3), .val (.int p4), .unset, .unset, .unset, .unset, .unset] [(.int (p1 &&& (1 : Int32)))])
  by_cases hc3 : (p1 &&& (1 : Int32)) = (0 : Int32)
  · refine own_go (fun t k => XS.ifYes X0.here hx rfl (pc0 := 3) (pc' := 10) rfl (hb hby at_3) rfl ((if0 _ _).trans (teq hc3).1) (by decide) (by decide) k) ?_
    show own_End _ _ _ _ _ _ _ s₁ (mkF m 10 #[.val (.int p1), .val (.int p2), .val (.int p3), .val (.int p4), .unset, .unset, .unset, .unset, .unset] [])
    refine own_go (fun t k => XS.iconst X0.here hx rfl (hb hby at_10) k) ?_
    show own_End _ _ _ _ _ _ _ s₁ (mkF m 11 #[.val (.int p1), .val (.int p2), .val (.int p3), .val (.int p4), .unset, .unset, .unset, .unset, .unset] [(.int (0 : Int32))])
    refine own_go (fun t k => XS.istore X0.here hx rfl (hb hby at_11) rfl (l' := #[.val (.int p1), .val (.int p2), .val (.int p3), .val (.int p4), .val (.int (0 : Int32)), .unset, .unset, .unset, .unset]) rfl k) ?_
    show own_End _ _ _ _ _ _ _ s₁ (mkF m 13 #[.val (.int p1), .val (.int p2), .val (.int p3), .val (.int p4), .val (.int (0 : Int32)), .unset, .unset, .unset, .unset] [])
    refine own_go (fun t k => XS.iload X0.here hx rfl (hb hby at_13) rfl k) ?_
    show own_End _ _ _ _ _ _ _ s₁ (mkF m 15 #[.val (.int p1), .val (.int p2), .val (.int p3), .val (.int p4), .val (.int (0 : Int32)), .unset, .unset, .unset, .unset] [(.int (0 : Int32))])
    refine own_go (fun t k => XS.ifYes X0.here hx rfl (pc0 := 15) (pc' := 24) rfl (hb hby at_15) rfl ((if0 _ _).trans (teq (by decide : (0 : Int32) = (0 : Int32))).1) (by decide) (by decide) k) ?_
    show own_End _ _ _ _ _ _ _ s₁ (mkF m 24 #[.val (.int p1), .val (.int p2), .val (.int p3), .val (.int p4), .val (.int (0 : Int32)), .unset, .unset, .unset, .unset] [])
    obtain ⟨T23, X23, e23, st23⟩ := getS2 X0 hx hZ hown (host := "") (Or.inl (hw _ (List.mem_of_getElem? (i := 0) rfl))) Via.refl e0 SO (g := (mkF m 24 #[.val (.int p1), .val (.int p2), .val (.int p3), .val (.int p4), .val (.int (0 : Int32)), .unset, .unset, .unset, .unset] [])) rfl (hb hby at_24)
    refine own_go st23 ?_
    show own_End _ _ _ _ _ _ _ T23 (mkF m 27 #[.val (.int p1), .val (.int p2), .val (.int p3), .val (.int p4), .val (.int (0 : Int32)), .unset, .unset, .unset, .unset] [(.ref wO)])
    refine own_go (fun t k => XS.astore X23.here hx rfl (hb hby at_27) rfl rfl (l' := #[.val (.int p1), .val (.int p2), .val (.int p3), .val (.int p4), .val (.int (0 : Int32)), .val (.ref wO), .unset, .unset, .unset]) rfl k) ?_
    exact j29 _ X23 e23 (0 : Int32) wO (by first | exact Or.inl ⟨rfl, rfl⟩ | exact Or.inr ⟨rfl, nOI⟩) EO
  · refine own_go (fun t k => XS.ifNo X0.here hx rfl (hb hby at_3) rfl ((if0 _ _).trans (feq hc3).1) k) ?_
    show own_End _ _ _ _ _ _ _ s₁ (mkF m 6 #[.val (.int p1), .val (.int p2), .val (.int p3), .val (.int p4), .unset, .unset, .unset, .unset, .unset] [])
    refine own_go (fun t k => XS.iconst X0.here hx rfl (hb hby at_6) k) ?_
    show own_End _ _ _ _ _ _ _ s₁ (mkF m 7 #[.val (.int p1), .val (.int p2), .val (.int p3), .val (.int p4), .unset, .unset, .unset, .unset, .unset] [(.int (1 : Int32))])
    refine own_go (fun t k => XS.goto X0.here hx rfl (pc0 := 7) (pc' := 11) rfl (hb hby at_7) (by decide) (by decide) k) ?_
    show own_End _ _ _ _ _ _ _ s₁ (mkF m 11 #[.val (.int p1), .val (.int p2), .val (.int p3), .val (.int p4), .unset, .unset, .unset, .unset, .unset] [(.int (1 : Int32))])
    refine own_go (fun t k => XS.istore X0.here hx rfl (hb hby at_11) rfl (l' := #[.val (.int p1), .val (.int p2), .val (.int p3), .val (.int p4), .val (.int (1 : Int32)), .unset, .unset, .unset, .unset]) rfl k) ?_
    show own_End _ _ _ _ _ _ _ s₁ (mkF m 13 #[.val (.int p1), .val (.int p2), .val (.int p3), .val (.int p4), .val (.int (1 : Int32)), .unset, .unset, .unset, .unset] [])
    refine own_go (fun t k => XS.iload X0.here hx rfl (hb hby at_13) rfl k) ?_
    show own_End _ _ _ _ _ _ _ s₁ (mkF m 15 #[.val (.int p1), .val (.int p2), .val (.int p3), .val (.int p4), .val (.int (1 : Int32)), .unset, .unset, .unset, .unset] [(.int (1 : Int32))])
    refine own_go (fun t k => XS.ifNo X0.here hx rfl (hb hby at_15) rfl ((if0 _ _).trans (feq (by decide : ¬ ((1 : Int32) = (0 : Int32)))).1) k) ?_
    show own_End _ _ _ _ _ _ _ s₁ (mkF m 18 #[.val (.int p1), .val (.int p2), .val (.int p3), .val (.int p4), .val (.int (1 : Int32)), .unset, .unset, .unset, .unset] [])
    obtain ⟨T24, X24, e24, st24⟩ := getS2 X0 hx hZ hown (host := "") (Or.inl (hw _ (List.mem_of_getElem? (i := 24) rfl))) Via.refl e0 SI (g := (mkF m 18 #[.val (.int p1), .val (.int p2), .val (.int p3), .val (.int p4), .val (.int (1 : Int32)), .unset, .unset, .unset, .unset] [])) rfl (hb hby at_18)
    refine own_go st24 ?_
    show own_End _ _ _ _ _ _ _ T24 (mkF m 21 #[.val (.int p1), .val (.int p2), .val (.int p3), .val (.int p4), .val (.int (1 : Int32)), .unset, .unset, .unset, .unset] [(.ref wI)])
    refine own_go (fun t k => XS.goto X24.here hx rfl (pc0 := 21) (pc' := 27) rfl (hb hby at_21) (by decide) (by decide) k) ?_
    show own_End _ _ _ _ _ _ _ T24 (mkF m 27 #[.val (.int p1), .val (.int p2), .val (.int p3), .val (.int p4), .val (.int (1 : Int32)), .unset, .unset, .unset, .unset] [(.ref wI)])
    refine own_go (fun t k => XS.astore X24.here hx rfl (hb hby at_27) rfl rfl (l' := #[.val (.int p1), .val (.int p2), .val (.int p3), .val (.int p4), .val (.int (1 : Int32)), .val (.ref wI), .unset, .unset, .unset]) rfl k) ?_
    exact j29 _ X24 e24 (1 : Int32) wI (by first | exact Or.inl ⟨rfl, rfl⟩ | exact Or.inr ⟨rfl, nOI⟩) EI
set_option maxRecDepth 65536 in
set_option maxHeartbeats 40000000 in
theorem comes_1 {Post : Tables → Env → Array Value → State → Outcome → State → Prop} (hpost : ∀ tb e args s v u, (limb_1_1.after args s (.returned v) u = true ∧ limb_1_2.after args s (.returned v) u = true ∧ True) → FrameEnd s (.returned v) u (Jvm.fieldLocs frame_1_writes args s ++ Jvm.arrayLocs frame_1_arrays args s ++ Jvm.staticLocs frame_1_statics s) 16 128 → Post tb e args s (.returned v) u) :
    ArmFor flags0 classFile x code maxLocals ret World_1 tables_1 room_1 Calls_1 rest_1 Pre_1 Post := by
  intro l hfl _ _ p e ha hc hk s m args below hf hA hF happ hP
  obtain ⟨hcalls, hrest, hpre⟩ := hP
  obtain ⟨-, -, -, hnamed, -, -, -, hat⟩ := (Spec.applies_iff hf).mp happ
  obtain ⟨hg, hn⟩ := and_e (Cond.before_iff.mp (show (Jvm.Cond.and given_1 narrow_1).before args s = true from hpre))
  obtain ⟨gc, gr0⟩ := and_e hg
  obtain ⟨gi0, gr1⟩ := and_e gr0
  obtain ⟨gi1, gr2⟩ := and_e gr1
  obtain ⟨gi2, gr3⟩ := and_e gr2
  obtain ⟨w0, w1, w2, w3, rfl⟩ : ∃ w0 w1 w2 w3 : Value, args = #[w0, w1, w2, w3] := by
    have hs : args.size = 4 := by simpa [Cond.value, given_1] using gc
    obtain ⟨L⟩ := args
    match L, hs with
    | [w0, w1, w2, w3], _ => exact ⟨w0, w1, w2, w3, rfl⟩
  have hw := fun d (hd : d ∈ tables_1) => atoms_spec (ws := Jvm.Cond.code x code maxLocals ret :: tables_1) hat d (List.mem_cons_of_mem _ hd)
  have hfit : Fit s := fun {y c} hc i hi => by
    obtain ⟨ha, rfl⟩ := Array.getElem?_eq_some_iff.mp hc
    have q := List.all_eq_true.mp ((Array.all_eq_true_iff_forall_mem.mp hF) _ (Array.getElem_mem ha)) i (List.mem_range.mpr hi)
    simpa [Array.getElem?_eq_getElem hi] using q
  obtain ⟨i0, ei0⟩ := is_v gi0
  obtain rfl : w0 = (.int i0) := Option.some.inj ei0
  obtain ⟨i1, ei1⟩ := is_v gi1
  obtain rfl : w1 = (.int i1) := Option.some.inj ei1
  obtain ⟨i2, ei2⟩ := is_v gi2
  obtain rfl : w2 = (.int i2) := Option.some.inj ei2
  obtain ⟨i3, ei3⟩ := is_v gr3
  obtain rfl : w3 = (.int i3) := Option.some.inj ei3
  obtain ⟨x1, hn⟩ := and_e hn
  obtain ⟨x2, hn⟩ := and_e hn
  obtain ⟨o1, o2⟩ := and_e hn
  obtain ⟨wO, vO⟩ := exa_v x1
  have EO := Exa.start vO x1
  have FO := own_ord vO o1
  have SO := Sta.start vO (Or.inr ⟨(hw _ (List.mem_of_getElem? (i := 1) rfl)), (hw _ (List.mem_of_getElem? (i := 2) rfl))⟩)
  obtain ⟨wI, vI⟩ := exa_v x2
  have EI := Exa.start vI x2
  have FI := own_ord vI o2
  have SI := Sta.start vI (Or.inr ⟨(hw _ (List.mem_of_getElem? (i := 1) rfl)), (hw _ (List.mem_of_getElem? (i := 17) rfl))⟩)
  obtain ⟨n, o, h1, h2, h3, _, L, rfl, ⟨rfl, N⟩, hq⟩ := rm0 l s _ hw tables_1 i0 i1 i2 i3 wO wI s.heap s.heap.size (Nat.le_refl _) SO SI EO EI (FO.ne FI (by decide)) p e ha hc hk s m _ below hf ((Spec.applies_iff_loose hf).mp happ).1 ⟨rfl, State.Warmed39.refl s, rfl⟩ trivial
  refine ⟨n, _, h1, h2, h3, hpost _ _ _ _ _ _ ⟨Cond.after_iff.mpr rfl, Cond.after_iff.mpr (eq_i res_at (Term.int_eval (1)) rfl), trivial⟩ ⟨hq.1, hq.2.1, (hq.2.2.sift fun y hy => Or.inr (N y hy)).mono (by decide) (by decide)⟩⟩
theorem main_1_1 : Claimed_1_1 := comes_1 fun _ _ _ _ _ _ h hF => ⟨h.1, hF⟩
theorem main_1_2 : Claimed_1_2 := comes_1 fun _ _ _ _ _ _ h hF => ⟨h.2.1, hF⟩
end Jvm.Pilot.@@N@@
namespace Jvm.Pilot.@@N@@
open Jvm Jvm.ClassFile Sem Op Lib Jvm.Free Jvm.Stand Jvm.Pilot.@@N@@.Jvm.D
/-! MADE BY PROGRAM (witnessworld.py) out of the Statement's table words and the real class files: 12 classes; the members and pool entries that the words name. The judged class is class 1, her method 2. -/
namespace start1
open Jvm.ClassFile
def u (s : String) : CpInfo := .utf8 (stringToUtf16 s)
/-- a pool by its gaps: so many unusable entries, then the entry; so many at the end -/
def gap : Nat → List CpInfo → List CpInfo
  | 0, r => r
  | n + 1, r => .unusable :: gap n r
def poolList (es : List (Nat × CpInfo)) (last : Nat) : List CpInfo := es.foldr (fun e r => gap e.1 (e.2 :: r)) (gap last [])
def pool (es : List (Nat × CpInfo)) (last : Nat) : Array CpInfo := ⟨poolList es last⟩
def fileOf (pool : Array CpInfo) (this : Nat) (attrs : Array Attribute := #[]) (ms : Array MethodInfo := #[]) (fl : Nat := 33) (sup : Nat := 0) (ifs : Array Nat := #[]) (fds : Array FieldInfo := #[]) : ClassFile where
  minorVersion := 0
  majorVersion := 65
  constantPool := pool
  accessFlags := fl
  thisClass := this
  superClass := sup
  interfaces := ifs
  fields := fds
  methods := ms
  attributes := attrs
def plain (name : String) (sup : Option ClassId) : Class where
  name := name
  kind := .ordinary
  loader := none
  accessFlags := 33
  super := sup
  interfaces := #[]
  cf := none
  fields := #[]
  methods := #[]
  instanceTypes := #[]
  staticTypes := #[]
  resolved := #[]
  callSites := []
  init := .initialized
  statics := none
  mirror := none

def pool0 : Array CpInfo := pool [(5, u "<init>"), (0, u "()V"), (1, .class_ 10), (1, u "java/lang/Object")] 113

def k0m0 : Method := { name := "<init>", desc := "()V", sig := { parameters := [], returnType := none }, accessFlags := 1, code := none }
/-- java/lang/Object -/
def k0 : Class := { plain "java/lang/Object" none with
  accessFlags := 33
  interfaces := #[]
  cf := some (fileOf pool0 8 #[] #[{ accessFlags := 1, nameIndex := 5, descriptorIndex := 6, attributes := #[] }] 33 0 #[] #[])
  fields := #[]
  methods := #[k0m0]
  instanceTypes := #[]
  staticTypes := #[]
  resolved := Array.replicate 124 none
  statics := none }

def pool1 : Array CpInfo := pool [(2, .class_ 4), (1, u "java/lang/Object"), (0, u "<init>"), (0, u "()V"), (0, .integer 1114111), (0, .integer 55296), (0, .integer 57343), (0, .integer 65534), (0, .integer 65535), (0, .fieldref 13 14), (0, .class_ 15), (0, .nameAndType 16 17), (0, u "com/example/vonare/vonare/tokenizer/XmlVersion"), (0, u "XML_1_1"), (0, u "Lcom/example/vonare/vonare/tokenizer/XmlVersion;"), (0, .fieldref 13 19), (0, .nameAndType 20 17), (0, u "XML_1_0"), (0, .integer 57344), (0, .integer 65536), (0, .integer 1114112), (2, .integer 2147483648), (0, .integer 2097151), (0, .methodref 13 29), (0, .nameAndType 30 31), (0, u "isChar"), (0, u "(I)Z"), (0, .methodref 33 34), (0, .class_ 35), (0, .nameAndType 36 37), (0, u "com/example/vonare/vonare/tokenizer/XmlVersionIsCharPinLaw"), (0, u "expected"), (0, u "(ZI)Z"), (3, u "law"), (0, u "(IIII)Z")] 4

def k1m0 : Method := { name := "<init>", desc := "()V", sig := { parameters := [], returnType := none }, accessFlags := 2, code := none }
def k1c1 : Code := { maxStack := 2, maxLocals := 2, code := method_2_code, exceptionTable := #[], attributes := #[] }
def k1m1 : Method := { name := "expected", desc := "(ZI)Z", sig := { parameters := [.boolean, .int], returnType := some .boolean }, accessFlags := 10, code := some k1c1 }
def k1c2 : Code := { maxStack := 4, maxLocals := 9, code := code, exceptionTable := #[], attributes := #[] }
def k1m2 : Method := { name := "law", desc := "(IIII)Z", sig := { parameters := [.int, .int, .int, .int], returnType := some .boolean }, accessFlags := 9, code := some k1c2 }
/-- com/example/vonare/vonare/tokenizer/XmlVersionIsCharPinLaw -/
def k1 : Class := { plain "com/example/vonare/vonare/tokenizer/XmlVersionIsCharPinLaw" (some 0) with
  accessFlags := 49
  interfaces := #[]
  cf := some (fileOf pool1 33 #[] #[{ accessFlags := 2, nameIndex := 5, descriptorIndex := 6, attributes := #[] }, { accessFlags := 10, nameIndex := 36, descriptorIndex := 37, attributes := #[] }, { accessFlags := 9, nameIndex := 41, descriptorIndex := 42, attributes := #[] }] 49 2 #[] #[])
  fields := #[]
  methods := #[k1m0, k1m1, k1m2]
  instanceTypes := #[]
  staticTypes := #[]
  resolved := Array.replicate 47 none
  statics := none }

def pool2 : Array CpInfo := pool [(1, .class_ 2), (0, u "java/lang/constant/Constable"), (0, .class_ 4), (0, u "java/lang/Object")] 6

/-- java/lang/constant/Constable -/
def k2 : Class := { plain "java/lang/constant/Constable" (some 0) with
  accessFlags := 1537
  interfaces := #[]
  cf := some (fileOf pool2 1 #[] #[] 1537 3 #[] #[])
  fields := #[]
  methods := #[]
  instanceTypes := #[]
  staticTypes := #[]
  resolved := Array.replicate 11 none
  statics := none }

def pool3 : Array CpInfo := pool [(1, .class_ 2), (0, u "java/lang/Comparable"), (0, .class_ 4), (0, u "java/lang/Object")] 7

/-- java/lang/Comparable -/
def k3 : Class := { plain "java/lang/Comparable" (some 0) with
  accessFlags := 1537
  interfaces := #[]
  cf := some (fileOf pool3 1 #[] #[] 1537 3 #[] #[])
  fields := #[]
  methods := #[]
  instanceTypes := #[]
  staticTypes := #[]
  resolved := Array.replicate 12 none
  statics := none }

def pool4 : Array CpInfo := pool [(1, .class_ 2), (0, u "java/io/Serializable"), (0, .class_ 4), (0, u "java/lang/Object")] 2

/-- java/io/Serializable -/
def k4 : Class := { plain "java/io/Serializable" (some 0) with
  accessFlags := 1537
  interfaces := #[]
  cf := some (fileOf pool4 1 #[] #[] 1537 3 #[] #[])
  fields := #[]
  methods := #[]
  instanceTypes := #[]
  staticTypes := #[]
  resolved := Array.replicate 7 none
  statics := none }

def pool5 : Array CpInfo := pool [(2, .class_ 4), (1, u "java/lang/Enum"), (0, u "name"), (0, u "Ljava/lang/String;"), (2, u "ordinal"), (0, u "I"), (1, .class_ 14), (1, u "java/lang/Object"), (4, u "hash"), (86, .class_ 108), (1, u "java/lang/Enum$EnumDesc"), (2, .class_ 112), (0, u "java/lang/constant/Constable"), (0, .class_ 114), (0, u "java/lang/Comparable"), (0, .class_ 116), (0, u "java/io/Serializable")] 87

/-- java/lang/Enum -/
def k5 : Class := { plain "java/lang/Enum" (some 0) with
  accessFlags := 1057
  interfaces := #[2, 3, 4]
  cf := some (fileOf pool5 2 #[.nestMembers #[106]] #[] 1057 12 #[111, 113, 115] #[{ accessFlags := 18, nameIndex := 5, descriptorIndex := 6, attributes := #[] }, { accessFlags := 18, nameIndex := 9, descriptorIndex := 10, attributes := #[] }, { accessFlags := 2, nameIndex := 19, descriptorIndex := 10, attributes := #[] }])
  fields := #[{ name := "name", type := (.object "java/lang/String"), accessFlags := 18, slot := 0, constantValue := 0 }, { name := "ordinal", type := .int, accessFlags := 18, slot := 1, constantValue := 0 }, { name := "hash", type := .int, accessFlags := 2, slot := 2, constantValue := 0 }]
  methods := #[]
  instanceTypes := #[(.object "java/lang/String"), .int, .int]
  staticTypes := #[]
  resolved := Array.replicate 204 none
  statics := none }

def pool6 : Array CpInfo := pool [(1, .class_ 2), (0, u "com/example/vonare/vonare/tokenizer/XmlVersion"), (2, u "XML_1_0"), (0, u "Lcom/example/vonare/vonare/tokenizer/XmlVersion;"), (0, .fieldref 1 8), (0, .nameAndType 9 6), (0, u "XML_1_1"), (2, u "$VALUES"), (0, u "[Lcom/example/vonare/vonare/tokenizer/XmlVersion;"), (6, .class_ 22), (1, u "java/lang/Enum"), (8, u "number"), (0, u "Ljava/lang/String;"), (10, .integer 55295), (0, .integer 57344), (0, .integer 65533), (0, .integer 65536), (2, .integer 1114111), (2, u "isChar"), (0, u "(I)Z")] 83

def k6c0 : Code := { maxStack := 2, maxLocals := 2, code := prog_99_method_7_code, exceptionTable := #[], attributes := #[] }
def k6m0 : Method := { name := "isChar", desc := "(I)Z", sig := { parameters := [.int], returnType := some .boolean }, accessFlags := 1, code := some k6c0 }
/-- com/example/vonare/vonare/tokenizer/XmlVersion -/
def k6 : Class := { plain "com/example/vonare/vonare/tokenizer/XmlVersion" (some 5) with
  accessFlags := 16433
  interfaces := #[]
  cf := some (fileOf pool6 1 #[] #[{ accessFlags := 1, nameIndex := 52, descriptorIndex := 53, attributes := #[] }] 16433 20 #[] #[{ accessFlags := 16409, nameIndex := 5, descriptorIndex := 6, attributes := #[] }, { accessFlags := 16409, nameIndex := 9, descriptorIndex := 6, attributes := #[] }, { accessFlags := 18, nameIndex := 31, descriptorIndex := 32, attributes := #[] }, { accessFlags := 4122, nameIndex := 12, descriptorIndex := 13, attributes := #[] }])
  fields := #[{ name := "XML_1_0", type := (.object "com/example/vonare/vonare/tokenizer/XmlVersion"), accessFlags := 16409, slot := 0, constantValue := 0 }, { name := "XML_1_1", type := (.object "com/example/vonare/vonare/tokenizer/XmlVersion"), accessFlags := 16409, slot := 1, constantValue := 0 }, { name := "number", type := (.object "java/lang/String"), accessFlags := 18, slot := 3, constantValue := 0 }, { name := "$VALUES", type := (.array (.object "com/example/vonare/vonare/tokenizer/XmlVersion")), accessFlags := 4122, slot := 2, constantValue := 0 }]
  methods := #[k6m0]
  instanceTypes := #[(.object "java/lang/String"), .int, .int, (.object "java/lang/String")]
  staticTypes := #[(.object "com/example/vonare/vonare/tokenizer/XmlVersion"), (.object "com/example/vonare/vonare/tokenizer/XmlVersion"), (.array (.object "com/example/vonare/vonare/tokenizer/XmlVersion"))]
  resolved := Array.replicate 137 none
  statics := some 0 }

def pool7 : Array CpInfo := pool [(1, u "java/lang/Cloneable"), (0, .class_ 1), (0, u "java/lang/Object"), (0, .class_ 3)] 3

/-- java/lang/Cloneable -/
def k7 : Class := { plain "java/lang/Cloneable" (some 0) with
  accessFlags := 1537
  interfaces := #[]
  cf := some (fileOf pool7 2 #[] #[] 1537 4 #[] #[])
  fields := #[]
  methods := #[]
  instanceTypes := #[]
  staticTypes := #[]
  resolved := Array.replicate 8 none
  statics := none }

/-- the primitive byte -/
def k8 : Class := { plain "byte" none with kind := .primitive 'B', accessFlags := 0x411 }
/-- [B -/
def k9 : Class := { plain "[B" (some 0) with kind := .array 8 .byte, interfaces := #[7, 4], accessFlags := 1041 }

/-- the primitive int -/
def k10 : Class := { plain "int" none with kind := .primitive 'I', accessFlags := 0x411 }
/-- [I -/
def k11 : Class := { plain "[I" (some 0) with kind := .array 10 .int, interfaces := #[7, 4], accessFlags := 1041 }

def heap : Heap := #[{ cls := 6, slots := #[.ref 1, .ref 2, .null], vm := .statics 6 },
  { cls := 6, slots := #[.null, .int 0, .int 0, .null], vm := .none },
  { cls := 6, slots := #[.null, .int 1, .int 0, .null], vm := .none }]
def classes : Array Class := #[k0, k1, k2, k3, k4, k5, k6, k7, k8, k9, k10, k11]
def interned : List (Array UInt16 × Addr) := []
def slotsUsed : Nat := 11
def theMethod : MethodId := ⟨1, 2⟩
def args0 : Array Value := #[.int 5, .int 7, .int 3, .int 2]
def aboutOver (below : List Frame) : State where
  vm := { classes := classes, interned := interned.toArray }
  heap := heap
  slotsUsed := slotsUsed
  threads := #[{ frames := .invoking theMethod args0 :: below }]
def below0 : List Frame := [.native { method := ⟨0, 0⟩, args := #[] }]
def about1 : State := aboutOver below0
def p0 : Program := .bare "" "" ""
def e0 : Env := launch0.env 0 0 0
theorem w_frames : about1.frames = Frame.invoking theMethod args0 :: below0 := rfl
set_option maxRecDepth 65536 in
theorem w_args : argsFit about1.vm theMethod args0 = true := by decide +kernel
set_option maxRecDepth 65536 in
theorem w_heap : heapFits about1 = true := by decide +kernel
set_option maxRecDepth 65536 in
theorem w_runnable : about1.curStatus? = some .runnable := by decide +kernel
set_option maxRecDepth 65536 in
theorem w_alone : about1.alone = true := by decide +kernel
set_option maxRecDepth 65536 in
theorem w_named : about1.methodNamed? x = some theMethod := by decide +kernel
set_option maxRecDepth 65536 in
theorem w_hears : about1.hears theMethod below0 = true := by decide +kernel
set_option maxRecDepth 65536 in
theorem w_ripe : about1.ripe theMethod args0 below0 = true := by decide +kernel
theorem w_running : about1.status = .running := rfl
set_option maxRecDepth 65536 in
theorem w_room : about1.hasRoom e0.platform room_1 = true :=
  launch0.hasRoom_least _ room_1 (by decide +kernel) (by decide +kernel) (by decide +kernel) (by decide +kernel) (by decide +kernel) (by decide +kernel)
theorem allAtoms_all (ts : List Jvm.Cond) (a : Array Jvm.Value) (st : Jvm.State) : (allAtoms ts).before a st = ts.all (fun c => c.before a st) := by
  induction ts with
  | nil => rfl
  | cons c t ih =>
    show (Jvm.Cond.and c (allAtoms t)).before a st = _
    rw [Jvm.Cond.before_and, ih, List.all_cons]
def words1 : List Jvm.Cond := Jvm.Cond.code x code maxLocals ret :: tables_1
/-- a 'code' word, met by the world's own term for the bytes: nothing is compared byte by byte -/
theorem code_word {y : MethodName} {bytes : ByteArray} {mx : Nat} {rt : Option FieldType} {a : Array Value} {s : State} {m : MethodId} {meth : Method} {c : Code} (h1 : s.methodNamed? y = some m) (h2 : s.vm.method? m = some meth) (h3 : meth.code = some c) (h4 : c.code = bytes)
    (h5 : (c.maxLocals == mx && c.exceptionTable.isEmpty && decide (c.maxStack ≤ mostOperands) && decide (meth.sig.returnType = rt) && !meth.locks && decide (parseMethodDescriptor y.desc = some meth.sig)) = true) : (Jvm.Cond.code y bytes mx rt).before a s = true := by
  simp only [Bool.and_eq_true, beq_iff_eq, Bool.not_eq_true', decide_eq_true_eq] at h5
  obtain ⟨⟨⟨⟨⟨g1, g2⟩, g3⟩, g4⟩, g5⟩, g6⟩ := h5
  simp [Cond.before, Cond.holds, Cond.value, h1, h2, h3, h4, g1, g2, g3, g4, g5, g6]
def isCode : Jvm.Cond → Bool
  | .code _ _ _ _ => true
  | _ => false
theorem all_split {L : List Jvm.Cond} {P : Jvm.Cond → Bool} (h1 : L.all (fun c => isCode c || P c) = true) (h2 : ∀ c ∈ L.filter isCode, P c = true) : L.all P = true := by
  refine List.all_eq_true.mpr fun c hc => ?_
  have h := List.all_eq_true.mp h1 c hc
  rcases Bool.eq_false_or_eq_true (isCode c) with hi | hi
  · exact h2 c (List.mem_filter.mpr ⟨hc, hi⟩)
  · simpa [hi] using h
set_option maxRecDepth 65536 in
theorem w_c0 : (Jvm.Cond.code x code maxLocals ret).before args0 about1 = true := code_word (m := ⟨1, 2⟩) (meth := k1m2) (c := k1c2) (by decide +kernel) rfl rfl rfl (by decide +kernel)
set_option maxRecDepth 65536 in
theorem w_c1 : (Jvm.Cond.code ({ cls := "com/example/vonare/vonare/tokenizer/XmlVersion", name := "isChar", desc := "(I)Z" } : Jvm.MethodName) prog_99_method_7_code (2 : Nat) (Option.some Jvm.ClassFile.FieldType.boolean)).before args0 about1 = true := code_word (m := ⟨6, 0⟩) (meth := k6m0) (c := k6c0) (by decide +kernel) rfl rfl rfl (by decide +kernel)
set_option maxRecDepth 65536 in
theorem w_c2 : (Jvm.Cond.code ({ cls := "com/example/vonare/vonare/tokenizer/XmlVersionIsCharPinLaw", name := "expected", desc := "(ZI)Z" } : Jvm.MethodName) method_2_code (2 : Nat) (Option.some Jvm.ClassFile.FieldType.boolean)).before args0 about1 = true := code_word (m := ⟨1, 1⟩) (meth := k1m1) (c := k1c1) (by decide +kernel) rfl rfl rfl (by decide +kernel)
def codes1 : List Jvm.Cond := [Jvm.Cond.code x code maxLocals ret, Jvm.Cond.code ({ cls := "com/example/vonare/vonare/tokenizer/XmlVersion", name := "isChar", desc := "(I)Z" } : Jvm.MethodName) prog_99_method_7_code (2 : Nat) (Option.some Jvm.ClassFile.FieldType.boolean), Jvm.Cond.code ({ cls := "com/example/vonare/vonare/tokenizer/XmlVersionIsCharPinLaw", name := "expected", desc := "(ZI)Z" } : Jvm.MethodName) method_2_code (2 : Nat) (Option.some Jvm.ClassFile.FieldType.boolean)]
set_option maxRecDepth 65536 in
theorem codes_eq : words1.filter isCode = codes1 := rfl
theorem w_codes : ∀ c ∈ words1.filter isCode, c.before args0 about1 = true := by
  rw [codes_eq]
  intro c hc
  simp only [codes1, List.mem_cons, List.not_mem_nil, or_false] at hc
  rcases hc with rfl | rfl | rfl
  · exact w_c0
  · exact w_c1
  · exact w_c2
set_option maxRecDepth 65536 in
theorem w_t1 : (words1.take 24).all (fun c => isCode c || c.before args0 about1) = true := by decide +kernel
set_option maxRecDepth 65536 in
theorem w_t2 : (words1.drop 24).all (fun c => isCode c || c.before args0 about1) = true := by decide +kernel
theorem w_tables : (allAtoms (Jvm.Cond.code x code maxLocals ret :: tables_1)).before args0 about1 = true := by
  rw [allAtoms_all]
  show words1.all (fun c => c.before args0 about1) = true
  refine all_split ?_ w_codes
  rw [← List.take_append_drop 24 words1, List.all_append, w_t1, w_t2]
  rfl
set_option maxRecDepth 65536 in
theorem w_case : (Jvm.Cond.and given_1 narrow_1).before args0 about1 = true := by decide +kernel
theorem w_applies : (headSpec (Jvm.Cond.code x code maxLocals ret :: tables_1) room_1).applies x e0.platform about1 = true :=
  (Spec.applies_iff w_frames).mpr ⟨w_running, w_runnable, w_alone, w_named, w_hears, w_ripe, w_room, w_tables⟩
theorem atStart : AtStart classFile x code maxLocals ret World_1 tables_1 room_1 Calls_1 rest_1 Pre_1 launch0 p0 e0 about1 theMethod args0 below0 :=
  ⟨lists_1, trivial, launch0.admits_env _ _ _, launch0.least_env, fairChoices_fair.cas, fairChoices_fair.clock, w_frames, w_args, w_heap, w_applies, trivial, trivial, w_case⟩
end start1
theorem witness_1 : WitnessClaimed_1 := ⟨start1.p0, start1.e0, start1.about1, start1.theMethod, start1.args0, start1.below0, start1.atStart⟩
end Jvm.Pilot.@@N@@
