import JvmDerived
import JvmDerived.Pilot.@@N@@Statement
import JvmDerived.Pilot.@@N@@Code
set_option linter.unusedVariables false
set_option linter.unusedSimpArgs false
namespace Jvm.RoadKit
open Sem ClassFile Op Lib Jvm.Stand Jvm.Free Jvm.LawKit
section Own
variable {p : Program} {l : Launch} {e : Env} {R : Room} {s : State} {m : MethodId} {args : Array Value} {below : List Frame} {meth : Method} {c : Code} {T : State} {locs : List Loc} {cells slots : Nat} {Z : State} {a0 : Array Value} {h : Heap}
/-- from T with the frame g the run comes to its end, and the end is as K says -/
def own_End (p : Program) (e : Env) (below : List Frame) (s : State) (K : Option Value → Heap → List Loc → Prop) (kc ks : Nat) (T : State) (g : JFrame) : Prop :=
  ∃ s₂ o, Steps p.tables e below (T.setTop g) s₂ ∧ s₂.status = .running ∧ Ended s₂ below o ∧ ∃ v L, o = .returned v ∧ K v s₂.heap L ∧ FrameEnd s o s₂ L kc ks
/-- what a body returns that leaves the heap as it was -/
def own_pure (r : Value) (h0 : Heap) (n0 : Nat) (v : Option Value) (h : Heap) (L : List Loc) : Prop := v = some r ∧ Fr n0 L ∧ h = h0
theorem own_go {K : Option Value → Heap → List Loc → Prop} {kc ks : Nat} {T' : State} {g g' : JFrame} (st : ∀ t, Steps p.tables e below (T'.setTop g') t → Steps p.tables e below (T.setTop g) t) (k : own_End p e below s K kc ks T' g') : own_End p e below s K kc ks T g := by
  obtain ⟨s₂, o, h1, r⟩ := k
  exact ⟨s₂, o, st _ h1, r⟩
theorem own_retW (X : Stand p l e R s m args below meth c T locs cells slots) (hx : p.tables.exec = Jvm.exec) {pc : Nat} {Ls : Array Slot} {w : Value} {t : FieldType} {i : Instr} {rest : List Value} (hret : meth.sig.returnType = some t) (hlk : meth.locks = false) (hn : narrow t w = w)
    (hi : (i = .ireturn ∧ (t = .int ∨ t = .boolean ∨ t = .byte ∨ t = .char ∨ t = .short) ∧ ∃ z, w = .int z) ∨ (i = .lreturn ∧ t = .long ∧ ∃ z, w = .long z) ∨ (i = .dreturn ∧ t = .double ∧ ∃ z, w = .double z) ∨ (i = .freturn ∧ t = .float ∧ ∃ z, w = .float z) ∨ (i = .areturn ∧ t.isReference = true ∧ w.isRef = true))
    (hd : decode c.code pc = .ok (i, 1)) {K : Option Value → Heap → List Loc → Prop} {kc ks : Nat} (hK : K (some w) T.heap locs) (h1 : cells ≤ kc) (h2 : slots ≤ ks) : own_End p e below s K kc ks T (mkF m pc Ls (w :: rest)) := by
  obtain ⟨fs, hr, hrun, hended, hW, hsame⟩ := X.leave (v := some w) (fun q => by rw [hret] at q; cases q) hlk
  exact ⟨_, _, retOut X hx hret hn hi hd hr, hrun, hended, _, _, rfl, hK, ⟨_, rfl⟩, hW, hsame.mono h1 h2⟩
theorem own_retV (X : Stand p l e R s m args below meth c T locs cells slots) (hx : p.tables.exec = Jvm.exec) {pc : Nat} {Ls : Array Slot} (hret : meth.sig.returnType = none) (hlk : meth.locks = false)
    (hd : decode c.code pc = .ok (.return_, 1)) {K : Option Value → Heap → List Loc → Prop} {kc ks : Nat} (hK : K none T.heap locs) (h1 : cells ≤ kc) (h2 : slots ≤ ks) : own_End p e below s K kc ks T (mkF m pc Ls []) := by
  obtain ⟨fs, hr, hrun, hended, hW, hsame⟩ := X.leave (v := none) (fun _ => rfl) hlk
  exact ⟨_, _, X.returnOut hx hret hd hr, hrun, hended, _, _, rfl, hK, ⟨_, rfl⟩, hW, hsame.mono h1 h2⟩
theorem own_callS (X : Stand p l e R s m args below meth c T locs cells slots) (hx : p.tables.exec = Jvm.exec) (hZ : Z.Warmed39 s.vm) {own : String} {index : Nat} {y : MethodName} {bytes : ByteArray} {maxL : Nat} {ret : Option FieldType} {rm : Room} {W : Nat} {as' : Array Value} {Q : Option Value → Heap → List Loc → Prop}
    (hown : s.vm.findClass own = some m.cls) (w1 : (Cond.methodLink own index y).before a0 Z = true) (w2 : (Cond.static y).before a0 Z = true) (w4 : (Cond.code y bytes maxL ret).before a0 Z = true) (hy : y.cls ≠ "java/lang/invoke/MethodHandle" ∧ y.cls ≠ "java/lang/invoke/VarHandle") (w3 : (Cond.initialized y.cls).before a0 Z = true)
    (hM : MetFree l y (head1 [Cond.code y bytes maxL ret] rm) (fun a U => a = as' ∧ Z.Warmed39 U.vm ∧ U.heap = h) (fun _ _ _ _ _ => True) (fun _ U o U' => ∃ v L, o = .returned v ∧ Q v U'.heap L ∧ FrameEnd U o U' L rm.cells rm.slots))
    (eT : T.heap = h) (hf : rm.frames + 1 ≤ R.frames) (hl : W + (maxL + 11) + rm.locals ≤ R.locals) {g : JFrame} (hg : g.method = m) (hsize : g.locals.size = c.maxLocals) {argsL rest : List Value} (has : argsL.toArray = as')
    (hlen : ∀ sig, parseMethodDescriptor y.desc = some sig → argsL.length = sig.parameters.length) (hstack : g.stack = argsL.reverse ++ rest) (hW : 2 * g.monitorRoom + (rest.map fun v => v.category).sum ≤ W) (hdg : decode c.code g.pc = .ok (.invokestatic index, 3)) (hc : cells + rm.cells ≤ R.cells) (hs : slots + rm.slots ≤ R.slots) :
    ∃ v T' L', Stand p l e R s m args below meth c T' (locs ++ L') (cells + rm.cells) (slots + rm.slots) ∧ Q v T'.heap L' ∧ ∀ target, Steps p.tables e below (T'.setTop { g with pc := g.pc + 3, stack := v.toList ++ rest }) target → Steps p.tables e below (T.setTop g) target := by
  obtain ⟨v, _, ⟨T', L', k', n'⟩, -, X', ⟨Lc, hQ, q1, q2, q3⟩, st⟩ := Jvm.LawKit.callS X hx (y := y) hown (mvT hZ w1) (mvT hZ w2) (mvT hZ w3) (mvT hZ w4) hy (backOf (W := W) hM hZ w4 w3 hf hl) hg hsize hlen hstack hW hdg (fun _ _ => ⟨has, eT, hc, hs⟩)
  dsimp only [Pt.U, Pt.locs, Pt.cells, Pt.slots] at X' q1 q2 q3 st hQ
  subst q1 q2 q3
  exact ⟨v, T', Lc, X', hQ, st⟩
theorem own_callN (X : Stand p l e R s m args below meth c T locs cells slots) (hx : p.tables.exec = Jvm.exec) (hZ : Z.Warmed39 s.vm) {own : String} {index : Nat} {y : MethodName} {bytes : ByteArray} {maxL : Nat} {rm : Room} {W : Nat} {as' : Array Value} {Q : Option Value → Heap → List Loc → Prop}
    (hown : s.vm.findClass own = some m.cls) (w1 : (Cond.methodLink own index y).before a0 Z = true) (w2 : (Cond.instanceMethod y).before a0 Z = true) (w4 : (Cond.code y bytes maxL none).before a0 Z = true) (hy : y.cls ≠ "java/lang/invoke/MethodHandle" ∧ y.cls ≠ "java/lang/invoke/VarHandle") (w3 : (Cond.initialized y.cls).before a0 Z = true)
    (hM : MetFree l y (head1 [Cond.code y bytes maxL none] rm) (fun a U => a = as' ∧ Z.Warmed39 U.vm ∧ U.heap = h) (fun _ _ _ _ _ => True) (fun _ U o U' => ∃ v L, o = .returned v ∧ Q v U'.heap L ∧ FrameEnd U o U' L rm.cells rm.slots))
    (eT : T.heap = h) (hf : rm.frames + 1 ≤ R.frames) (hl : W + (maxL + 11) + rm.locals ≤ R.locals) {g : JFrame} (hg : g.method = m) (hsize : g.locals.size = c.maxLocals) {argsL rest : List Value} {a : Addr} (has : (.ref a :: argsL).toArray = as') (hy1 : y.name = "<init>")
    (hlen : ∀ sig, parseMethodDescriptor y.desc = some sig → argsL.length = sig.parameters.length) (hstack : g.stack = argsL.reverse ++ .ref a :: rest) (hW : 2 * g.monitorRoom + (rest.map fun v => v.category).sum ≤ W) (hdg : decode c.code g.pc = .ok (.invokespecial index, 3)) (hc : cells + rm.cells ≤ R.cells) (hs : slots + rm.slots ≤ R.slots) :
    ∃ v T' L', Stand p l e R s m args below meth c T' (locs ++ L') (cells + rm.cells) (slots + rm.slots) ∧ Q v T'.heap L' ∧ ∀ target, Steps p.tables e below (T'.setTop { g with pc := g.pc + 3, stack := v.toList ++ rest }) target → Steps p.tables e below (T.setTop g) target := by
  obtain ⟨v, _, ⟨T', L', k', n'⟩, -, X', ⟨Lc, hQ, q1, q2, q3⟩, st⟩ := X.specialBack hx (y := y) hy1 hown (mvT hZ w1) (mvT hZ w2) (mvT hZ w4) hy (backOf (W := W) hM hZ w4 w3 hf hl) hg hsize (Steps.refl _) hlen hstack hW hdg (fun _ _ => ⟨has, eT, hc, hs⟩)
  dsimp only [Pt.U, Pt.locs, Pt.cells, Pt.slots] at X' q1 q2 q3 st hQ
  subst q1 q2 q3
  exact ⟨v, T', Lc, X', hQ, fun target k => st.trans k⟩
theorem own_callV (X : Stand p l e R s m args below meth c T locs cells slots) (hx : p.tables.exec = Jvm.exec) (hZ : Z.Warmed39 s.vm) {own C : String} {index : Nat} {y z : MethodName} {bytes : ByteArray} {maxL : Nat} {ret : Option FieldType} {rm : Room} {W : Nat} {as' : Array Value} {Q : Option Value → Heap → List Loc → Prop}
    (hown : s.vm.findClass own = some m.cls) (w1 : (Cond.methodLink own index y).before a0 Z = true) (w2 : (Cond.declares y).before a0 Z = true) (w5 : (Cond.selects C y z).before a0 Z = true) (w6 : (Cond.instanceMethod z).before a0 Z = true) {b : Addr} (E : Exa Z h b C) (w4 : (Cond.code z bytes maxL ret).before a0 Z = true) (hy : y.cls ≠ "java/lang/invoke/MethodHandle" ∧ y.cls ≠ "java/lang/invoke/VarHandle") (w3 : (Cond.initialized z.cls).before a0 Z = true)
    (hM : MetFree l z (head1 [Cond.code z bytes maxL ret] rm) (fun a U => a = as' ∧ Z.Warmed39 U.vm ∧ U.heap = h) (fun _ _ _ _ _ => True) (fun _ U o U' => ∃ v L, o = .returned v ∧ Q v U'.heap L ∧ FrameEnd U o U' L rm.cells rm.slots))
    (eT : T.heap = h) (hf : rm.frames + 1 ≤ R.frames) (hl : W + (maxL + 11) + rm.locals ≤ R.locals) {g : JFrame} (hg : g.method = m) (hsize : g.locals.size = c.maxLocals) {argsL rest : List Value} (has : (.ref b :: argsL).toArray = as') (hnf : NotFace s y)
    (hlen : ∀ sig, parseMethodDescriptor y.desc = some sig → argsL.length = sig.parameters.length) (hstack : g.stack = argsL.reverse ++ .ref b :: rest) (hW : 2 * g.monitorRoom + (rest.map fun v => v.category).sum ≤ W) (hdg : decode c.code g.pc = .ok (.invokevirtual index, 3)) (hc : cells + rm.cells ≤ R.cells) (hs : slots + rm.slots ≤ R.slots) :
    ∃ v T' L', Stand p l e R s m args below meth c T' (locs ++ L') (cells + rm.cells) (slots + rm.slots) ∧ Q v T'.heap L' ∧ ∀ target, Steps p.tables e below (T'.setTop { g with pc := g.pc + 3, stack := v.toList ++ rest }) target → Steps p.tables e below (T.setTop g) target := by
  obtain ⟨cq, kq, qa, qb, qc⟩ := isOf hZ eT E
  obtain ⟨v, _, ⟨T', L', k', n'⟩, -, X', ⟨Lc, hQ, q1, q2, q3⟩, st⟩ := X.virtualBack hx (y := y) (z := z) hown (mvT hZ w1) (mvT hZ w2) hnf (mvT hZ w5) (mvT hZ w6) hy (backOf (W := W) hM hZ w4 w3 hf hl) qa qc hg hsize (Steps.refl _) hlen hstack hW hdg (fun _ _ => ⟨has, eT, hc, hs⟩)
  dsimp only [Pt.U, Pt.locs, Pt.cells, Pt.slots] at X' q1 q2 q3 st hQ
  subst q1 q2 q3
  exact ⟨v, T', Lc, X', hQ, fun target k => st.trans k⟩
end Own
end Jvm.RoadKit
namespace Jvm.Pilot.@@N@@
open Jvm Jvm.ClassFile Sem Op Lib Jvm.Free Jvm.Stand Jvm.LawKit Jvm.RoadKit Bundle Jvm.Pilot.@@N@@.Jvm.D
def own_law (n0 : Nat) (v : Option Value) (h : Heap) (L : List Loc) : Prop := v = some (.int 1) ∧ Fr n0 L
theorem own_fref {args : Array Value} {s : State} {t u : Term} {C n d : String} {x y : Addr} (ht : t.eval args s none [] s = some (.ref x)) (hu : u.eval args s none [] s = some (.ref y)) (h : (Jvm.Cond.eq (.field t C n d) u).value args s none s [] = some true) : Fld s s.heap x C n d (.ref y) := by
  obtain ⟨v, w, h1, h2, k1, k2⟩ := cmp_v (Or.inl h)
  cases hu.symm.trans h2
  have hv : v.isRef = true := k2.2
  have q : v = .ref y := gotT (eq_R h1 hu hv rfl) h
  subst q
  exact Fld.start ((fld_at ht).symm.trans h1)
theorem ef_rm1 (m : MethodId) (x0 : Addr) (x1 : Int32) : entryFrame m #[(.ref x0), (.int x1)] 2 = mkF m 0 #[.val (.ref x0), .val (.int x1)] [] := by first | (simp [entryFrame, mkF, argsToLocals, Value.category]; done) | rfl
theorem pn_com_example_lean_tx_leantx_Propagation : plainName "com/example/lean_tx/leantx/Propagation" = true := by first | (simp [plainName, overriddenIn]; done) | decide +kernel
theorem d1_0 : decode prog_16_method_4_code 0 = .ok (.iload_n 1, 1) := by decide +kernel
theorem d1_1 : decode prog_16_method_4_code 1 = .ok (.ifCond .eq 10, 3) := by decide +kernel
theorem d1_11 : decode prog_16_method_4_code 11 = .ok (.aload_n 0, 1) := by decide +kernel
theorem d1_12 : decode prog_16_method_4_code 12 = .ok (.getfield 48, 3) := by decide +kernel
theorem d1_15 : decode prog_16_method_4_code 15 = .ok (.areturn, 1) := by decide +kernel
theorem d1_4 : decode prog_16_method_4_code 4 = .ok (.aload_n 0, 1) := by decide +kernel
theorem d1_5 : decode prog_16_method_4_code 5 = .ok (.getfield 44, 3) := by decide +kernel
theorem d1_8 : decode prog_16_method_4_code 8 = .ok (.goto 7, 3) := by decide +kernel
set_option maxRecDepth 65536 in
set_option maxHeartbeats 40000000 in
theorem rm1 (l : Launch) (Z : State) (a0 : Array Value) (hw : ∀ d ∈ tables_1, d.before a0 Z = true) (ws : List Jvm.Cond) (a1 : Addr) (p1 : Int32) (u0 u1 : Addr) (h0 : Heap) (n0 : Nat) (Z0 : n0 ≤ h0.size) (F0 : Fld Z h0 a1 "com/example/lean_tx/leantx/Propagation" "withNoneOpen" "Lcom/example/lean_tx/leantx/Propagation$Decision;" (.ref u0)) (F1 : Fld Z h0 a1 "com/example/lean_tx/leantx/Propagation" "withOneOpen" "Lcom/example/lean_tx/leantx/Propagation$Decision;" (.ref u1)) :
    MetFree l (⟨"com/example/lean_tx/leantx/Propagation", "decide", "(Z)Lcom/example/lean_tx/leantx/Propagation$Decision;"⟩ : MethodName) (head1 (Jvm.Cond.code (⟨"com/example/lean_tx/leantx/Propagation", "decide", "(Z)Lcom/example/lean_tx/leantx/Propagation$Decision;"⟩ : MethodName) prog_16_method_4_code 2 (some (.object "com/example/lean_tx/leantx/Propagation$Decision")) :: ws) ({ frames := 0, cells := 0, slots := 0, locals := 0 } : Room)) (fun a U => a = #[(.ref a1), (.int p1)] ∧ Z.Warmed39 U.vm ∧ U.heap = h0) (fun _ _ _ _ _ => True) (fun _ U o U' => ∃ v L, o = .returned v ∧ own_pure (.ref (if p1 = 0 then u0 else u1)) h0 n0 v U'.heap L ∧ FrameEnd U o U' L ({ frames := 0, cells := 0, slots := 0, locals := 0 } : Room).cells ({ frames := 0, cells := 0, slots := 0, locals := 0 } : Room).slots) := by
  refine MetFree.of_bodySF (plainFor_of_name pn_com_example_lean_tx_leantx_Propagation) hisR ?_
  intro p e s m args below meth c s₁ Bd hml0 hP hK
  obtain ⟨rfl, hZ, hh⟩ := hP
  have hx := Bd.exec
  have hby := Bd.bytes
  have hml : c.maxLocals = 2 := hml0
  have hown : s.vm.findClass "com/example/lean_tx/leantx/Propagation" = some m.cls := findClass_of_methodNamed Bd.named
  have hnm := (name_of_methodNamed Bd.named Bd.method).1
  have X0 : Stand p l e ({ frames := 0, cells := 0, slots := 0, locals := 0 } : Room) s m #[(.ref a1), (.int p1)] below meth c s₁ [] 0 0 := Stand.of_body Bd
  have e0 : s₁.heap = h0 := by rw [← hh, Bd.state]; rfl
  have N0 := Fr.nil n0
  suffices own_main : own_End p e below s (own_pure (.ref (if p1 = 0 then u0 else u1)) h0 n0) ({ frames := 0, cells := 0, slots := 0, locals := 0 } : Room).cells ({ frames := 0, cells := 0, slots := 0, locals := 0 } : Room).slots s₁ (mkF m 0 #[.val (.ref a1), .val (.int p1)] []) by
    obtain ⟨s₂, o, k1, k2, k3, k4⟩ := own_main
    exact ⟨s₂, o, castTop (ef_rm1 m a1 p1) k1, k2, k3, k4⟩
  show own_End _ _ _ _ _ _ _ s₁ (mkF m 0 #[.val (.ref a1), .val (.int p1)] [])
  refine own_go (fun t k => XS.iloadN X0.here hx rfl (hb hby d1_0) rfl k) ?_
  show own_End _ _ _ _ _ _ _ s₁ (mkF m 1 #[.val (.ref a1), .val (.int p1)] [(.int p1)])
  by_cases hc1 : p1 = (0 : Int32)
  · refine own_go (fun t k => XS.ifYes X0.here hx rfl (pc0 := 1) (pc' := 11) rfl (hb hby d1_1) rfl ((if0 _ _).trans (teq hc1).1) (by decide) (by decide) k) ?_
    show own_End _ _ _ _ _ _ _ s₁ (mkF m 11 #[.val (.ref a1), .val (.int p1)] [])
    refine own_go (fun t k => XS.aloadN X0.here hx rfl (hb hby d1_11) rfl rfl k) ?_
    show own_End _ _ _ _ _ _ _ s₁ (mkF m 12 #[.val (.ref a1), .val (.int p1)] [(.ref a1)])
    obtain ⟨T1, X1, e1, st1⟩ := getF X0 hx hZ hown (host := "") (Or.inl (hw _ (List.mem_of_getElem? (i := 22) rfl))) Via.refl e0 F0 (g := (mkF m 12 #[.val (.ref a1), .val (.int p1)] [(.ref a1)])) rfl rfl (hb hby d1_12)
    refine own_go st1 ?_
    show own_End _ _ _ _ _ _ _ T1 (mkF m 15 #[.val (.ref a1), .val (.int p1)] [(.ref u0)])
    exact own_retW X1 hx Bd.returns Bd.notSynchronized rfl (Or.inr (Or.inr (Or.inr (Or.inr ⟨rfl, rfl, rfl⟩)))) (hb hby d1_15) ⟨by simp [hc1], N0, e1⟩ (by decide) (by decide)
  · refine own_go (fun t k => XS.ifNo X0.here hx rfl (hb hby d1_1) rfl ((if0 _ _).trans (feq hc1).1) k) ?_
    show own_End _ _ _ _ _ _ _ s₁ (mkF m 4 #[.val (.ref a1), .val (.int p1)] [])
    refine own_go (fun t k => XS.aloadN X0.here hx rfl (hb hby d1_4) rfl rfl k) ?_
    show own_End _ _ _ _ _ _ _ s₁ (mkF m 5 #[.val (.ref a1), .val (.int p1)] [(.ref a1)])
    obtain ⟨T2, X2, e2, st2⟩ := getF X0 hx hZ hown (host := "") (Or.inl (hw _ (List.mem_of_getElem? (i := 12) rfl))) Via.refl e0 F1 (g := (mkF m 5 #[.val (.ref a1), .val (.int p1)] [(.ref a1)])) rfl rfl (hb hby d1_5)
    refine own_go st2 ?_
    show own_End _ _ _ _ _ _ _ T2 (mkF m 8 #[.val (.ref a1), .val (.int p1)] [(.ref u1)])
    refine own_go (fun t k => XS.goto X2.here hx rfl (pc0 := 8) (pc' := 15) rfl (hb hby d1_8) (by decide) (by decide) k) ?_
    show own_End _ _ _ _ _ _ _ T2 (mkF m 15 #[.val (.ref a1), .val (.int p1)] [(.ref u1)])
    exact own_retW X2 hx Bd.returns Bd.notSynchronized rfl (Or.inr (Or.inr (Or.inr (Or.inr ⟨rfl, rfl, rfl⟩)))) (hb hby d1_15) ⟨by simp [hc1], N0, e2⟩ (by decide) (by decide)
theorem ef_rm0 (m : MethodId) (x0 : Int32) (x1 : Int32) : entryFrame m #[(.int x0), (.int x1)] maxLocals = mkF m 0 #[.val (.int x0), .val (.int x1), .unset, .unset, .unset, .unset] [] := by first | (simp [entryFrame, mkF, argsToLocals, Value.category, maxLocals]; done) | rfl
theorem pn_com_example_lean_tx_leantx_PropagationDecidePinLaw : plainName "com/example/lean_tx/leantx/PropagationDecidePinLaw" = true := by first | (simp [plainName, overriddenIn]; done) | decide +kernel
theorem pd__Z_Lcom_example_lean_tx_leantx_Propagation_Decision_ : parseMethodDescriptor "(Z)Lcom/example/lean_tx/leantx/Propagation$Decision;" = some ⟨[.boolean], some (.object "com/example/lean_tx/leantx/Propagation$Decision")⟩ := by decide +kernel
set_option maxRecDepth 65536 in
set_option maxHeartbeats 40000000 in
theorem rm0 (l : Launch) (Z : State) (a0 : Array Value) (hw : ∀ d ∈ tables_1, d.before a0 Z = true) (ws : List Jvm.Cond) (p1 p2 : Int32) (pREQUIRED pSUPPORTS pMANDATORY pREQUIRES_NEW pNOT_SUPPORTED pNEVER pNESTED dJOIN dBEGIN dRUN_WITHOUT_TRANSACTION dREFUSE dNEST : Addr) (h0 : Heap) (n0 : Nat) (Z0 : n0 ≤ h0.size) (SREQUIRED : Sta Z h0 "com/example/lean_tx/leantx/Propagation" "REQUIRED" "Lcom/example/lean_tx/leantx/Propagation;" (.ref pREQUIRED)) (SSUPPORTS : Sta Z h0 "com/example/lean_tx/leantx/Propagation" "SUPPORTS" "Lcom/example/lean_tx/leantx/Propagation;" (.ref pSUPPORTS)) (SMANDATORY : Sta Z h0 "com/example/lean_tx/leantx/Propagation" "MANDATORY" "Lcom/example/lean_tx/leantx/Propagation;" (.ref pMANDATORY)) (SREQUIRES_NEW : Sta Z h0 "com/example/lean_tx/leantx/Propagation" "REQUIRES_NEW" "Lcom/example/lean_tx/leantx/Propagation;" (.ref pREQUIRES_NEW)) (SNOT_SUPPORTED : Sta Z h0 "com/example/lean_tx/leantx/Propagation" "NOT_SUPPORTED" "Lcom/example/lean_tx/leantx/Propagation;" (.ref pNOT_SUPPORTED)) (SNEVER : Sta Z h0 "com/example/lean_tx/leantx/Propagation" "NEVER" "Lcom/example/lean_tx/leantx/Propagation;" (.ref pNEVER)) (SNESTED : Sta Z h0 "com/example/lean_tx/leantx/Propagation" "NESTED" "Lcom/example/lean_tx/leantx/Propagation;" (.ref pNESTED)) (SJOIN : Sta Z h0 "com/example/lean_tx/leantx/Propagation$Decision" "JOIN" "Lcom/example/lean_tx/leantx/Propagation$Decision;" (.ref dJOIN)) (SBEGIN : Sta Z h0 "com/example/lean_tx/leantx/Propagation$Decision" "BEGIN" "Lcom/example/lean_tx/leantx/Propagation$Decision;" (.ref dBEGIN)) (SRUN_WITHOUT_TRANSACTION : Sta Z h0 "com/example/lean_tx/leantx/Propagation$Decision" "RUN_WITHOUT_TRANSACTION" "Lcom/example/lean_tx/leantx/Propagation$Decision;" (.ref dRUN_WITHOUT_TRANSACTION)) (SREFUSE : Sta Z h0 "com/example/lean_tx/leantx/Propagation$Decision" "REFUSE" "Lcom/example/lean_tx/leantx/Propagation$Decision;" (.ref dREFUSE)) (SNEST : Sta Z h0 "com/example/lean_tx/leantx/Propagation$Decision" "NEST" "Lcom/example/lean_tx/leantx/Propagation$Decision;" (.ref dNEST)) (EREQUIRED : Exa Z h0 pREQUIRED "com/example/lean_tx/leantx/Propagation") (F0REQUIRED : Fld Z h0 pREQUIRED "com/example/lean_tx/leantx/Propagation" "withNoneOpen" "Lcom/example/lean_tx/leantx/Propagation$Decision;" (.ref dBEGIN)) (F1REQUIRED : Fld Z h0 pREQUIRED "com/example/lean_tx/leantx/Propagation" "withOneOpen" "Lcom/example/lean_tx/leantx/Propagation$Decision;" (.ref dJOIN)) (ESUPPORTS : Exa Z h0 pSUPPORTS "com/example/lean_tx/leantx/Propagation") (F0SUPPORTS : Fld Z h0 pSUPPORTS "com/example/lean_tx/leantx/Propagation" "withNoneOpen" "Lcom/example/lean_tx/leantx/Propagation$Decision;" (.ref dRUN_WITHOUT_TRANSACTION)) (F1SUPPORTS : Fld Z h0 pSUPPORTS "com/example/lean_tx/leantx/Propagation" "withOneOpen" "Lcom/example/lean_tx/leantx/Propagation$Decision;" (.ref dJOIN)) (EMANDATORY : Exa Z h0 pMANDATORY "com/example/lean_tx/leantx/Propagation") (F0MANDATORY : Fld Z h0 pMANDATORY "com/example/lean_tx/leantx/Propagation" "withNoneOpen" "Lcom/example/lean_tx/leantx/Propagation$Decision;" (.ref dREFUSE)) (F1MANDATORY : Fld Z h0 pMANDATORY "com/example/lean_tx/leantx/Propagation" "withOneOpen" "Lcom/example/lean_tx/leantx/Propagation$Decision;" (.ref dJOIN)) (EREQUIRES_NEW : Exa Z h0 pREQUIRES_NEW "com/example/lean_tx/leantx/Propagation") (F0REQUIRES_NEW : Fld Z h0 pREQUIRES_NEW "com/example/lean_tx/leantx/Propagation" "withNoneOpen" "Lcom/example/lean_tx/leantx/Propagation$Decision;" (.ref dBEGIN)) (F1REQUIRES_NEW : Fld Z h0 pREQUIRES_NEW "com/example/lean_tx/leantx/Propagation" "withOneOpen" "Lcom/example/lean_tx/leantx/Propagation$Decision;" (.ref dBEGIN)) (ENOT_SUPPORTED : Exa Z h0 pNOT_SUPPORTED "com/example/lean_tx/leantx/Propagation") (F0NOT_SUPPORTED : Fld Z h0 pNOT_SUPPORTED "com/example/lean_tx/leantx/Propagation" "withNoneOpen" "Lcom/example/lean_tx/leantx/Propagation$Decision;" (.ref dRUN_WITHOUT_TRANSACTION)) (F1NOT_SUPPORTED : Fld Z h0 pNOT_SUPPORTED "com/example/lean_tx/leantx/Propagation" "withOneOpen" "Lcom/example/lean_tx/leantx/Propagation$Decision;" (.ref dRUN_WITHOUT_TRANSACTION)) (ENEVER : Exa Z h0 pNEVER "com/example/lean_tx/leantx/Propagation") (F0NEVER : Fld Z h0 pNEVER "com/example/lean_tx/leantx/Propagation" "withNoneOpen" "Lcom/example/lean_tx/leantx/Propagation$Decision;" (.ref dRUN_WITHOUT_TRANSACTION)) (F1NEVER : Fld Z h0 pNEVER "com/example/lean_tx/leantx/Propagation" "withOneOpen" "Lcom/example/lean_tx/leantx/Propagation$Decision;" (.ref dREFUSE)) (ENESTED : Exa Z h0 pNESTED "com/example/lean_tx/leantx/Propagation") (F0NESTED : Fld Z h0 pNESTED "com/example/lean_tx/leantx/Propagation" "withNoneOpen" "Lcom/example/lean_tx/leantx/Propagation$Decision;" (.ref dBEGIN)) (F1NESTED : Fld Z h0 pNESTED "com/example/lean_tx/leantx/Propagation" "withOneOpen" "Lcom/example/lean_tx/leantx/Propagation$Decision;" (.ref dNEST)) :
    MetFree l x (head1 (Jvm.Cond.code x code maxLocals ret :: ws) room_1) (fun a U => a = #[(.int p1), (.int p2)] ∧ Z.Warmed39 U.vm ∧ U.heap = h0) (fun _ _ _ _ _ => True) (fun _ U o U' => ∃ v L, o = .returned v ∧ own_law n0 v U'.heap L ∧ FrameEnd U o U' L room_1.cells room_1.slots) := by
  refine MetFree.of_bodySF (plainFor_of_name pn_com_example_lean_tx_leantx_PropagationDecidePinLaw) hisR ?_
  intro p e s m args below meth c s₁ Bd hml0 hP hK
  obtain ⟨rfl, hZ, hh⟩ := hP
  have hx := Bd.exec
  have hby := Bd.bytes
  have hml : c.maxLocals = 6 := hml0
  have hown : s.vm.findClass "com/example/lean_tx/leantx/PropagationDecidePinLaw" = some m.cls := findClass_of_methodNamed Bd.named
  have hnm := (name_of_methodNamed Bd.named Bd.method).1
  have X0 : Stand p l e room_1 s m #[(.int p1), (.int p2)] below meth c s₁ [] 0 0 := Stand.of_body Bd
  have e0 : s₁.heap = h0 := by rw [← hh, Bd.state]; rfl
  have N0 := Fr.nil n0
  suffices own_main : own_End p e below s (own_law n0) room_1.cells room_1.slots s₁ (mkF m 0 #[.val (.int p1), .val (.int p2), .unset, .unset, .unset, .unset] []) by
    obtain ⟨s₂, o, k1, k2, k3, k4⟩ := own_main
    exact ⟨s₂, o, castTop (ef_rm0 m p1 p2) k1, k2, k3, k4⟩
  have j187 : ∀ (T : State) (X : Stand p l e room_1 s m #[(.int p1), (.int p2)] below meth c T [] 0 0) (eT : T.heap = h0) (v : Int32) (pp ee u0 u1 : Addr), Exa Z h0 pp "com/example/lean_tx/leantx/Propagation" → Fld Z h0 pp "com/example/lean_tx/leantx/Propagation" "withNoneOpen" "Lcom/example/lean_tx/leantx/Propagation$Decision;" (.ref u0) → Fld Z h0 pp "com/example/lean_tx/leantx/Propagation" "withOneOpen" "Lcom/example/lean_tx/leantx/Propagation$Decision;" (.ref u1) → (if v = 0 then u0 else u1) = ee → own_End p e below s (own_law n0) room_1.cells room_1.slots T (mkF m 187 #[.val (.int p1), .val (.int p2), .val (.int ((p1 &&& (2147483647 : Int32)) % (7 : Int32))), .val (.int v), .val (.ref pp), .val (.ref ee)] []) := by
    intro Tj187 Xj187 ej187 v pp ee u0 u1 hE F0 F1 hq
    show own_End _ _ _ _ _ _ _ Tj187 (mkF m 187 #[.val (.int p1), .val (.int p2), .val (.int ((p1 &&& (2147483647 : Int32)) % (7 : Int32))), .val (.int v), .val (.ref pp), .val (.ref ee)] [])
    refine own_go (fun t k => XS.aload Xj187.here hx rfl (hb hby at_187) rfl rfl k) ?_
    show own_End _ _ _ _ _ _ _ Tj187 (mkF m 189 #[.val (.int p1), .val (.int p2), .val (.int ((p1 &&& (2147483647 : Int32)) % (7 : Int32))), .val (.int v), .val (.ref pp), .val (.ref ee)] [(.ref pp)])
    refine own_go (fun t k => XS.iloadN Xj187.here hx rfl (hb hby at_189) rfl k) ?_
    show own_End _ _ _ _ _ _ _ Tj187 (mkF m 190 #[.val (.int p1), .val (.int p2), .val (.int ((p1 &&& (2147483647 : Int32)) % (7 : Int32))), .val (.int v), .val (.ref pp), .val (.ref ee)] [(.int v), (.ref pp)])
    obtain ⟨v3, T3, L3, X3, hQ3, st3⟩ := own_callV (y := (⟨"com/example/lean_tx/leantx/Propagation", "decide", "(Z)Lcom/example/lean_tx/leantx/Propagation$Decision;"⟩ : MethodName)) (z := (⟨"com/example/lean_tx/leantx/Propagation", "decide", "(Z)Lcom/example/lean_tx/leantx/Propagation$Decision;"⟩ : MethodName)) Xj187 hx hZ hown (hw _ (List.mem_of_getElem? (i := 7) rfl)) (hw _ (List.mem_of_getElem? (i := 8) rfl)) (hw _ (List.mem_of_getElem? (i := 10) rfl)) (hw _ (List.mem_of_getElem? (i := 9) rfl)) hE (hw _ (List.mem_of_getElem? (i := 11) rfl)) (by decide) (hw _ (List.mem_of_getElem? (i := 2) rfl)) (rm1 l Z a0 hw [] pp v u0 u1 h0 n0 Z0 F0 F1) ej187 (W := 0) (by decide) (by decide) (g := (mkF m 190 #[.val (.int p1), .val (.int p2), .val (.int ((p1 &&& (2147483647 : Int32)) % (7 : Int32))), .val (.int v), .val (.ref pp), .val (.ref ee)] [(.int v), (.ref pp)])) rfl (by rw [hml]; rfl) (argsL := [(.int v)]) (rest := []) (b := pp) rfl (notFace_of_selects (args := #[]) (mvT hZ (hw _ (List.mem_of_getElem? (i := 10) rfl)))) (lenOf pd__Z_Lcom_example_lean_tx_leantx_Propagation_Decision_ rfl) rfl (by show 2 * 0 + _ ≤ _; exact Nat.le_of_eq rfl) (hb hby at_190) (by decide) (by decide)
    obtain ⟨rfl, N3q, e3⟩ := hQ3
    have N3 := Fr.app N0 N3q
    refine own_go st3 ?_
    show own_End _ _ _ _ _ _ _ T3 (mkF m 193 #[.val (.int p1), .val (.int p2), .val (.int ((p1 &&& (2147483647 : Int32)) % (7 : Int32))), .val (.int v), .val (.ref pp), .val (.ref ee)] [(.ref (if v = 0 then u0 else u1))])
    refine own_go (fun t k => XS.aload X3.here hx rfl (hb hby at_193) rfl rfl k) ?_
    show own_End _ _ _ _ _ _ _ T3 (mkF m 195 #[.val (.int p1), .val (.int p2), .val (.int ((p1 &&& (2147483647 : Int32)) % (7 : Int32))), .val (.int v), .val (.ref pp), .val (.ref ee)] [(.ref ee), (.ref (if v = 0 then u0 else u1))])
    refine own_go (fun t k => Jvm.RoadKit.acmp (g := (mkF m 195 #[.val (.int p1), .val (.int p2), .val (.int ((p1 &&& (2147483647 : Int32)) % (7 : Int32))), .val (.int v), .val (.ref pp), .val (.ref ee)] [(.ref ee), (.ref (if v = 0 then u0 else u1))])) X3 hx rfl rfl rfl (pc0 := 195) (pc' := 198) (same := true) rfl (hb hby at_195) rfl (decide_eq_true (congrArg Value.ref hq)) (by decide) (by decide) k) ?_
    show own_End _ _ _ _ _ _ _ T3 (mkF m 198 #[.val (.int p1), .val (.int p2), .val (.int ((p1 &&& (2147483647 : Int32)) % (7 : Int32))), .val (.int v), .val (.ref pp), .val (.ref ee)] [])
    refine own_go (fun t k => XS.iconst X3.here hx rfl (hb hby at_198) k) ?_
    show own_End _ _ _ _ _ _ _ T3 (mkF m 199 #[.val (.int p1), .val (.int p2), .val (.int ((p1 &&& (2147483647 : Int32)) % (7 : Int32))), .val (.int v), .val (.ref pp), .val (.ref ee)] [(.int (1 : Int32))])
    refine own_go (fun t k => XS.goto X3.here hx rfl (pc0 := 199) (pc' := 203) rfl (hb hby at_199) (by decide) (by decide) k) ?_
    show own_End _ _ _ _ _ _ _ T3 (mkF m 203 #[.val (.int p1), .val (.int p2), .val (.int ((p1 &&& (2147483647 : Int32)) % (7 : Int32))), .val (.int v), .val (.ref pp), .val (.ref ee)] [(.int (1 : Int32))])
    exact own_retW X3 hx Bd.returns Bd.notSynchronized rfl (Or.inl ⟨rfl, by simp, _, rfl⟩) (hb hby at_203) ⟨rfl, N3⟩ (by decide) (by decide)
  show own_End _ _ _ _ _ _ _ s₁ (mkF m 0 #[.val (.int p1), .val (.int p2), .unset, .unset, .unset, .unset] [])
  refine own_go (fun t k => XS.iloadN X0.here hx rfl (hb hby at_0) rfl k) ?_
  show own_End _ _ _ _ _ _ _ s₁ (mkF m 1 #[.val (.int p1), .val (.int p2), .unset, .unset, .unset, .unset] [(.int p1)])
  refine own_go (fun t k => X0.ldcInt hx hown (mvT hZ (hw _ (List.mem_of_getElem? (i := 0) rfl))) (g := (mkF m 1 #[.val (.int p1), .val (.int p2), .unset, .unset, .unset, .unset] [(.int p1)])) rfl (hb hby at_1) t k) ?_
  show own_End _ _ _ _ _ _ _ s₁ (mkF m 3 #[.val (.int p1), .val (.int p2), .unset, .unset, .unset, .unset] [(.int (2147483647 : Int32)), (.int p1)])
  refine own_go (fun t k => XS.iand X0.here hx rfl (hb hby at_3) rfl k) ?_
  show own_End _ _ _ _ _ _ _ s₁ (mkF m 4 #[.val (.int p1), .val (.int p2), .unset, .unset, .unset, .unset] [(.int (p1 &&& (2147483647 : Int32)))])
  refine own_go (fun t k => XS.bipush X0.here hx rfl (hb hby at_4) k) ?_
  show own_End _ _ _ _ _ _ _ s₁ (mkF m 6 #[.val (.int p1), .val (.int p2), .unset, .unset, .unset, .unset] [(.int (7 : Int32)), (.int (p1 &&& (2147483647 : Int32)))])
  refine own_go (fun t k => Jvm.RoadKit.iremM (g := (mkF m 6 #[.val (.int p1), .val (.int p2), .unset, .unset, .unset, .unset] [(.int (7 : Int32)), (.int (p1 &&& (2147483647 : Int32)))])) X0 hx rfl (hb hby at_6) rfl (by decide) k) ?_
  show own_End _ _ _ _ _ _ _ s₁ (mkF m 7 #[.val (.int p1), .val (.int p2), .unset, .unset, .unset, .unset] [(.int ((p1 &&& (2147483647 : Int32)) % (7 : Int32)))])
  refine own_go (fun t k => XS.istoreN X0.here hx rfl (hb hby at_7) rfl (l' := #[.val (.int p1), .val (.int p2), .val (.int ((p1 &&& (2147483647 : Int32)) % (7 : Int32))), .unset, .unset, .unset]) rfl k) ?_
  show own_End _ _ _ _ _ _ _ s₁ (mkF m 8 #[.val (.int p1), .val (.int p2), .val (.int ((p1 &&& (2147483647 : Int32)) % (7 : Int32))), .unset, .unset, .unset] [])
  refine own_go (fun t k => XS.iloadN X0.here hx rfl (hb hby at_8) rfl k) ?_
  show own_End _ _ _ _ _ _ _ s₁ (mkF m 9 #[.val (.int p1), .val (.int p2), .val (.int ((p1 &&& (2147483647 : Int32)) % (7 : Int32))), .unset, .unset, .unset] [(.int p2)])
  refine own_go (fun t k => XS.iconst X0.here hx rfl (hb hby at_9) k) ?_
  show own_End _ _ _ _ _ _ _ s₁ (mkF m 10 #[.val (.int p1), .val (.int p2), .val (.int ((p1 &&& (2147483647 : Int32)) % (7 : Int32))), .unset, .unset, .unset] [(.int (1 : Int32)), (.int p2)])
  refine own_go (fun t k => XS.iand X0.here hx rfl (hb hby at_10) rfl k) ?_
  show own_End _ _ _ _ _ _ _ s₁ (mkF m 11 #[.val (.int p1), .val (.int p2), .val (.int ((p1 &&& (2147483647 : Int32)) % (7 : Int32))), .unset, .unset, .unset] [(.int (p2 &&& (1 : Int32)))])
  by_cases hc11 : (p2 &&& (1 : Int32)) = (0 : Int32)
  · refine own_go (fun t k => XS.ifYes X0.here hx rfl (pc0 := 11) (pc' := 18) rfl (hb hby at_11) rfl ((if0 _ _).trans (teq hc11).1) (by decide) (by decide) k) ?_
    show own_End _ _ _ _ _ _ _ s₁ (mkF m 18 #[.val (.int p1), .val (.int p2), .val (.int ((p1 &&& (2147483647 : Int32)) % (7 : Int32))), .unset, .unset, .unset] [])
    refine own_go (fun t k => XS.iconst X0.here hx rfl (hb hby at_18) k) ?_
    show own_End _ _ _ _ _ _ _ s₁ (mkF m 19 #[.val (.int p1), .val (.int p2), .val (.int ((p1 &&& (2147483647 : Int32)) % (7 : Int32))), .unset, .unset, .unset] [(.int (0 : Int32))])
    refine own_go (fun t k => XS.istoreN X0.here hx rfl (hb hby at_19) rfl (l' := #[.val (.int p1), .val (.int p2), .val (.int ((p1 &&& (2147483647 : Int32)) % (7 : Int32))), .val (.int (0 : Int32)), .unset, .unset]) rfl k) ?_
    show own_End _ _ _ _ _ _ _ s₁ (mkF m 20 #[.val (.int p1), .val (.int p2), .val (.int ((p1 &&& (2147483647 : Int32)) % (7 : Int32))), .val (.int (0 : Int32)), .unset, .unset] [])
    refine own_go (fun t k => XS.iloadN X0.here hx rfl (hb hby at_20) rfl k) ?_
    show own_End _ _ _ _ _ _ _ s₁ (mkF m 21 #[.val (.int p1), .val (.int p2), .val (.int ((p1 &&& (2147483647 : Int32)) % (7 : Int32))), .val (.int (0 : Int32)), .unset, .unset] [(.int ((p1 &&& (2147483647 : Int32)) % (7 : Int32)))])
    by_cases hc21 : ((p1 &&& (2147483647 : Int32)) % (7 : Int32)) = (0 : Int32)
    · refine own_go (fun t k => XS.ifNo X0.here hx rfl (hb hby at_21) rfl ((if0 _ _).trans (teq hc21).2) k) ?_
      show own_End _ _ _ _ _ _ _ s₁ (mkF m 24 #[.val (.int p1), .val (.int p2), .val (.int ((p1 &&& (2147483647 : Int32)) % (7 : Int32))), .val (.int (0 : Int32)), .unset, .unset] [])
      obtain ⟨T4, X4, e4, st4⟩ := getS2 X0 hx hZ hown (host := "") (Or.inl (hw _ (List.mem_of_getElem? (i := 1) rfl))) Via.refl e0 SREQUIRED (g := (mkF m 24 #[.val (.int p1), .val (.int p2), .val (.int ((p1 &&& (2147483647 : Int32)) % (7 : Int32))), .val (.int (0 : Int32)), .unset, .unset] [])) rfl (hb hby at_24)
      refine own_go st4 ?_
      show own_End _ _ _ _ _ _ _ T4 (mkF m 27 #[.val (.int p1), .val (.int p2), .val (.int ((p1 &&& (2147483647 : Int32)) % (7 : Int32))), .val (.int (0 : Int32)), .unset, .unset] [(.ref pREQUIRED)])
      refine own_go (fun t k => XS.astore X4.here hx rfl (hb hby at_27) rfl rfl (l' := #[.val (.int p1), .val (.int p2), .val (.int ((p1 &&& (2147483647 : Int32)) % (7 : Int32))), .val (.int (0 : Int32)), .val (.ref pREQUIRED), .unset]) rfl k) ?_
      show own_End _ _ _ _ _ _ _ T4 (mkF m 29 #[.val (.int p1), .val (.int p2), .val (.int ((p1 &&& (2147483647 : Int32)) % (7 : Int32))), .val (.int (0 : Int32)), .val (.ref pREQUIRED), .unset] [])
      refine own_go (fun t k => XS.iloadN X4.here hx rfl (hb hby at_29) rfl k) ?_
      show own_End _ _ _ _ _ _ _ T4 (mkF m 30 #[.val (.int p1), .val (.int p2), .val (.int ((p1 &&& (2147483647 : Int32)) % (7 : Int32))), .val (.int (0 : Int32)), .val (.ref pREQUIRED), .unset] [(.int (0 : Int32))])
      refine own_go (fun t k => XS.ifYes X4.here hx rfl (pc0 := 30) (pc' := 39) rfl (hb hby at_30) rfl ((if0 _ _).trans (teq (by decide : (0 : Int32) = (0 : Int32))).1) (by decide) (by decide) k) ?_
      show own_End _ _ _ _ _ _ _ T4 (mkF m 39 #[.val (.int p1), .val (.int p2), .val (.int ((p1 &&& (2147483647 : Int32)) % (7 : Int32))), .val (.int (0 : Int32)), .val (.ref pREQUIRED), .unset] [])
      obtain ⟨T5, X5, e5, st5⟩ := getS2 X4 hx hZ hown (host := "") (Or.inl (hw _ (List.mem_of_getElem? (i := 16) rfl))) Via.refl e4 SBEGIN (g := (mkF m 39 #[.val (.int p1), .val (.int p2), .val (.int ((p1 &&& (2147483647 : Int32)) % (7 : Int32))), .val (.int (0 : Int32)), .val (.ref pREQUIRED), .unset] [])) rfl (hb hby at_39)
      refine own_go st5 ?_
      show own_End _ _ _ _ _ _ _ T5 (mkF m 42 #[.val (.int p1), .val (.int p2), .val (.int ((p1 &&& (2147483647 : Int32)) % (7 : Int32))), .val (.int (0 : Int32)), .val (.ref pREQUIRED), .unset] [(.ref dBEGIN)])
      refine own_go (fun t k => XS.astore X5.here hx rfl (hb hby at_42) rfl rfl (l' := #[.val (.int p1), .val (.int p2), .val (.int ((p1 &&& (2147483647 : Int32)) % (7 : Int32))), .val (.int (0 : Int32)), .val (.ref pREQUIRED), .val (.ref dBEGIN)]) rfl k) ?_
      show own_End _ _ _ _ _ _ _ T5 (mkF m 44 #[.val (.int p1), .val (.int p2), .val (.int ((p1 &&& (2147483647 : Int32)) % (7 : Int32))), .val (.int (0 : Int32)), .val (.ref pREQUIRED), .val (.ref dBEGIN)] [])
      refine own_go (fun t k => XS.goto X5.here hx rfl (pc0 := 44) (pc' := 187) rfl (hb hby at_44) (by decide) (by decide) k) ?_
      exact j187 _ X5 e5 (0 : Int32) pREQUIRED dBEGIN dBEGIN dJOIN EREQUIRED F0REQUIRED F1REQUIRED (if_pos rfl)
    · refine own_go (fun t k => XS.ifYes X0.here hx rfl (pc0 := 21) (pc' := 47) rfl (hb hby at_21) rfl ((if0 _ _).trans (feq hc21).2) (by decide) (by decide) k) ?_
      show own_End _ _ _ _ _ _ _ s₁ (mkF m 47 #[.val (.int p1), .val (.int p2), .val (.int ((p1 &&& (2147483647 : Int32)) % (7 : Int32))), .val (.int (0 : Int32)), .unset, .unset] [])
      refine own_go (fun t k => XS.iloadN X0.here hx rfl (hb hby at_47) rfl k) ?_
      show own_End _ _ _ _ _ _ _ s₁ (mkF m 48 #[.val (.int p1), .val (.int p2), .val (.int ((p1 &&& (2147483647 : Int32)) % (7 : Int32))), .val (.int (0 : Int32)), .unset, .unset] [(.int ((p1 &&& (2147483647 : Int32)) % (7 : Int32)))])
      refine own_go (fun t k => XS.iconst X0.here hx rfl (hb hby at_48) k) ?_
      show own_End _ _ _ _ _ _ _ s₁ (mkF m 49 #[.val (.int p1), .val (.int p2), .val (.int ((p1 &&& (2147483647 : Int32)) % (7 : Int32))), .val (.int (0 : Int32)), .unset, .unset] [(.int (1 : Int32)), (.int ((p1 &&& (2147483647 : Int32)) % (7 : Int32)))])
      by_cases hc49 : ((p1 &&& (2147483647 : Int32)) % (7 : Int32)) = (1 : Int32)
      · refine own_go (fun t k => XS.icmpNo X0.here hx rfl (hb hby at_49) rfl (teq hc49).2 k) ?_
        show own_End _ _ _ _ _ _ _ s₁ (mkF m 52 #[.val (.int p1), .val (.int p2), .val (.int ((p1 &&& (2147483647 : Int32)) % (7 : Int32))), .val (.int (0 : Int32)), .unset, .unset] [])
        obtain ⟨T6, X6, e6, st6⟩ := getS2 X0 hx hZ hown (host := "") (Or.inl (hw _ (List.mem_of_getElem? (i := 18) rfl))) Via.refl e0 SSUPPORTS (g := (mkF m 52 #[.val (.int p1), .val (.int p2), .val (.int ((p1 &&& (2147483647 : Int32)) % (7 : Int32))), .val (.int (0 : Int32)), .unset, .unset] [])) rfl (hb hby at_52)
        refine own_go st6 ?_
        show own_End _ _ _ _ _ _ _ T6 (mkF m 55 #[.val (.int p1), .val (.int p2), .val (.int ((p1 &&& (2147483647 : Int32)) % (7 : Int32))), .val (.int (0 : Int32)), .unset, .unset] [(.ref pSUPPORTS)])
        refine own_go (fun t k => XS.astore X6.here hx rfl (hb hby at_55) rfl rfl (l' := #[.val (.int p1), .val (.int p2), .val (.int ((p1 &&& (2147483647 : Int32)) % (7 : Int32))), .val (.int (0 : Int32)), .val (.ref pSUPPORTS), .unset]) rfl k) ?_
        show own_End _ _ _ _ _ _ _ T6 (mkF m 57 #[.val (.int p1), .val (.int p2), .val (.int ((p1 &&& (2147483647 : Int32)) % (7 : Int32))), .val (.int (0 : Int32)), .val (.ref pSUPPORTS), .unset] [])
        refine own_go (fun t k => XS.iloadN X6.here hx rfl (hb hby at_57) rfl k) ?_
        show own_End _ _ _ _ _ _ _ T6 (mkF m 58 #[.val (.int p1), .val (.int p2), .val (.int ((p1 &&& (2147483647 : Int32)) % (7 : Int32))), .val (.int (0 : Int32)), .val (.ref pSUPPORTS), .unset] [(.int (0 : Int32))])
        refine own_go (fun t k => XS.ifYes X6.here hx rfl (pc0 := 58) (pc' := 67) rfl (hb hby at_58) rfl ((if0 _ _).trans (teq (by decide : (0 : Int32) = (0 : Int32))).1) (by decide) (by decide) k) ?_
        show own_End _ _ _ _ _ _ _ T6 (mkF m 67 #[.val (.int p1), .val (.int p2), .val (.int ((p1 &&& (2147483647 : Int32)) % (7 : Int32))), .val (.int (0 : Int32)), .val (.ref pSUPPORTS), .unset] [])
        obtain ⟨T7, X7, e7, st7⟩ := getS2 X6 hx hZ hown (host := "") (Or.inl (hw _ (List.mem_of_getElem? (i := 20) rfl))) Via.refl e6 SRUN_WITHOUT_TRANSACTION (g := (mkF m 67 #[.val (.int p1), .val (.int p2), .val (.int ((p1 &&& (2147483647 : Int32)) % (7 : Int32))), .val (.int (0 : Int32)), .val (.ref pSUPPORTS), .unset] [])) rfl (hb hby at_67)
        refine own_go st7 ?_
        show own_End _ _ _ _ _ _ _ T7 (mkF m 70 #[.val (.int p1), .val (.int p2), .val (.int ((p1 &&& (2147483647 : Int32)) % (7 : Int32))), .val (.int (0 : Int32)), .val (.ref pSUPPORTS), .unset] [(.ref dRUN_WITHOUT_TRANSACTION)])
        refine own_go (fun t k => XS.astore X7.here hx rfl (hb hby at_70) rfl rfl (l' := #[.val (.int p1), .val (.int p2), .val (.int ((p1 &&& (2147483647 : Int32)) % (7 : Int32))), .val (.int (0 : Int32)), .val (.ref pSUPPORTS), .val (.ref dRUN_WITHOUT_TRANSACTION)]) rfl k) ?_
        show own_End _ _ _ _ _ _ _ T7 (mkF m 72 #[.val (.int p1), .val (.int p2), .val (.int ((p1 &&& (2147483647 : Int32)) % (7 : Int32))), .val (.int (0 : Int32)), .val (.ref pSUPPORTS), .val (.ref dRUN_WITHOUT_TRANSACTION)] [])
        refine own_go (fun t k => XS.goto X7.here hx rfl (pc0 := 72) (pc' := 187) rfl (hb hby at_72) (by decide) (by decide) k) ?_
        exact j187 _ X7 e7 (0 : Int32) pSUPPORTS dRUN_WITHOUT_TRANSACTION dRUN_WITHOUT_TRANSACTION dJOIN ESUPPORTS F0SUPPORTS F1SUPPORTS (if_pos rfl)
      · refine own_go (fun t k => XS.icmpYes X0.here hx rfl (pc0 := 49) (pc' := 75) rfl (hb hby at_49) rfl (feq hc49).2 (by decide) (by decide) k) ?_
        show own_End _ _ _ _ _ _ _ s₁ (mkF m 75 #[.val (.int p1), .val (.int p2), .val (.int ((p1 &&& (2147483647 : Int32)) % (7 : Int32))), .val (.int (0 : Int32)), .unset, .unset] [])
        refine own_go (fun t k => XS.iloadN X0.here hx rfl (hb hby at_75) rfl k) ?_
        show own_End _ _ _ _ _ _ _ s₁ (mkF m 76 #[.val (.int p1), .val (.int p2), .val (.int ((p1 &&& (2147483647 : Int32)) % (7 : Int32))), .val (.int (0 : Int32)), .unset, .unset] [(.int ((p1 &&& (2147483647 : Int32)) % (7 : Int32)))])
        refine own_go (fun t k => XS.iconst X0.here hx rfl (hb hby at_76) k) ?_
        show own_End _ _ _ _ _ _ _ s₁ (mkF m 77 #[.val (.int p1), .val (.int p2), .val (.int ((p1 &&& (2147483647 : Int32)) % (7 : Int32))), .val (.int (0 : Int32)), .unset, .unset] [(.int (2 : Int32)), (.int ((p1 &&& (2147483647 : Int32)) % (7 : Int32)))])
        by_cases hc77 : ((p1 &&& (2147483647 : Int32)) % (7 : Int32)) = (2 : Int32)
        · refine own_go (fun t k => XS.icmpNo X0.here hx rfl (hb hby at_77) rfl (teq hc77).2 k) ?_
          show own_End _ _ _ _ _ _ _ s₁ (mkF m 80 #[.val (.int p1), .val (.int p2), .val (.int ((p1 &&& (2147483647 : Int32)) % (7 : Int32))), .val (.int (0 : Int32)), .unset, .unset] [])
          obtain ⟨T8, X8, e8, st8⟩ := getS2 X0 hx hZ hown (host := "") (Or.inl (hw _ (List.mem_of_getElem? (i := 32) rfl))) Via.refl e0 SMANDATORY (g := (mkF m 80 #[.val (.int p1), .val (.int p2), .val (.int ((p1 &&& (2147483647 : Int32)) % (7 : Int32))), .val (.int (0 : Int32)), .unset, .unset] [])) rfl (hb hby at_80)
          refine own_go st8 ?_
          show own_End _ _ _ _ _ _ _ T8 (mkF m 83 #[.val (.int p1), .val (.int p2), .val (.int ((p1 &&& (2147483647 : Int32)) % (7 : Int32))), .val (.int (0 : Int32)), .unset, .unset] [(.ref pMANDATORY)])
          refine own_go (fun t k => XS.astore X8.here hx rfl (hb hby at_83) rfl rfl (l' := #[.val (.int p1), .val (.int p2), .val (.int ((p1 &&& (2147483647 : Int32)) % (7 : Int32))), .val (.int (0 : Int32)), .val (.ref pMANDATORY), .unset]) rfl k) ?_
          show own_End _ _ _ _ _ _ _ T8 (mkF m 85 #[.val (.int p1), .val (.int p2), .val (.int ((p1 &&& (2147483647 : Int32)) % (7 : Int32))), .val (.int (0 : Int32)), .val (.ref pMANDATORY), .unset] [])
          refine own_go (fun t k => XS.iloadN X8.here hx rfl (hb hby at_85) rfl k) ?_
          show own_End _ _ _ _ _ _ _ T8 (mkF m 86 #[.val (.int p1), .val (.int p2), .val (.int ((p1 &&& (2147483647 : Int32)) % (7 : Int32))), .val (.int (0 : Int32)), .val (.ref pMANDATORY), .unset] [(.int (0 : Int32))])
          refine own_go (fun t k => XS.ifYes X8.here hx rfl (pc0 := 86) (pc' := 95) rfl (hb hby at_86) rfl ((if0 _ _).trans (teq (by decide : (0 : Int32) = (0 : Int32))).1) (by decide) (by decide) k) ?_
          show own_End _ _ _ _ _ _ _ T8 (mkF m 95 #[.val (.int p1), .val (.int p2), .val (.int ((p1 &&& (2147483647 : Int32)) % (7 : Int32))), .val (.int (0 : Int32)), .val (.ref pMANDATORY), .unset] [])
          obtain ⟨T9, X9, e9, st9⟩ := getS2 X8 hx hZ hown (host := "") (Or.inl (hw _ (List.mem_of_getElem? (i := 30) rfl))) Via.refl e8 SREFUSE (g := (mkF m 95 #[.val (.int p1), .val (.int p2), .val (.int ((p1 &&& (2147483647 : Int32)) % (7 : Int32))), .val (.int (0 : Int32)), .val (.ref pMANDATORY), .unset] [])) rfl (hb hby at_95)
          refine own_go st9 ?_
          show own_End _ _ _ _ _ _ _ T9 (mkF m 98 #[.val (.int p1), .val (.int p2), .val (.int ((p1 &&& (2147483647 : Int32)) % (7 : Int32))), .val (.int (0 : Int32)), .val (.ref pMANDATORY), .unset] [(.ref dREFUSE)])
          refine own_go (fun t k => XS.astore X9.here hx rfl (hb hby at_98) rfl rfl (l' := #[.val (.int p1), .val (.int p2), .val (.int ((p1 &&& (2147483647 : Int32)) % (7 : Int32))), .val (.int (0 : Int32)), .val (.ref pMANDATORY), .val (.ref dREFUSE)]) rfl k) ?_
          show own_End _ _ _ _ _ _ _ T9 (mkF m 100 #[.val (.int p1), .val (.int p2), .val (.int ((p1 &&& (2147483647 : Int32)) % (7 : Int32))), .val (.int (0 : Int32)), .val (.ref pMANDATORY), .val (.ref dREFUSE)] [])
          refine own_go (fun t k => XS.goto X9.here hx rfl (pc0 := 100) (pc' := 187) rfl (hb hby at_100) (by decide) (by decide) k) ?_
          exact j187 _ X9 e9 (0 : Int32) pMANDATORY dREFUSE dREFUSE dJOIN EMANDATORY F0MANDATORY F1MANDATORY (if_pos rfl)
        · refine own_go (fun t k => XS.icmpYes X0.here hx rfl (pc0 := 77) (pc' := 103) rfl (hb hby at_77) rfl (feq hc77).2 (by decide) (by decide) k) ?_
          show own_End _ _ _ _ _ _ _ s₁ (mkF m 103 #[.val (.int p1), .val (.int p2), .val (.int ((p1 &&& (2147483647 : Int32)) % (7 : Int32))), .val (.int (0 : Int32)), .unset, .unset] [])
          refine own_go (fun t k => XS.iloadN X0.here hx rfl (hb hby at_103) rfl k) ?_
          show own_End _ _ _ _ _ _ _ s₁ (mkF m 104 #[.val (.int p1), .val (.int p2), .val (.int ((p1 &&& (2147483647 : Int32)) % (7 : Int32))), .val (.int (0 : Int32)), .unset, .unset] [(.int ((p1 &&& (2147483647 : Int32)) % (7 : Int32)))])
          refine own_go (fun t k => XS.iconst X0.here hx rfl (hb hby at_104) k) ?_
          show own_End _ _ _ _ _ _ _ s₁ (mkF m 105 #[.val (.int p1), .val (.int p2), .val (.int ((p1 &&& (2147483647 : Int32)) % (7 : Int32))), .val (.int (0 : Int32)), .unset, .unset] [(.int (3 : Int32)), (.int ((p1 &&& (2147483647 : Int32)) % (7 : Int32)))])
          by_cases hc105 : ((p1 &&& (2147483647 : Int32)) % (7 : Int32)) = (3 : Int32)
          · refine own_go (fun t k => XS.icmpNo X0.here hx rfl (hb hby at_105) rfl (teq hc105).2 k) ?_
            show own_End _ _ _ _ _ _ _ s₁ (mkF m 108 #[.val (.int p1), .val (.int p2), .val (.int ((p1 &&& (2147483647 : Int32)) % (7 : Int32))), .val (.int (0 : Int32)), .unset, .unset] [])
            obtain ⟨T10, X10, e10, st10⟩ := getS2 X0 hx hZ hown (host := "") (Or.inl (hw _ (List.mem_of_getElem? (i := 14) rfl))) Via.refl e0 SREQUIRES_NEW (g := (mkF m 108 #[.val (.int p1), .val (.int p2), .val (.int ((p1 &&& (2147483647 : Int32)) % (7 : Int32))), .val (.int (0 : Int32)), .unset, .unset] [])) rfl (hb hby at_108)
            refine own_go st10 ?_
            show own_End _ _ _ _ _ _ _ T10 (mkF m 111 #[.val (.int p1), .val (.int p2), .val (.int ((p1 &&& (2147483647 : Int32)) % (7 : Int32))), .val (.int (0 : Int32)), .unset, .unset] [(.ref pREQUIRES_NEW)])
            refine own_go (fun t k => XS.astore X10.here hx rfl (hb hby at_111) rfl rfl (l' := #[.val (.int p1), .val (.int p2), .val (.int ((p1 &&& (2147483647 : Int32)) % (7 : Int32))), .val (.int (0 : Int32)), .val (.ref pREQUIRES_NEW), .unset]) rfl k) ?_
            show own_End _ _ _ _ _ _ _ T10 (mkF m 113 #[.val (.int p1), .val (.int p2), .val (.int ((p1 &&& (2147483647 : Int32)) % (7 : Int32))), .val (.int (0 : Int32)), .val (.ref pREQUIRES_NEW), .unset] [])
            obtain ⟨T11, X11, e11, st11⟩ := getS2 X10 hx hZ hown (host := "") (Or.inl (hw _ (List.mem_of_getElem? (i := 16) rfl))) Via.refl e10 SBEGIN (g := (mkF m 113 #[.val (.int p1), .val (.int p2), .val (.int ((p1 &&& (2147483647 : Int32)) % (7 : Int32))), .val (.int (0 : Int32)), .val (.ref pREQUIRES_NEW), .unset] [])) rfl (hb hby at_113)
            refine own_go st11 ?_
            show own_End _ _ _ _ _ _ _ T11 (mkF m 116 #[.val (.int p1), .val (.int p2), .val (.int ((p1 &&& (2147483647 : Int32)) % (7 : Int32))), .val (.int (0 : Int32)), .val (.ref pREQUIRES_NEW), .unset] [(.ref dBEGIN)])
            refine own_go (fun t k => XS.astore X11.here hx rfl (hb hby at_116) rfl rfl (l' := #[.val (.int p1), .val (.int p2), .val (.int ((p1 &&& (2147483647 : Int32)) % (7 : Int32))), .val (.int (0 : Int32)), .val (.ref pREQUIRES_NEW), .val (.ref dBEGIN)]) rfl k) ?_
            show own_End _ _ _ _ _ _ _ T11 (mkF m 118 #[.val (.int p1), .val (.int p2), .val (.int ((p1 &&& (2147483647 : Int32)) % (7 : Int32))), .val (.int (0 : Int32)), .val (.ref pREQUIRES_NEW), .val (.ref dBEGIN)] [])
            refine own_go (fun t k => XS.goto X11.here hx rfl (pc0 := 118) (pc' := 187) rfl (hb hby at_118) (by decide) (by decide) k) ?_
            exact j187 _ X11 e11 (0 : Int32) pREQUIRES_NEW dBEGIN dBEGIN dBEGIN EREQUIRES_NEW F0REQUIRES_NEW F1REQUIRES_NEW (if_pos rfl)
          · refine own_go (fun t k => XS.icmpYes X0.here hx rfl (pc0 := 105) (pc' := 121) rfl (hb hby at_105) rfl (feq hc105).2 (by decide) (by decide) k) ?_
            show own_End _ _ _ _ _ _ _ s₁ (mkF m 121 #[.val (.int p1), .val (.int p2), .val (.int ((p1 &&& (2147483647 : Int32)) % (7 : Int32))), .val (.int (0 : Int32)), .unset, .unset] [])
            refine own_go (fun t k => XS.iloadN X0.here hx rfl (hb hby at_121) rfl k) ?_
            show own_End _ _ _ _ _ _ _ s₁ (mkF m 122 #[.val (.int p1), .val (.int p2), .val (.int ((p1 &&& (2147483647 : Int32)) % (7 : Int32))), .val (.int (0 : Int32)), .unset, .unset] [(.int ((p1 &&& (2147483647 : Int32)) % (7 : Int32)))])
            refine own_go (fun t k => XS.iconst X0.here hx rfl (hb hby at_122) k) ?_
            show own_End _ _ _ _ _ _ _ s₁ (mkF m 123 #[.val (.int p1), .val (.int p2), .val (.int ((p1 &&& (2147483647 : Int32)) % (7 : Int32))), .val (.int (0 : Int32)), .unset, .unset] [(.int (4 : Int32)), (.int ((p1 &&& (2147483647 : Int32)) % (7 : Int32)))])
            by_cases hc123 : ((p1 &&& (2147483647 : Int32)) % (7 : Int32)) = (4 : Int32)
            · refine own_go (fun t k => XS.icmpNo X0.here hx rfl (hb hby at_123) rfl (teq hc123).2 k) ?_
              show own_End _ _ _ _ _ _ _ s₁ (mkF m 126 #[.val (.int p1), .val (.int p2), .val (.int ((p1 &&& (2147483647 : Int32)) % (7 : Int32))), .val (.int (0 : Int32)), .unset, .unset] [])
              obtain ⟨T12, X12, e12, st12⟩ := getS2 X0 hx hZ hown (host := "") (Or.inl (hw _ (List.mem_of_getElem? (i := 24) rfl))) Via.refl e0 SNOT_SUPPORTED (g := (mkF m 126 #[.val (.int p1), .val (.int p2), .val (.int ((p1 &&& (2147483647 : Int32)) % (7 : Int32))), .val (.int (0 : Int32)), .unset, .unset] [])) rfl (hb hby at_126)
              refine own_go st12 ?_
              show own_End _ _ _ _ _ _ _ T12 (mkF m 129 #[.val (.int p1), .val (.int p2), .val (.int ((p1 &&& (2147483647 : Int32)) % (7 : Int32))), .val (.int (0 : Int32)), .unset, .unset] [(.ref pNOT_SUPPORTED)])
              refine own_go (fun t k => XS.astore X12.here hx rfl (hb hby at_129) rfl rfl (l' := #[.val (.int p1), .val (.int p2), .val (.int ((p1 &&& (2147483647 : Int32)) % (7 : Int32))), .val (.int (0 : Int32)), .val (.ref pNOT_SUPPORTED), .unset]) rfl k) ?_
              show own_End _ _ _ _ _ _ _ T12 (mkF m 131 #[.val (.int p1), .val (.int p2), .val (.int ((p1 &&& (2147483647 : Int32)) % (7 : Int32))), .val (.int (0 : Int32)), .val (.ref pNOT_SUPPORTED), .unset] [])
              obtain ⟨T13, X13, e13, st13⟩ := getS2 X12 hx hZ hown (host := "") (Or.inl (hw _ (List.mem_of_getElem? (i := 20) rfl))) Via.refl e12 SRUN_WITHOUT_TRANSACTION (g := (mkF m 131 #[.val (.int p1), .val (.int p2), .val (.int ((p1 &&& (2147483647 : Int32)) % (7 : Int32))), .val (.int (0 : Int32)), .val (.ref pNOT_SUPPORTED), .unset] [])) rfl (hb hby at_131)
              refine own_go st13 ?_
              show own_End _ _ _ _ _ _ _ T13 (mkF m 134 #[.val (.int p1), .val (.int p2), .val (.int ((p1 &&& (2147483647 : Int32)) % (7 : Int32))), .val (.int (0 : Int32)), .val (.ref pNOT_SUPPORTED), .unset] [(.ref dRUN_WITHOUT_TRANSACTION)])
              refine own_go (fun t k => XS.astore X13.here hx rfl (hb hby at_134) rfl rfl (l' := #[.val (.int p1), .val (.int p2), .val (.int ((p1 &&& (2147483647 : Int32)) % (7 : Int32))), .val (.int (0 : Int32)), .val (.ref pNOT_SUPPORTED), .val (.ref dRUN_WITHOUT_TRANSACTION)]) rfl k) ?_
              show own_End _ _ _ _ _ _ _ T13 (mkF m 136 #[.val (.int p1), .val (.int p2), .val (.int ((p1 &&& (2147483647 : Int32)) % (7 : Int32))), .val (.int (0 : Int32)), .val (.ref pNOT_SUPPORTED), .val (.ref dRUN_WITHOUT_TRANSACTION)] [])
              refine own_go (fun t k => XS.goto X13.here hx rfl (pc0 := 136) (pc' := 187) rfl (hb hby at_136) (by decide) (by decide) k) ?_
              exact j187 _ X13 e13 (0 : Int32) pNOT_SUPPORTED dRUN_WITHOUT_TRANSACTION dRUN_WITHOUT_TRANSACTION dRUN_WITHOUT_TRANSACTION ENOT_SUPPORTED F0NOT_SUPPORTED F1NOT_SUPPORTED (if_pos rfl)
            · refine own_go (fun t k => XS.icmpYes X0.here hx rfl (pc0 := 123) (pc' := 139) rfl (hb hby at_123) rfl (feq hc123).2 (by decide) (by decide) k) ?_
              show own_End _ _ _ _ _ _ _ s₁ (mkF m 139 #[.val (.int p1), .val (.int p2), .val (.int ((p1 &&& (2147483647 : Int32)) % (7 : Int32))), .val (.int (0 : Int32)), .unset, .unset] [])
              refine own_go (fun t k => XS.iloadN X0.here hx rfl (hb hby at_139) rfl k) ?_
              show own_End _ _ _ _ _ _ _ s₁ (mkF m 140 #[.val (.int p1), .val (.int p2), .val (.int ((p1 &&& (2147483647 : Int32)) % (7 : Int32))), .val (.int (0 : Int32)), .unset, .unset] [(.int ((p1 &&& (2147483647 : Int32)) % (7 : Int32)))])
              refine own_go (fun t k => XS.iconst X0.here hx rfl (hb hby at_140) k) ?_
              show own_End _ _ _ _ _ _ _ s₁ (mkF m 141 #[.val (.int p1), .val (.int p2), .val (.int ((p1 &&& (2147483647 : Int32)) % (7 : Int32))), .val (.int (0 : Int32)), .unset, .unset] [(.int (5 : Int32)), (.int ((p1 &&& (2147483647 : Int32)) % (7 : Int32)))])
              by_cases hc141 : ((p1 &&& (2147483647 : Int32)) % (7 : Int32)) = (5 : Int32)
              · refine own_go (fun t k => XS.icmpNo X0.here hx rfl (hb hby at_141) rfl (teq hc141).2 k) ?_
                show own_End _ _ _ _ _ _ _ s₁ (mkF m 144 #[.val (.int p1), .val (.int p2), .val (.int ((p1 &&& (2147483647 : Int32)) % (7 : Int32))), .val (.int (0 : Int32)), .unset, .unset] [])
                obtain ⟨T14, X14, e14, st14⟩ := getS2 X0 hx hZ hown (host := "") (Or.inl (hw _ (List.mem_of_getElem? (i := 28) rfl))) Via.refl e0 SNEVER (g := (mkF m 144 #[.val (.int p1), .val (.int p2), .val (.int ((p1 &&& (2147483647 : Int32)) % (7 : Int32))), .val (.int (0 : Int32)), .unset, .unset] [])) rfl (hb hby at_144)
                refine own_go st14 ?_
                show own_End _ _ _ _ _ _ _ T14 (mkF m 147 #[.val (.int p1), .val (.int p2), .val (.int ((p1 &&& (2147483647 : Int32)) % (7 : Int32))), .val (.int (0 : Int32)), .unset, .unset] [(.ref pNEVER)])
                refine own_go (fun t k => XS.astore X14.here hx rfl (hb hby at_147) rfl rfl (l' := #[.val (.int p1), .val (.int p2), .val (.int ((p1 &&& (2147483647 : Int32)) % (7 : Int32))), .val (.int (0 : Int32)), .val (.ref pNEVER), .unset]) rfl k) ?_
                show own_End _ _ _ _ _ _ _ T14 (mkF m 149 #[.val (.int p1), .val (.int p2), .val (.int ((p1 &&& (2147483647 : Int32)) % (7 : Int32))), .val (.int (0 : Int32)), .val (.ref pNEVER), .unset] [])
                refine own_go (fun t k => XS.iloadN X14.here hx rfl (hb hby at_149) rfl k) ?_
                show own_End _ _ _ _ _ _ _ T14 (mkF m 150 #[.val (.int p1), .val (.int p2), .val (.int ((p1 &&& (2147483647 : Int32)) % (7 : Int32))), .val (.int (0 : Int32)), .val (.ref pNEVER), .unset] [(.int (0 : Int32))])
                refine own_go (fun t k => XS.ifYes X14.here hx rfl (pc0 := 150) (pc' := 159) rfl (hb hby at_150) rfl ((if0 _ _).trans (teq (by decide : (0 : Int32) = (0 : Int32))).1) (by decide) (by decide) k) ?_
                show own_End _ _ _ _ _ _ _ T14 (mkF m 159 #[.val (.int p1), .val (.int p2), .val (.int ((p1 &&& (2147483647 : Int32)) % (7 : Int32))), .val (.int (0 : Int32)), .val (.ref pNEVER), .unset] [])
                obtain ⟨T15, X15, e15, st15⟩ := getS2 X14 hx hZ hown (host := "") (Or.inl (hw _ (List.mem_of_getElem? (i := 20) rfl))) Via.refl e14 SRUN_WITHOUT_TRANSACTION (g := (mkF m 159 #[.val (.int p1), .val (.int p2), .val (.int ((p1 &&& (2147483647 : Int32)) % (7 : Int32))), .val (.int (0 : Int32)), .val (.ref pNEVER), .unset] [])) rfl (hb hby at_159)
                refine own_go st15 ?_
                show own_End _ _ _ _ _ _ _ T15 (mkF m 162 #[.val (.int p1), .val (.int p2), .val (.int ((p1 &&& (2147483647 : Int32)) % (7 : Int32))), .val (.int (0 : Int32)), .val (.ref pNEVER), .unset] [(.ref dRUN_WITHOUT_TRANSACTION)])
                refine own_go (fun t k => XS.astore X15.here hx rfl (hb hby at_162) rfl rfl (l' := #[.val (.int p1), .val (.int p2), .val (.int ((p1 &&& (2147483647 : Int32)) % (7 : Int32))), .val (.int (0 : Int32)), .val (.ref pNEVER), .val (.ref dRUN_WITHOUT_TRANSACTION)]) rfl k) ?_
                show own_End _ _ _ _ _ _ _ T15 (mkF m 164 #[.val (.int p1), .val (.int p2), .val (.int ((p1 &&& (2147483647 : Int32)) % (7 : Int32))), .val (.int (0 : Int32)), .val (.ref pNEVER), .val (.ref dRUN_WITHOUT_TRANSACTION)] [])
                refine own_go (fun t k => XS.goto X15.here hx rfl (pc0 := 164) (pc' := 187) rfl (hb hby at_164) (by decide) (by decide) k) ?_
                exact j187 _ X15 e15 (0 : Int32) pNEVER dRUN_WITHOUT_TRANSACTION dRUN_WITHOUT_TRANSACTION dREFUSE ENEVER F0NEVER F1NEVER (if_pos rfl)
              · refine own_go (fun t k => XS.icmpYes X0.here hx rfl (pc0 := 141) (pc' := 167) rfl (hb hby at_141) rfl (feq hc141).2 (by decide) (by decide) k) ?_
                show own_End _ _ _ _ _ _ _ s₁ (mkF m 167 #[.val (.int p1), .val (.int p2), .val (.int ((p1 &&& (2147483647 : Int32)) % (7 : Int32))), .val (.int (0 : Int32)), .unset, .unset] [])
                obtain ⟨T16, X16, e16, st16⟩ := getS2 X0 hx hZ hown (host := "") (Or.inl (hw _ (List.mem_of_getElem? (i := 26) rfl))) Via.refl e0 SNESTED (g := (mkF m 167 #[.val (.int p1), .val (.int p2), .val (.int ((p1 &&& (2147483647 : Int32)) % (7 : Int32))), .val (.int (0 : Int32)), .unset, .unset] [])) rfl (hb hby at_167)
                refine own_go st16 ?_
                show own_End _ _ _ _ _ _ _ T16 (mkF m 170 #[.val (.int p1), .val (.int p2), .val (.int ((p1 &&& (2147483647 : Int32)) % (7 : Int32))), .val (.int (0 : Int32)), .unset, .unset] [(.ref pNESTED)])
                refine own_go (fun t k => XS.astore X16.here hx rfl (hb hby at_170) rfl rfl (l' := #[.val (.int p1), .val (.int p2), .val (.int ((p1 &&& (2147483647 : Int32)) % (7 : Int32))), .val (.int (0 : Int32)), .val (.ref pNESTED), .unset]) rfl k) ?_
                show own_End _ _ _ _ _ _ _ T16 (mkF m 172 #[.val (.int p1), .val (.int p2), .val (.int ((p1 &&& (2147483647 : Int32)) % (7 : Int32))), .val (.int (0 : Int32)), .val (.ref pNESTED), .unset] [])
                refine own_go (fun t k => XS.iloadN X16.here hx rfl (hb hby at_172) rfl k) ?_
                show own_End _ _ _ _ _ _ _ T16 (mkF m 173 #[.val (.int p1), .val (.int p2), .val (.int ((p1 &&& (2147483647 : Int32)) % (7 : Int32))), .val (.int (0 : Int32)), .val (.ref pNESTED), .unset] [(.int (0 : Int32))])
                refine own_go (fun t k => XS.ifYes X16.here hx rfl (pc0 := 173) (pc' := 182) rfl (hb hby at_173) rfl ((if0 _ _).trans (teq (by decide : (0 : Int32) = (0 : Int32))).1) (by decide) (by decide) k) ?_
                show own_End _ _ _ _ _ _ _ T16 (mkF m 182 #[.val (.int p1), .val (.int p2), .val (.int ((p1 &&& (2147483647 : Int32)) % (7 : Int32))), .val (.int (0 : Int32)), .val (.ref pNESTED), .unset] [])
                obtain ⟨T17, X17, e17, st17⟩ := getS2 X16 hx hZ hown (host := "") (Or.inl (hw _ (List.mem_of_getElem? (i := 16) rfl))) Via.refl e16 SBEGIN (g := (mkF m 182 #[.val (.int p1), .val (.int p2), .val (.int ((p1 &&& (2147483647 : Int32)) % (7 : Int32))), .val (.int (0 : Int32)), .val (.ref pNESTED), .unset] [])) rfl (hb hby at_182)
                refine own_go st17 ?_
                show own_End _ _ _ _ _ _ _ T17 (mkF m 185 #[.val (.int p1), .val (.int p2), .val (.int ((p1 &&& (2147483647 : Int32)) % (7 : Int32))), .val (.int (0 : Int32)), .val (.ref pNESTED), .unset] [(.ref dBEGIN)])
                refine own_go (fun t k => XS.astore X17.here hx rfl (hb hby at_185) rfl rfl (l' := #[.val (.int p1), .val (.int p2), .val (.int ((p1 &&& (2147483647 : Int32)) % (7 : Int32))), .val (.int (0 : Int32)), .val (.ref pNESTED), .val (.ref dBEGIN)]) rfl k) ?_
                exact j187 _ X17 e17 (0 : Int32) pNESTED dBEGIN dBEGIN dNEST ENESTED F0NESTED F1NESTED (if_pos rfl)
  · refine own_go (fun t k => XS.ifNo X0.here hx rfl (hb hby at_11) rfl ((if0 _ _).trans (feq hc11).1) k) ?_
    show own_End _ _ _ _ _ _ _ s₁ (mkF m 14 #[.val (.int p1), .val (.int p2), .val (.int ((p1 &&& (2147483647 : Int32)) % (7 : Int32))), .unset, .unset, .unset] [])
    refine own_go (fun t k => XS.iconst X0.here hx rfl (hb hby at_14) k) ?_
    show own_End _ _ _ _ _ _ _ s₁ (mkF m 15 #[.val (.int p1), .val (.int p2), .val (.int ((p1 &&& (2147483647 : Int32)) % (7 : Int32))), .unset, .unset, .unset] [(.int (1 : Int32))])
    refine own_go (fun t k => XS.goto X0.here hx rfl (pc0 := 15) (pc' := 19) rfl (hb hby at_15) (by decide) (by decide) k) ?_
    show own_End _ _ _ _ _ _ _ s₁ (mkF m 19 #[.val (.int p1), .val (.int p2), .val (.int ((p1 &&& (2147483647 : Int32)) % (7 : Int32))), .unset, .unset, .unset] [(.int (1 : Int32))])
    refine own_go (fun t k => XS.istoreN X0.here hx rfl (hb hby at_19) rfl (l' := #[.val (.int p1), .val (.int p2), .val (.int ((p1 &&& (2147483647 : Int32)) % (7 : Int32))), .val (.int (1 : Int32)), .unset, .unset]) rfl k) ?_
    show own_End _ _ _ _ _ _ _ s₁ (mkF m 20 #[.val (.int p1), .val (.int p2), .val (.int ((p1 &&& (2147483647 : Int32)) % (7 : Int32))), .val (.int (1 : Int32)), .unset, .unset] [])
    refine own_go (fun t k => XS.iloadN X0.here hx rfl (hb hby at_20) rfl k) ?_
    show own_End _ _ _ _ _ _ _ s₁ (mkF m 21 #[.val (.int p1), .val (.int p2), .val (.int ((p1 &&& (2147483647 : Int32)) % (7 : Int32))), .val (.int (1 : Int32)), .unset, .unset] [(.int ((p1 &&& (2147483647 : Int32)) % (7 : Int32)))])
    by_cases hc21 : ((p1 &&& (2147483647 : Int32)) % (7 : Int32)) = (0 : Int32)
    · refine own_go (fun t k => XS.ifNo X0.here hx rfl (hb hby at_21) rfl ((if0 _ _).trans (teq hc21).2) k) ?_
      show own_End _ _ _ _ _ _ _ s₁ (mkF m 24 #[.val (.int p1), .val (.int p2), .val (.int ((p1 &&& (2147483647 : Int32)) % (7 : Int32))), .val (.int (1 : Int32)), .unset, .unset] [])
      obtain ⟨T18, X18, e18, st18⟩ := getS2 X0 hx hZ hown (host := "") (Or.inl (hw _ (List.mem_of_getElem? (i := 1) rfl))) Via.refl e0 SREQUIRED (g := (mkF m 24 #[.val (.int p1), .val (.int p2), .val (.int ((p1 &&& (2147483647 : Int32)) % (7 : Int32))), .val (.int (1 : Int32)), .unset, .unset] [])) rfl (hb hby at_24)
      refine own_go st18 ?_
      show own_End _ _ _ _ _ _ _ T18 (mkF m 27 #[.val (.int p1), .val (.int p2), .val (.int ((p1 &&& (2147483647 : Int32)) % (7 : Int32))), .val (.int (1 : Int32)), .unset, .unset] [(.ref pREQUIRED)])
      refine own_go (fun t k => XS.astore X18.here hx rfl (hb hby at_27) rfl rfl (l' := #[.val (.int p1), .val (.int p2), .val (.int ((p1 &&& (2147483647 : Int32)) % (7 : Int32))), .val (.int (1 : Int32)), .val (.ref pREQUIRED), .unset]) rfl k) ?_
      show own_End _ _ _ _ _ _ _ T18 (mkF m 29 #[.val (.int p1), .val (.int p2), .val (.int ((p1 &&& (2147483647 : Int32)) % (7 : Int32))), .val (.int (1 : Int32)), .val (.ref pREQUIRED), .unset] [])
      refine own_go (fun t k => XS.iloadN X18.here hx rfl (hb hby at_29) rfl k) ?_
      show own_End _ _ _ _ _ _ _ T18 (mkF m 30 #[.val (.int p1), .val (.int p2), .val (.int ((p1 &&& (2147483647 : Int32)) % (7 : Int32))), .val (.int (1 : Int32)), .val (.ref pREQUIRED), .unset] [(.int (1 : Int32))])
      refine own_go (fun t k => XS.ifNo X18.here hx rfl (hb hby at_30) rfl ((if0 _ _).trans (feq (by decide : ¬ ((1 : Int32) = (0 : Int32)))).1) k) ?_
      show own_End _ _ _ _ _ _ _ T18 (mkF m 33 #[.val (.int p1), .val (.int p2), .val (.int ((p1 &&& (2147483647 : Int32)) % (7 : Int32))), .val (.int (1 : Int32)), .val (.ref pREQUIRED), .unset] [])
      obtain ⟨T19, X19, e19, st19⟩ := getS2 X18 hx hZ hown (host := "") (Or.inl (hw _ (List.mem_of_getElem? (i := 4) rfl))) Via.refl e18 SJOIN (g := (mkF m 33 #[.val (.int p1), .val (.int p2), .val (.int ((p1 &&& (2147483647 : Int32)) % (7 : Int32))), .val (.int (1 : Int32)), .val (.ref pREQUIRED), .unset] [])) rfl (hb hby at_33)
      refine own_go st19 ?_
      show own_End _ _ _ _ _ _ _ T19 (mkF m 36 #[.val (.int p1), .val (.int p2), .val (.int ((p1 &&& (2147483647 : Int32)) % (7 : Int32))), .val (.int (1 : Int32)), .val (.ref pREQUIRED), .unset] [(.ref dJOIN)])
      refine own_go (fun t k => XS.goto X19.here hx rfl (pc0 := 36) (pc' := 42) rfl (hb hby at_36) (by decide) (by decide) k) ?_
      show own_End _ _ _ _ _ _ _ T19 (mkF m 42 #[.val (.int p1), .val (.int p2), .val (.int ((p1 &&& (2147483647 : Int32)) % (7 : Int32))), .val (.int (1 : Int32)), .val (.ref pREQUIRED), .unset] [(.ref dJOIN)])
      refine own_go (fun t k => XS.astore X19.here hx rfl (hb hby at_42) rfl rfl (l' := #[.val (.int p1), .val (.int p2), .val (.int ((p1 &&& (2147483647 : Int32)) % (7 : Int32))), .val (.int (1 : Int32)), .val (.ref pREQUIRED), .val (.ref dJOIN)]) rfl k) ?_
      show own_End _ _ _ _ _ _ _ T19 (mkF m 44 #[.val (.int p1), .val (.int p2), .val (.int ((p1 &&& (2147483647 : Int32)) % (7 : Int32))), .val (.int (1 : Int32)), .val (.ref pREQUIRED), .val (.ref dJOIN)] [])
      refine own_go (fun t k => XS.goto X19.here hx rfl (pc0 := 44) (pc' := 187) rfl (hb hby at_44) (by decide) (by decide) k) ?_
      exact j187 _ X19 e19 (1 : Int32) pREQUIRED dJOIN dBEGIN dJOIN EREQUIRED F0REQUIRED F1REQUIRED (if_neg (by decide))
    · refine own_go (fun t k => XS.ifYes X0.here hx rfl (pc0 := 21) (pc' := 47) rfl (hb hby at_21) rfl ((if0 _ _).trans (feq hc21).2) (by decide) (by decide) k) ?_
      show own_End _ _ _ _ _ _ _ s₁ (mkF m 47 #[.val (.int p1), .val (.int p2), .val (.int ((p1 &&& (2147483647 : Int32)) % (7 : Int32))), .val (.int (1 : Int32)), .unset, .unset] [])
      refine own_go (fun t k => XS.iloadN X0.here hx rfl (hb hby at_47) rfl k) ?_
      show own_End _ _ _ _ _ _ _ s₁ (mkF m 48 #[.val (.int p1), .val (.int p2), .val (.int ((p1 &&& (2147483647 : Int32)) % (7 : Int32))), .val (.int (1 : Int32)), .unset, .unset] [(.int ((p1 &&& (2147483647 : Int32)) % (7 : Int32)))])
      refine own_go (fun t k => XS.iconst X0.here hx rfl (hb hby at_48) k) ?_
      show own_End _ _ _ _ _ _ _ s₁ (mkF m 49 #[.val (.int p1), .val (.int p2), .val (.int ((p1 &&& (2147483647 : Int32)) % (7 : Int32))), .val (.int (1 : Int32)), .unset, .unset] [(.int (1 : Int32)), (.int ((p1 &&& (2147483647 : Int32)) % (7 : Int32)))])
      by_cases hc49 : ((p1 &&& (2147483647 : Int32)) % (7 : Int32)) = (1 : Int32)
      · refine own_go (fun t k => XS.icmpNo X0.here hx rfl (hb hby at_49) rfl (teq hc49).2 k) ?_
        show own_End _ _ _ _ _ _ _ s₁ (mkF m 52 #[.val (.int p1), .val (.int p2), .val (.int ((p1 &&& (2147483647 : Int32)) % (7 : Int32))), .val (.int (1 : Int32)), .unset, .unset] [])
        obtain ⟨T20, X20, e20, st20⟩ := getS2 X0 hx hZ hown (host := "") (Or.inl (hw _ (List.mem_of_getElem? (i := 18) rfl))) Via.refl e0 SSUPPORTS (g := (mkF m 52 #[.val (.int p1), .val (.int p2), .val (.int ((p1 &&& (2147483647 : Int32)) % (7 : Int32))), .val (.int (1 : Int32)), .unset, .unset] [])) rfl (hb hby at_52)
        refine own_go st20 ?_
        show own_End _ _ _ _ _ _ _ T20 (mkF m 55 #[.val (.int p1), .val (.int p2), .val (.int ((p1 &&& (2147483647 : Int32)) % (7 : Int32))), .val (.int (1 : Int32)), .unset, .unset] [(.ref pSUPPORTS)])
        refine own_go (fun t k => XS.astore X20.here hx rfl (hb hby at_55) rfl rfl (l' := #[.val (.int p1), .val (.int p2), .val (.int ((p1 &&& (2147483647 : Int32)) % (7 : Int32))), .val (.int (1 : Int32)), .val (.ref pSUPPORTS), .unset]) rfl k) ?_
        show own_End _ _ _ _ _ _ _ T20 (mkF m 57 #[.val (.int p1), .val (.int p2), .val (.int ((p1 &&& (2147483647 : Int32)) % (7 : Int32))), .val (.int (1 : Int32)), .val (.ref pSUPPORTS), .unset] [])
        refine own_go (fun t k => XS.iloadN X20.here hx rfl (hb hby at_57) rfl k) ?_
        show own_End _ _ _ _ _ _ _ T20 (mkF m 58 #[.val (.int p1), .val (.int p2), .val (.int ((p1 &&& (2147483647 : Int32)) % (7 : Int32))), .val (.int (1 : Int32)), .val (.ref pSUPPORTS), .unset] [(.int (1 : Int32))])
        refine own_go (fun t k => XS.ifNo X20.here hx rfl (hb hby at_58) rfl ((if0 _ _).trans (feq (by decide : ¬ ((1 : Int32) = (0 : Int32)))).1) k) ?_
        show own_End _ _ _ _ _ _ _ T20 (mkF m 61 #[.val (.int p1), .val (.int p2), .val (.int ((p1 &&& (2147483647 : Int32)) % (7 : Int32))), .val (.int (1 : Int32)), .val (.ref pSUPPORTS), .unset] [])
        obtain ⟨T21, X21, e21, st21⟩ := getS2 X20 hx hZ hown (host := "") (Or.inl (hw _ (List.mem_of_getElem? (i := 4) rfl))) Via.refl e20 SJOIN (g := (mkF m 61 #[.val (.int p1), .val (.int p2), .val (.int ((p1 &&& (2147483647 : Int32)) % (7 : Int32))), .val (.int (1 : Int32)), .val (.ref pSUPPORTS), .unset] [])) rfl (hb hby at_61)
        refine own_go st21 ?_
        show own_End _ _ _ _ _ _ _ T21 (mkF m 64 #[.val (.int p1), .val (.int p2), .val (.int ((p1 &&& (2147483647 : Int32)) % (7 : Int32))), .val (.int (1 : Int32)), .val (.ref pSUPPORTS), .unset] [(.ref dJOIN)])
        refine own_go (fun t k => XS.goto X21.here hx rfl (pc0 := 64) (pc' := 70) rfl (hb hby at_64) (by decide) (by decide) k) ?_
        show own_End _ _ _ _ _ _ _ T21 (mkF m 70 #[.val (.int p1), .val (.int p2), .val (.int ((p1 &&& (2147483647 : Int32)) % (7 : Int32))), .val (.int (1 : Int32)), .val (.ref pSUPPORTS), .unset] [(.ref dJOIN)])
        refine own_go (fun t k => XS.astore X21.here hx rfl (hb hby at_70) rfl rfl (l' := #[.val (.int p1), .val (.int p2), .val (.int ((p1 &&& (2147483647 : Int32)) % (7 : Int32))), .val (.int (1 : Int32)), .val (.ref pSUPPORTS), .val (.ref dJOIN)]) rfl k) ?_
        show own_End _ _ _ _ _ _ _ T21 (mkF m 72 #[.val (.int p1), .val (.int p2), .val (.int ((p1 &&& (2147483647 : Int32)) % (7 : Int32))), .val (.int (1 : Int32)), .val (.ref pSUPPORTS), .val (.ref dJOIN)] [])
        refine own_go (fun t k => XS.goto X21.here hx rfl (pc0 := 72) (pc' := 187) rfl (hb hby at_72) (by decide) (by decide) k) ?_
        exact j187 _ X21 e21 (1 : Int32) pSUPPORTS dJOIN dRUN_WITHOUT_TRANSACTION dJOIN ESUPPORTS F0SUPPORTS F1SUPPORTS (if_neg (by decide))
      · refine own_go (fun t k => XS.icmpYes X0.here hx rfl (pc0 := 49) (pc' := 75) rfl (hb hby at_49) rfl (feq hc49).2 (by decide) (by decide) k) ?_
        show own_End _ _ _ _ _ _ _ s₁ (mkF m 75 #[.val (.int p1), .val (.int p2), .val (.int ((p1 &&& (2147483647 : Int32)) % (7 : Int32))), .val (.int (1 : Int32)), .unset, .unset] [])
        refine own_go (fun t k => XS.iloadN X0.here hx rfl (hb hby at_75) rfl k) ?_
        show own_End _ _ _ _ _ _ _ s₁ (mkF m 76 #[.val (.int p1), .val (.int p2), .val (.int ((p1 &&& (2147483647 : Int32)) % (7 : Int32))), .val (.int (1 : Int32)), .unset, .unset] [(.int ((p1 &&& (2147483647 : Int32)) % (7 : Int32)))])
        refine own_go (fun t k => XS.iconst X0.here hx rfl (hb hby at_76) k) ?_
        show own_End _ _ _ _ _ _ _ s₁ (mkF m 77 #[.val (.int p1), .val (.int p2), .val (.int ((p1 &&& (2147483647 : Int32)) % (7 : Int32))), .val (.int (1 : Int32)), .unset, .unset] [(.int (2 : Int32)), (.int ((p1 &&& (2147483647 : Int32)) % (7 : Int32)))])
        by_cases hc77 : ((p1 &&& (2147483647 : Int32)) % (7 : Int32)) = (2 : Int32)
        · refine own_go (fun t k => XS.icmpNo X0.here hx rfl (hb hby at_77) rfl (teq hc77).2 k) ?_
          show own_End _ _ _ _ _ _ _ s₁ (mkF m 80 #[.val (.int p1), .val (.int p2), .val (.int ((p1 &&& (2147483647 : Int32)) % (7 : Int32))), .val (.int (1 : Int32)), .unset, .unset] [])
          obtain ⟨T22, X22, e22, st22⟩ := getS2 X0 hx hZ hown (host := "") (Or.inl (hw _ (List.mem_of_getElem? (i := 32) rfl))) Via.refl e0 SMANDATORY (g := (mkF m 80 #[.val (.int p1), .val (.int p2), .val (.int ((p1 &&& (2147483647 : Int32)) % (7 : Int32))), .val (.int (1 : Int32)), .unset, .unset] [])) rfl (hb hby at_80)
          refine own_go st22 ?_
          show own_End _ _ _ _ _ _ _ T22 (mkF m 83 #[.val (.int p1), .val (.int p2), .val (.int ((p1 &&& (2147483647 : Int32)) % (7 : Int32))), .val (.int (1 : Int32)), .unset, .unset] [(.ref pMANDATORY)])
          refine own_go (fun t k => XS.astore X22.here hx rfl (hb hby at_83) rfl rfl (l' := #[.val (.int p1), .val (.int p2), .val (.int ((p1 &&& (2147483647 : Int32)) % (7 : Int32))), .val (.int (1 : Int32)), .val (.ref pMANDATORY), .unset]) rfl k) ?_
          show own_End _ _ _ _ _ _ _ T22 (mkF m 85 #[.val (.int p1), .val (.int p2), .val (.int ((p1 &&& (2147483647 : Int32)) % (7 : Int32))), .val (.int (1 : Int32)), .val (.ref pMANDATORY), .unset] [])
          refine own_go (fun t k => XS.iloadN X22.here hx rfl (hb hby at_85) rfl k) ?_
          show own_End _ _ _ _ _ _ _ T22 (mkF m 86 #[.val (.int p1), .val (.int p2), .val (.int ((p1 &&& (2147483647 : Int32)) % (7 : Int32))), .val (.int (1 : Int32)), .val (.ref pMANDATORY), .unset] [(.int (1 : Int32))])
          refine own_go (fun t k => XS.ifNo X22.here hx rfl (hb hby at_86) rfl ((if0 _ _).trans (feq (by decide : ¬ ((1 : Int32) = (0 : Int32)))).1) k) ?_
          show own_End _ _ _ _ _ _ _ T22 (mkF m 89 #[.val (.int p1), .val (.int p2), .val (.int ((p1 &&& (2147483647 : Int32)) % (7 : Int32))), .val (.int (1 : Int32)), .val (.ref pMANDATORY), .unset] [])
          obtain ⟨T23, X23, e23, st23⟩ := getS2 X22 hx hZ hown (host := "") (Or.inl (hw _ (List.mem_of_getElem? (i := 4) rfl))) Via.refl e22 SJOIN (g := (mkF m 89 #[.val (.int p1), .val (.int p2), .val (.int ((p1 &&& (2147483647 : Int32)) % (7 : Int32))), .val (.int (1 : Int32)), .val (.ref pMANDATORY), .unset] [])) rfl (hb hby at_89)
          refine own_go st23 ?_
          show own_End _ _ _ _ _ _ _ T23 (mkF m 92 #[.val (.int p1), .val (.int p2), .val (.int ((p1 &&& (2147483647 : Int32)) % (7 : Int32))), .val (.int (1 : Int32)), .val (.ref pMANDATORY), .unset] [(.ref dJOIN)])
          refine own_go (fun t k => XS.goto X23.here hx rfl (pc0 := 92) (pc' := 98) rfl (hb hby at_92) (by decide) (by decide) k) ?_
          show own_End _ _ _ _ _ _ _ T23 (mkF m 98 #[.val (.int p1), .val (.int p2), .val (.int ((p1 &&& (2147483647 : Int32)) % (7 : Int32))), .val (.int (1 : Int32)), .val (.ref pMANDATORY), .unset] [(.ref dJOIN)])
          refine own_go (fun t k => XS.astore X23.here hx rfl (hb hby at_98) rfl rfl (l' := #[.val (.int p1), .val (.int p2), .val (.int ((p1 &&& (2147483647 : Int32)) % (7 : Int32))), .val (.int (1 : Int32)), .val (.ref pMANDATORY), .val (.ref dJOIN)]) rfl k) ?_
          show own_End _ _ _ _ _ _ _ T23 (mkF m 100 #[.val (.int p1), .val (.int p2), .val (.int ((p1 &&& (2147483647 : Int32)) % (7 : Int32))), .val (.int (1 : Int32)), .val (.ref pMANDATORY), .val (.ref dJOIN)] [])
          refine own_go (fun t k => XS.goto X23.here hx rfl (pc0 := 100) (pc' := 187) rfl (hb hby at_100) (by decide) (by decide) k) ?_
          exact j187 _ X23 e23 (1 : Int32) pMANDATORY dJOIN dREFUSE dJOIN EMANDATORY F0MANDATORY F1MANDATORY (if_neg (by decide))
        · refine own_go (fun t k => XS.icmpYes X0.here hx rfl (pc0 := 77) (pc' := 103) rfl (hb hby at_77) rfl (feq hc77).2 (by decide) (by decide) k) ?_
          show own_End _ _ _ _ _ _ _ s₁ (mkF m 103 #[.val (.int p1), .val (.int p2), .val (.int ((p1 &&& (2147483647 : Int32)) % (7 : Int32))), .val (.int (1 : Int32)), .unset, .unset] [])
          refine own_go (fun t k => XS.iloadN X0.here hx rfl (hb hby at_103) rfl k) ?_
          show own_End _ _ _ _ _ _ _ s₁ (mkF m 104 #[.val (.int p1), .val (.int p2), .val (.int ((p1 &&& (2147483647 : Int32)) % (7 : Int32))), .val (.int (1 : Int32)), .unset, .unset] [(.int ((p1 &&& (2147483647 : Int32)) % (7 : Int32)))])
          refine own_go (fun t k => XS.iconst X0.here hx rfl (hb hby at_104) k) ?_
          show own_End _ _ _ _ _ _ _ s₁ (mkF m 105 #[.val (.int p1), .val (.int p2), .val (.int ((p1 &&& (2147483647 : Int32)) % (7 : Int32))), .val (.int (1 : Int32)), .unset, .unset] [(.int (3 : Int32)), (.int ((p1 &&& (2147483647 : Int32)) % (7 : Int32)))])
          by_cases hc105 : ((p1 &&& (2147483647 : Int32)) % (7 : Int32)) = (3 : Int32)
          · refine own_go (fun t k => XS.icmpNo X0.here hx rfl (hb hby at_105) rfl (teq hc105).2 k) ?_
            show own_End _ _ _ _ _ _ _ s₁ (mkF m 108 #[.val (.int p1), .val (.int p2), .val (.int ((p1 &&& (2147483647 : Int32)) % (7 : Int32))), .val (.int (1 : Int32)), .unset, .unset] [])
            obtain ⟨T24, X24, e24, st24⟩ := getS2 X0 hx hZ hown (host := "") (Or.inl (hw _ (List.mem_of_getElem? (i := 14) rfl))) Via.refl e0 SREQUIRES_NEW (g := (mkF m 108 #[.val (.int p1), .val (.int p2), .val (.int ((p1 &&& (2147483647 : Int32)) % (7 : Int32))), .val (.int (1 : Int32)), .unset, .unset] [])) rfl (hb hby at_108)
            refine own_go st24 ?_
            show own_End _ _ _ _ _ _ _ T24 (mkF m 111 #[.val (.int p1), .val (.int p2), .val (.int ((p1 &&& (2147483647 : Int32)) % (7 : Int32))), .val (.int (1 : Int32)), .unset, .unset] [(.ref pREQUIRES_NEW)])
            refine own_go (fun t k => XS.astore X24.here hx rfl (hb hby at_111) rfl rfl (l' := #[.val (.int p1), .val (.int p2), .val (.int ((p1 &&& (2147483647 : Int32)) % (7 : Int32))), .val (.int (1 : Int32)), .val (.ref pREQUIRES_NEW), .unset]) rfl k) ?_
            show own_End _ _ _ _ _ _ _ T24 (mkF m 113 #[.val (.int p1), .val (.int p2), .val (.int ((p1 &&& (2147483647 : Int32)) % (7 : Int32))), .val (.int (1 : Int32)), .val (.ref pREQUIRES_NEW), .unset] [])
            obtain ⟨T25, X25, e25, st25⟩ := getS2 X24 hx hZ hown (host := "") (Or.inl (hw _ (List.mem_of_getElem? (i := 16) rfl))) Via.refl e24 SBEGIN (g := (mkF m 113 #[.val (.int p1), .val (.int p2), .val (.int ((p1 &&& (2147483647 : Int32)) % (7 : Int32))), .val (.int (1 : Int32)), .val (.ref pREQUIRES_NEW), .unset] [])) rfl (hb hby at_113)
            refine own_go st25 ?_
            show own_End _ _ _ _ _ _ _ T25 (mkF m 116 #[.val (.int p1), .val (.int p2), .val (.int ((p1 &&& (2147483647 : Int32)) % (7 : Int32))), .val (.int (1 : Int32)), .val (.ref pREQUIRES_NEW), .unset] [(.ref dBEGIN)])
            refine own_go (fun t k => XS.astore X25.here hx rfl (hb hby at_116) rfl rfl (l' := #[.val (.int p1), .val (.int p2), .val (.int ((p1 &&& (2147483647 : Int32)) % (7 : Int32))), .val (.int (1 : Int32)), .val (.ref pREQUIRES_NEW), .val (.ref dBEGIN)]) rfl k) ?_
            show own_End _ _ _ _ _ _ _ T25 (mkF m 118 #[.val (.int p1), .val (.int p2), .val (.int ((p1 &&& (2147483647 : Int32)) % (7 : Int32))), .val (.int (1 : Int32)), .val (.ref pREQUIRES_NEW), .val (.ref dBEGIN)] [])
            refine own_go (fun t k => XS.goto X25.here hx rfl (pc0 := 118) (pc' := 187) rfl (hb hby at_118) (by decide) (by decide) k) ?_
            exact j187 _ X25 e25 (1 : Int32) pREQUIRES_NEW dBEGIN dBEGIN dBEGIN EREQUIRES_NEW F0REQUIRES_NEW F1REQUIRES_NEW (if_neg (by decide))
          · refine own_go (fun t k => XS.icmpYes X0.here hx rfl (pc0 := 105) (pc' := 121) rfl (hb hby at_105) rfl (feq hc105).2 (by decide) (by decide) k) ?_
            show own_End _ _ _ _ _ _ _ s₁ (mkF m 121 #[.val (.int p1), .val (.int p2), .val (.int ((p1 &&& (2147483647 : Int32)) % (7 : Int32))), .val (.int (1 : Int32)), .unset, .unset] [])
            refine own_go (fun t k => XS.iloadN X0.here hx rfl (hb hby at_121) rfl k) ?_
            show own_End _ _ _ _ _ _ _ s₁ (mkF m 122 #[.val (.int p1), .val (.int p2), .val (.int ((p1 &&& (2147483647 : Int32)) % (7 : Int32))), .val (.int (1 : Int32)), .unset, .unset] [(.int ((p1 &&& (2147483647 : Int32)) % (7 : Int32)))])
            refine own_go (fun t k => XS.iconst X0.here hx rfl (hb hby at_122) k) ?_
            show own_End _ _ _ _ _ _ _ s₁ (mkF m 123 #[.val (.int p1), .val (.int p2), .val (.int ((p1 &&& (2147483647 : Int32)) % (7 : Int32))), .val (.int (1 : Int32)), .unset, .unset] [(.int (4 : Int32)), (.int ((p1 &&& (2147483647 : Int32)) % (7 : Int32)))])
            by_cases hc123 : ((p1 &&& (2147483647 : Int32)) % (7 : Int32)) = (4 : Int32)
            · refine own_go (fun t k => XS.icmpNo X0.here hx rfl (hb hby at_123) rfl (teq hc123).2 k) ?_
              show own_End _ _ _ _ _ _ _ s₁ (mkF m 126 #[.val (.int p1), .val (.int p2), .val (.int ((p1 &&& (2147483647 : Int32)) % (7 : Int32))), .val (.int (1 : Int32)), .unset, .unset] [])
              obtain ⟨T26, X26, e26, st26⟩ := getS2 X0 hx hZ hown (host := "") (Or.inl (hw _ (List.mem_of_getElem? (i := 24) rfl))) Via.refl e0 SNOT_SUPPORTED (g := (mkF m 126 #[.val (.int p1), .val (.int p2), .val (.int ((p1 &&& (2147483647 : Int32)) % (7 : Int32))), .val (.int (1 : Int32)), .unset, .unset] [])) rfl (hb hby at_126)
              refine own_go st26 ?_
              show own_End _ _ _ _ _ _ _ T26 (mkF m 129 #[.val (.int p1), .val (.int p2), .val (.int ((p1 &&& (2147483647 : Int32)) % (7 : Int32))), .val (.int (1 : Int32)), .unset, .unset] [(.ref pNOT_SUPPORTED)])
              refine own_go (fun t k => XS.astore X26.here hx rfl (hb hby at_129) rfl rfl (l' := #[.val (.int p1), .val (.int p2), .val (.int ((p1 &&& (2147483647 : Int32)) % (7 : Int32))), .val (.int (1 : Int32)), .val (.ref pNOT_SUPPORTED), .unset]) rfl k) ?_
              show own_End _ _ _ _ _ _ _ T26 (mkF m 131 #[.val (.int p1), .val (.int p2), .val (.int ((p1 &&& (2147483647 : Int32)) % (7 : Int32))), .val (.int (1 : Int32)), .val (.ref pNOT_SUPPORTED), .unset] [])
              obtain ⟨T27, X27, e27, st27⟩ := getS2 X26 hx hZ hown (host := "") (Or.inl (hw _ (List.mem_of_getElem? (i := 20) rfl))) Via.refl e26 SRUN_WITHOUT_TRANSACTION (g := (mkF m 131 #[.val (.int p1), .val (.int p2), .val (.int ((p1 &&& (2147483647 : Int32)) % (7 : Int32))), .val (.int (1 : Int32)), .val (.ref pNOT_SUPPORTED), .unset] [])) rfl (hb hby at_131)
              refine own_go st27 ?_
              show own_End _ _ _ _ _ _ _ T27 (mkF m 134 #[.val (.int p1), .val (.int p2), .val (.int ((p1 &&& (2147483647 : Int32)) % (7 : Int32))), .val (.int (1 : Int32)), .val (.ref pNOT_SUPPORTED), .unset] [(.ref dRUN_WITHOUT_TRANSACTION)])
              refine own_go (fun t k => XS.astore X27.here hx rfl (hb hby at_134) rfl rfl (l' := #[.val (.int p1), .val (.int p2), .val (.int ((p1 &&& (2147483647 : Int32)) % (7 : Int32))), .val (.int (1 : Int32)), .val (.ref pNOT_SUPPORTED), .val (.ref dRUN_WITHOUT_TRANSACTION)]) rfl k) ?_
              show own_End _ _ _ _ _ _ _ T27 (mkF m 136 #[.val (.int p1), .val (.int p2), .val (.int ((p1 &&& (2147483647 : Int32)) % (7 : Int32))), .val (.int (1 : Int32)), .val (.ref pNOT_SUPPORTED), .val (.ref dRUN_WITHOUT_TRANSACTION)] [])
              refine own_go (fun t k => XS.goto X27.here hx rfl (pc0 := 136) (pc' := 187) rfl (hb hby at_136) (by decide) (by decide) k) ?_
              exact j187 _ X27 e27 (1 : Int32) pNOT_SUPPORTED dRUN_WITHOUT_TRANSACTION dRUN_WITHOUT_TRANSACTION dRUN_WITHOUT_TRANSACTION ENOT_SUPPORTED F0NOT_SUPPORTED F1NOT_SUPPORTED (if_neg (by decide))
            · refine own_go (fun t k => XS.icmpYes X0.here hx rfl (pc0 := 123) (pc' := 139) rfl (hb hby at_123) rfl (feq hc123).2 (by decide) (by decide) k) ?_
              show own_End _ _ _ _ _ _ _ s₁ (mkF m 139 #[.val (.int p1), .val (.int p2), .val (.int ((p1 &&& (2147483647 : Int32)) % (7 : Int32))), .val (.int (1 : Int32)), .unset, .unset] [])
              refine own_go (fun t k => XS.iloadN X0.here hx rfl (hb hby at_139) rfl k) ?_
              show own_End _ _ _ _ _ _ _ s₁ (mkF m 140 #[.val (.int p1), .val (.int p2), .val (.int ((p1 &&& (2147483647 : Int32)) % (7 : Int32))), .val (.int (1 : Int32)), .unset, .unset] [(.int ((p1 &&& (2147483647 : Int32)) % (7 : Int32)))])
              refine own_go (fun t k => XS.iconst X0.here hx rfl (hb hby at_140) k) ?_
              show own_End _ _ _ _ _ _ _ s₁ (mkF m 141 #[.val (.int p1), .val (.int p2), .val (.int ((p1 &&& (2147483647 : Int32)) % (7 : Int32))), .val (.int (1 : Int32)), .unset, .unset] [(.int (5 : Int32)), (.int ((p1 &&& (2147483647 : Int32)) % (7 : Int32)))])
              by_cases hc141 : ((p1 &&& (2147483647 : Int32)) % (7 : Int32)) = (5 : Int32)
              · refine own_go (fun t k => XS.icmpNo X0.here hx rfl (hb hby at_141) rfl (teq hc141).2 k) ?_
                show own_End _ _ _ _ _ _ _ s₁ (mkF m 144 #[.val (.int p1), .val (.int p2), .val (.int ((p1 &&& (2147483647 : Int32)) % (7 : Int32))), .val (.int (1 : Int32)), .unset, .unset] [])
                obtain ⟨T28, X28, e28, st28⟩ := getS2 X0 hx hZ hown (host := "") (Or.inl (hw _ (List.mem_of_getElem? (i := 28) rfl))) Via.refl e0 SNEVER (g := (mkF m 144 #[.val (.int p1), .val (.int p2), .val (.int ((p1 &&& (2147483647 : Int32)) % (7 : Int32))), .val (.int (1 : Int32)), .unset, .unset] [])) rfl (hb hby at_144)
                refine own_go st28 ?_
                show own_End _ _ _ _ _ _ _ T28 (mkF m 147 #[.val (.int p1), .val (.int p2), .val (.int ((p1 &&& (2147483647 : Int32)) % (7 : Int32))), .val (.int (1 : Int32)), .unset, .unset] [(.ref pNEVER)])
                refine own_go (fun t k => XS.astore X28.here hx rfl (hb hby at_147) rfl rfl (l' := #[.val (.int p1), .val (.int p2), .val (.int ((p1 &&& (2147483647 : Int32)) % (7 : Int32))), .val (.int (1 : Int32)), .val (.ref pNEVER), .unset]) rfl k) ?_
                show own_End _ _ _ _ _ _ _ T28 (mkF m 149 #[.val (.int p1), .val (.int p2), .val (.int ((p1 &&& (2147483647 : Int32)) % (7 : Int32))), .val (.int (1 : Int32)), .val (.ref pNEVER), .unset] [])
                refine own_go (fun t k => XS.iloadN X28.here hx rfl (hb hby at_149) rfl k) ?_
                show own_End _ _ _ _ _ _ _ T28 (mkF m 150 #[.val (.int p1), .val (.int p2), .val (.int ((p1 &&& (2147483647 : Int32)) % (7 : Int32))), .val (.int (1 : Int32)), .val (.ref pNEVER), .unset] [(.int (1 : Int32))])
                refine own_go (fun t k => XS.ifNo X28.here hx rfl (hb hby at_150) rfl ((if0 _ _).trans (feq (by decide : ¬ ((1 : Int32) = (0 : Int32)))).1) k) ?_
                show own_End _ _ _ _ _ _ _ T28 (mkF m 153 #[.val (.int p1), .val (.int p2), .val (.int ((p1 &&& (2147483647 : Int32)) % (7 : Int32))), .val (.int (1 : Int32)), .val (.ref pNEVER), .unset] [])
                obtain ⟨T29, X29, e29, st29⟩ := getS2 X28 hx hZ hown (host := "") (Or.inl (hw _ (List.mem_of_getElem? (i := 30) rfl))) Via.refl e28 SREFUSE (g := (mkF m 153 #[.val (.int p1), .val (.int p2), .val (.int ((p1 &&& (2147483647 : Int32)) % (7 : Int32))), .val (.int (1 : Int32)), .val (.ref pNEVER), .unset] [])) rfl (hb hby at_153)
                refine own_go st29 ?_
                show own_End _ _ _ _ _ _ _ T29 (mkF m 156 #[.val (.int p1), .val (.int p2), .val (.int ((p1 &&& (2147483647 : Int32)) % (7 : Int32))), .val (.int (1 : Int32)), .val (.ref pNEVER), .unset] [(.ref dREFUSE)])
                refine own_go (fun t k => XS.goto X29.here hx rfl (pc0 := 156) (pc' := 162) rfl (hb hby at_156) (by decide) (by decide) k) ?_
                show own_End _ _ _ _ _ _ _ T29 (mkF m 162 #[.val (.int p1), .val (.int p2), .val (.int ((p1 &&& (2147483647 : Int32)) % (7 : Int32))), .val (.int (1 : Int32)), .val (.ref pNEVER), .unset] [(.ref dREFUSE)])
                refine own_go (fun t k => XS.astore X29.here hx rfl (hb hby at_162) rfl rfl (l' := #[.val (.int p1), .val (.int p2), .val (.int ((p1 &&& (2147483647 : Int32)) % (7 : Int32))), .val (.int (1 : Int32)), .val (.ref pNEVER), .val (.ref dREFUSE)]) rfl k) ?_
                show own_End _ _ _ _ _ _ _ T29 (mkF m 164 #[.val (.int p1), .val (.int p2), .val (.int ((p1 &&& (2147483647 : Int32)) % (7 : Int32))), .val (.int (1 : Int32)), .val (.ref pNEVER), .val (.ref dREFUSE)] [])
                refine own_go (fun t k => XS.goto X29.here hx rfl (pc0 := 164) (pc' := 187) rfl (hb hby at_164) (by decide) (by decide) k) ?_
                exact j187 _ X29 e29 (1 : Int32) pNEVER dREFUSE dRUN_WITHOUT_TRANSACTION dREFUSE ENEVER F0NEVER F1NEVER (if_neg (by decide))
              · refine own_go (fun t k => XS.icmpYes X0.here hx rfl (pc0 := 141) (pc' := 167) rfl (hb hby at_141) rfl (feq hc141).2 (by decide) (by decide) k) ?_
                show own_End _ _ _ _ _ _ _ s₁ (mkF m 167 #[.val (.int p1), .val (.int p2), .val (.int ((p1 &&& (2147483647 : Int32)) % (7 : Int32))), .val (.int (1 : Int32)), .unset, .unset] [])
                obtain ⟨T30, X30, e30, st30⟩ := getS2 X0 hx hZ hown (host := "") (Or.inl (hw _ (List.mem_of_getElem? (i := 26) rfl))) Via.refl e0 SNESTED (g := (mkF m 167 #[.val (.int p1), .val (.int p2), .val (.int ((p1 &&& (2147483647 : Int32)) % (7 : Int32))), .val (.int (1 : Int32)), .unset, .unset] [])) rfl (hb hby at_167)
                refine own_go st30 ?_
                show own_End _ _ _ _ _ _ _ T30 (mkF m 170 #[.val (.int p1), .val (.int p2), .val (.int ((p1 &&& (2147483647 : Int32)) % (7 : Int32))), .val (.int (1 : Int32)), .unset, .unset] [(.ref pNESTED)])
                refine own_go (fun t k => XS.astore X30.here hx rfl (hb hby at_170) rfl rfl (l' := #[.val (.int p1), .val (.int p2), .val (.int ((p1 &&& (2147483647 : Int32)) % (7 : Int32))), .val (.int (1 : Int32)), .val (.ref pNESTED), .unset]) rfl k) ?_
                show own_End _ _ _ _ _ _ _ T30 (mkF m 172 #[.val (.int p1), .val (.int p2), .val (.int ((p1 &&& (2147483647 : Int32)) % (7 : Int32))), .val (.int (1 : Int32)), .val (.ref pNESTED), .unset] [])
                refine own_go (fun t k => XS.iloadN X30.here hx rfl (hb hby at_172) rfl k) ?_
                show own_End _ _ _ _ _ _ _ T30 (mkF m 173 #[.val (.int p1), .val (.int p2), .val (.int ((p1 &&& (2147483647 : Int32)) % (7 : Int32))), .val (.int (1 : Int32)), .val (.ref pNESTED), .unset] [(.int (1 : Int32))])
                refine own_go (fun t k => XS.ifNo X30.here hx rfl (hb hby at_173) rfl ((if0 _ _).trans (feq (by decide : ¬ ((1 : Int32) = (0 : Int32)))).1) k) ?_
                show own_End _ _ _ _ _ _ _ T30 (mkF m 176 #[.val (.int p1), .val (.int p2), .val (.int ((p1 &&& (2147483647 : Int32)) % (7 : Int32))), .val (.int (1 : Int32)), .val (.ref pNESTED), .unset] [])
                obtain ⟨T31, X31, e31, st31⟩ := getS2 X30 hx hZ hown (host := "") (Or.inl (hw _ (List.mem_of_getElem? (i := 34) rfl))) Via.refl e30 SNEST (g := (mkF m 176 #[.val (.int p1), .val (.int p2), .val (.int ((p1 &&& (2147483647 : Int32)) % (7 : Int32))), .val (.int (1 : Int32)), .val (.ref pNESTED), .unset] [])) rfl (hb hby at_176)
                refine own_go st31 ?_
                show own_End _ _ _ _ _ _ _ T31 (mkF m 179 #[.val (.int p1), .val (.int p2), .val (.int ((p1 &&& (2147483647 : Int32)) % (7 : Int32))), .val (.int (1 : Int32)), .val (.ref pNESTED), .unset] [(.ref dNEST)])
                refine own_go (fun t k => XS.goto X31.here hx rfl (pc0 := 179) (pc' := 185) rfl (hb hby at_179) (by decide) (by decide) k) ?_
                show own_End _ _ _ _ _ _ _ T31 (mkF m 185 #[.val (.int p1), .val (.int p2), .val (.int ((p1 &&& (2147483647 : Int32)) % (7 : Int32))), .val (.int (1 : Int32)), .val (.ref pNESTED), .unset] [(.ref dNEST)])
                refine own_go (fun t k => XS.astore X31.here hx rfl (hb hby at_185) rfl rfl (l' := #[.val (.int p1), .val (.int p2), .val (.int ((p1 &&& (2147483647 : Int32)) % (7 : Int32))), .val (.int (1 : Int32)), .val (.ref pNESTED), .val (.ref dNEST)]) rfl k) ?_
                exact j187 _ X31 e31 (1 : Int32) pNESTED dNEST dBEGIN dNEST ENESTED F0NESTED F1NESTED (if_neg (by decide))
set_option maxRecDepth 65536 in
set_option maxHeartbeats 40000000 in
theorem comes_1 {Post : Tables → Env → Array Value → State → Outcome → State → Prop} (hpost : ∀ tb e args s v u, (limb_1_1.after args s (.returned v) u = true ∧ limb_1_2.after args s (.returned v) u = true ∧ True) → FrameEnd s (.returned v) u (Jvm.fieldLocs frame_1_writes args s ++ Jvm.arrayLocs frame_1_arrays args s ++ Jvm.staticLocs frame_1_statics s) 0 0 → Post tb e args s (.returned v) u) :
    ArmFor flags0 classFile x code maxLocals ret World_1 tables_1 room_1 Calls_1 rest_1 Pre_1 Post := by
  intro l hfl _ _ p e ha hc hk s m args below hf hA hF happ hP
  obtain ⟨hcalls, hrest, hpre⟩ := hP
  obtain ⟨-, -, -, hnamed, -, -, -, hat⟩ := (Spec.applies_iff hf).mp happ
  obtain ⟨hg, hn⟩ := and_e (Cond.before_iff.mp (show (Jvm.Cond.and given_1 narrow_1).before args s = true from hpre))
  obtain ⟨gc, gr0⟩ := and_e hg
  obtain ⟨gi0, gr1⟩ := and_e gr0
  obtain ⟨w0, w1, rfl⟩ : ∃ w0 w1 : Value, args = #[w0, w1] := by
    have hs : args.size = 2 := by simpa [Cond.value, given_1] using gc
    obtain ⟨L⟩ := args
    match L, hs with
    | [w0, w1], _ => exact ⟨w0, w1, rfl⟩
  have hw := fun d (hd : d ∈ tables_1) => atoms_spec (ws := Jvm.Cond.code x code maxLocals ret :: tables_1) hat d (List.mem_cons_of_mem _ hd)
  have hfit : Fit s := fun {y c} hc i hi => by
    obtain ⟨ha, rfl⟩ := Array.getElem?_eq_some_iff.mp hc
    have q := List.all_eq_true.mp ((Array.all_eq_true_iff_forall_mem.mp hF) _ (Array.getElem_mem ha)) i (List.mem_range.mpr hi)
    simpa [Array.getElem?_eq_getElem hi] using q
  obtain ⟨i0, ei0⟩ := is_v gi0
  obtain rfl : w0 = (.int i0) := Option.some.inj ei0
  obtain ⟨i1, ei1⟩ := is_v gr1
  obtain rfl : w1 = (.int i1) := Option.some.inj ei1
  obtain ⟨x0, hn⟩ := and_e hn
  obtain ⟨x1, hn⟩ := and_e hn
  obtain ⟨x2, hn⟩ := and_e hn
  obtain ⟨x3, hn⟩ := and_e hn
  obtain ⟨x4, hn⟩ := and_e hn
  obtain ⟨x5, hn⟩ := and_e hn
  obtain ⟨x6, hn⟩ := and_e hn
  obtain ⟨x7, hn⟩ := and_e hn
  obtain ⟨x8, hn⟩ := and_e hn
  obtain ⟨x9, hn⟩ := and_e hn
  obtain ⟨x10, hn⟩ := and_e hn
  obtain ⟨x11, hn⟩ := and_e hn
  obtain ⟨x12, hn⟩ := and_e hn
  obtain ⟨x13, hn⟩ := and_e hn
  obtain ⟨x14, hn⟩ := and_e hn
  obtain ⟨x15, hn⟩ := and_e hn
  obtain ⟨x16, hn⟩ := and_e hn
  obtain ⟨x17, hn⟩ := and_e hn
  obtain ⟨x18, hn⟩ := and_e hn
  obtain ⟨x19, hn⟩ := and_e hn
  obtain ⟨x20, hn⟩ := and_e hn
  obtain ⟨x21, hn⟩ := and_e hn
  obtain ⟨x22, hn⟩ := and_e hn
  obtain ⟨x23, hn⟩ := and_e hn
  obtain ⟨x24, hn⟩ := and_e hn
  obtain ⟨pREQUIRED, vREQUIRED⟩ := exa_v x0
  have SREQUIRED := Sta.start vREQUIRED (Or.inr ⟨(hw _ (List.mem_of_getElem? (i := 2) rfl)), (hw _ (List.mem_of_getElem? (i := 3) rfl))⟩)
  have EREQUIRED := Exa.start vREQUIRED x0
  obtain ⟨dJOIN, vJOIN⟩ := exa_v x1
  have SJOIN := Sta.start vJOIN (Or.inr ⟨(hw _ (List.mem_of_getElem? (i := 5) rfl)), (hw _ (List.mem_of_getElem? (i := 6) rfl))⟩)
  obtain ⟨pREQUIRES_NEW, vREQUIRES_NEW⟩ := exa_v x3
  have SREQUIRES_NEW := Sta.start vREQUIRES_NEW (Or.inr ⟨(hw _ (List.mem_of_getElem? (i := 2) rfl)), (hw _ (List.mem_of_getElem? (i := 15) rfl))⟩)
  have EREQUIRES_NEW := Exa.start vREQUIRES_NEW x3
  obtain ⟨dBEGIN, vBEGIN⟩ := exa_v x4
  have SBEGIN := Sta.start vBEGIN (Or.inr ⟨(hw _ (List.mem_of_getElem? (i := 5) rfl)), (hw _ (List.mem_of_getElem? (i := 17) rfl))⟩)
  obtain ⟨pSUPPORTS, vSUPPORTS⟩ := exa_v x6
  have SSUPPORTS := Sta.start vSUPPORTS (Or.inr ⟨(hw _ (List.mem_of_getElem? (i := 2) rfl)), (hw _ (List.mem_of_getElem? (i := 19) rfl))⟩)
  have ESUPPORTS := Exa.start vSUPPORTS x6
  obtain ⟨dRUN_WITHOUT_TRANSACTION, vRUN_WITHOUT_TRANSACTION⟩ := exa_v x7
  have SRUN_WITHOUT_TRANSACTION := Sta.start vRUN_WITHOUT_TRANSACTION (Or.inr ⟨(hw _ (List.mem_of_getElem? (i := 5) rfl)), (hw _ (List.mem_of_getElem? (i := 21) rfl))⟩)
  obtain ⟨pNOT_SUPPORTED, vNOT_SUPPORTED⟩ := exa_v x9
  have SNOT_SUPPORTED := Sta.start vNOT_SUPPORTED (Or.inr ⟨(hw _ (List.mem_of_getElem? (i := 2) rfl)), (hw _ (List.mem_of_getElem? (i := 25) rfl))⟩)
  have ENOT_SUPPORTED := Exa.start vNOT_SUPPORTED x9
  obtain ⟨pNESTED, vNESTED⟩ := exa_v x12
  have SNESTED := Sta.start vNESTED (Or.inr ⟨(hw _ (List.mem_of_getElem? (i := 2) rfl)), (hw _ (List.mem_of_getElem? (i := 27) rfl))⟩)
  have ENESTED := Exa.start vNESTED x12
  obtain ⟨pNEVER, vNEVER⟩ := exa_v x15
  have SNEVER := Sta.start vNEVER (Or.inr ⟨(hw _ (List.mem_of_getElem? (i := 2) rfl)), (hw _ (List.mem_of_getElem? (i := 29) rfl))⟩)
  have ENEVER := Exa.start vNEVER x15
  obtain ⟨dREFUSE, vREFUSE⟩ := exa_v x16
  have SREFUSE := Sta.start vREFUSE (Or.inr ⟨(hw _ (List.mem_of_getElem? (i := 5) rfl)), (hw _ (List.mem_of_getElem? (i := 31) rfl))⟩)
  obtain ⟨pMANDATORY, vMANDATORY⟩ := exa_v x20
  have SMANDATORY := Sta.start vMANDATORY (Or.inr ⟨(hw _ (List.mem_of_getElem? (i := 2) rfl)), (hw _ (List.mem_of_getElem? (i := 33) rfl))⟩)
  have EMANDATORY := Exa.start vMANDATORY x20
  obtain ⟨dNEST, vNEST⟩ := exa_v x23
  have SNEST := Sta.start vNEST (Or.inr ⟨(hw _ (List.mem_of_getElem? (i := 5) rfl)), (hw _ (List.mem_of_getElem? (i := 35) rfl))⟩)
  have F1REQUIRED := own_fref vREQUIRED vJOIN x2
  have F1REQUIRES_NEW := own_fref vREQUIRES_NEW vBEGIN x5
  have F0SUPPORTS := own_fref vSUPPORTS vRUN_WITHOUT_TRANSACTION x8
  have F0NOT_SUPPORTED := own_fref vNOT_SUPPORTED vRUN_WITHOUT_TRANSACTION x10
  have F1NOT_SUPPORTED := own_fref vNOT_SUPPORTED vRUN_WITHOUT_TRANSACTION x11
  have F0NESTED := own_fref vNESTED vBEGIN x13
  have F1SUPPORTS := own_fref vSUPPORTS vJOIN x14
  have F1NEVER := own_fref vNEVER vREFUSE x17
  have F0REQUIRED := own_fref vREQUIRED vBEGIN x18
  have F0NEVER := own_fref vNEVER vRUN_WITHOUT_TRANSACTION x19
  have F0MANDATORY := own_fref vMANDATORY vREFUSE x21
  have F0REQUIRES_NEW := own_fref vREQUIRES_NEW vBEGIN x22
  have F1NESTED := own_fref vNESTED vNEST x24
  have F1MANDATORY := own_fref vMANDATORY vJOIN hn
  obtain ⟨n, o, h1, h2, h3, _, L, rfl, ⟨rfl, N⟩, hq⟩ := rm0 l s _ hw tables_1 i0 i1 pREQUIRED pSUPPORTS pMANDATORY pREQUIRES_NEW pNOT_SUPPORTED pNEVER pNESTED dJOIN dBEGIN dRUN_WITHOUT_TRANSACTION dREFUSE dNEST s.heap s.heap.size (Nat.le_refl _) SREQUIRED SSUPPORTS SMANDATORY SREQUIRES_NEW SNOT_SUPPORTED SNEVER SNESTED SJOIN SBEGIN SRUN_WITHOUT_TRANSACTION SREFUSE SNEST EREQUIRED F0REQUIRED F1REQUIRED ESUPPORTS F0SUPPORTS F1SUPPORTS EMANDATORY F0MANDATORY F1MANDATORY EREQUIRES_NEW F0REQUIRES_NEW F1REQUIRES_NEW ENOT_SUPPORTED F0NOT_SUPPORTED F1NOT_SUPPORTED ENEVER F0NEVER F1NEVER ENESTED F0NESTED F1NESTED p e ha hc hk s m _ below hf ((Spec.applies_iff_loose hf).mp happ).1 ⟨rfl, State.Warmed39.refl s, rfl⟩ trivial
  refine ⟨n, _, h1, h2, h3, hpost _ _ _ _ _ _ ⟨Cond.after_iff.mpr rfl, Cond.after_iff.mpr (eq_i res_at (Term.int_eval (1)) rfl), trivial⟩ ⟨hq.1, hq.2.1, (hq.2.2.sift fun y hy => Or.inr (N y hy)).mono (by decide) (by decide)⟩⟩
theorem main_1_1 : Claimed_1_1 := comes_1 fun _ _ _ _ _ _ h hF => ⟨h.1, hF⟩
theorem main_1_2 : Claimed_1_2 := comes_1 fun _ _ _ _ _ _ h hF => ⟨h.2.1, hF⟩
end Jvm.Pilot.@@N@@
namespace Jvm.Pilot.@@N@@
open Jvm Jvm.ClassFile Sem Op Lib Jvm.Free Jvm.Stand Jvm.Pilot.@@N@@.Jvm.D
/-! MADE BY PROGRAM (witnessworld.py) out of the Statement's table words and the real class files: 13 classes; the members and pool entries that the words name. The judged class is class 1, her method 1. -/
namespace start1
open Jvm.ClassFile
def u (s : String) : CpInfo := .utf8 (stringToUtf16 s)
/-- a pool by its gaps: so many unusable entries, then the entry; so many at the end -/
def gap : Nat → List CpInfo → List CpInfo
  | 0, r => r
  | n + 1, r => .unusable :: gap n r
def poolList (es : List (Nat × CpInfo)) (last : Nat) : List CpInfo := es.foldr (fun e r => gap e.1 (e.2 :: r)) (gap last [])
def pool (es : List (Nat × CpInfo)) (last : Nat) : Array CpInfo := ⟨poolList es last⟩
def fileOf (pool : Array CpInfo) (this : Nat) (attrs : Array Attribute := #[]) (ms : Array MethodInfo := #[]) (fl : Nat := 33) (sup : Nat := 0) (ifs : Array Nat := #[]) (fds : Array FieldInfo := #[]) : ClassFile where
  minorVersion := 0
  majorVersion := 65
  constantPool := pool
  accessFlags := fl
  thisClass := this
  superClass := sup
  interfaces := ifs
  fields := fds
  methods := ms
  attributes := attrs
def plain (name : String) (sup : Option ClassId) : Class where
  name := name
  kind := .ordinary
  loader := none
  accessFlags := 33
  super := sup
  interfaces := #[]
  cf := none
  fields := #[]
  methods := #[]
  instanceTypes := #[]
  staticTypes := #[]
  resolved := #[]
  callSites := []
  init := .initialized
  statics := none
  mirror := none

def pool0 : Array CpInfo := pool [(5, u "<init>"), (0, u "()V"), (1, .class_ 10), (1, u "java/lang/Object")] 113

def k0m0 : Method := { name := "<init>", desc := "()V", sig := { parameters := [], returnType := none }, accessFlags := 1, code := none }
/-- java/lang/Object -/
def k0 : Class := { plain "java/lang/Object" none with
  accessFlags := 33
  interfaces := #[]
  cf := some (fileOf pool0 8 #[] #[{ accessFlags := 1, nameIndex := 5, descriptorIndex := 6, attributes := #[] }] 33 0 #[] #[])
  fields := #[]
  methods := #[k0m0]
  instanceTypes := #[]
  staticTypes := #[]
  resolved := Array.replicate 124 none
  statics := none }

def pool1 : Array CpInfo := pool [(2, .class_ 4), (1, u "java/lang/Object"), (0, u "<init>"), (0, u "()V"), (0, .integer 2147483647), (0, .fieldref 9 10), (0, .class_ 11), (0, .nameAndType 12 13), (0, u "com/example/lean_tx/leantx/Propagation"), (0, u "REQUIRED"), (0, u "Lcom/example/lean_tx/leantx/Propagation;"), (0, .fieldref 15 16), (0, .class_ 17), (0, .nameAndType 18 19), (0, u "com/example/lean_tx/leantx/Propagation$Decision"), (0, u "JOIN"), (0, u "Lcom/example/lean_tx/leantx/Propagation$Decision;"), (0, .fieldref 15 21), (0, .nameAndType 22 19), (0, u "BEGIN"), (0, .fieldref 9 24), (0, .nameAndType 25 13), (0, u "SUPPORTS"), (0, .fieldref 15 27), (0, .nameAndType 28 19), (0, u "RUN_WITHOUT_TRANSACTION"), (0, .fieldref 9 30), (0, .nameAndType 31 13), (0, u "MANDATORY"), (0, .fieldref 15 33), (0, .nameAndType 34 19), (0, u "REFUSE"), (0, .fieldref 9 36), (0, .nameAndType 37 13), (0, u "REQUIRES_NEW"), (0, .fieldref 9 39), (0, .nameAndType 40 13), (0, u "NOT_SUPPORTED"), (0, .fieldref 9 42), (0, .nameAndType 43 13), (0, u "NEVER"), (0, .fieldref 9 45), (0, .nameAndType 46 13), (0, u "NESTED"), (0, .fieldref 15 48), (0, .nameAndType 49 19), (0, u "NEST"), (0, .methodref 9 51), (0, .nameAndType 52 53), (0, u "decide"), (0, u "(Z)Lcom/example/lean_tx/leantx/Propagation$Decision;"), (0, .class_ 55), (0, u "com/example/lean_tx/leantx/PropagationDecidePinLaw"), (2, u "law"), (0, u "(II)Z")] 5

def k1m0 : Method := { name := "<init>", desc := "()V", sig := { parameters := [], returnType := none }, accessFlags := 2, code := none }
def k1c1 : Code := { maxStack := 2, maxLocals := 6, code := code, exceptionTable := #[], attributes := #[] }
def k1m1 : Method := { name := "law", desc := "(II)Z", sig := { parameters := [.int, .int], returnType := some .boolean }, accessFlags := 9, code := some k1c1 }
/-- com/example/lean_tx/leantx/PropagationDecidePinLaw -/
def k1 : Class := { plain "com/example/lean_tx/leantx/PropagationDecidePinLaw" (some 0) with
  accessFlags := 49
  interfaces := #[]
  cf := some (fileOf pool1 54 #[] #[{ accessFlags := 2, nameIndex := 5, descriptorIndex := 6, attributes := #[] }, { accessFlags := 9, nameIndex := 58, descriptorIndex := 59, attributes := #[] }] 49 2 #[] #[])
  fields := #[]
  methods := #[k1m0, k1m1]
  instanceTypes := #[]
  staticTypes := #[]
  resolved := Array.replicate 65 none
  statics := none }

def pool2 : Array CpInfo := pool [(1, .class_ 2), (0, u "java/lang/constant/Constable"), (0, .class_ 4), (0, u "java/lang/Object")] 6

/-- java/lang/constant/Constable -/
def k2 : Class := { plain "java/lang/constant/Constable" (some 0) with
  accessFlags := 1537
  interfaces := #[]
  cf := some (fileOf pool2 1 #[] #[] 1537 3 #[] #[])
  fields := #[]
  methods := #[]
  instanceTypes := #[]
  staticTypes := #[]
  resolved := Array.replicate 11 none
  statics := none }

def pool3 : Array CpInfo := pool [(1, .class_ 2), (0, u "java/lang/Comparable"), (0, .class_ 4), (0, u "java/lang/Object")] 7

/-- java/lang/Comparable -/
def k3 : Class := { plain "java/lang/Comparable" (some 0) with
  accessFlags := 1537
  interfaces := #[]
  cf := some (fileOf pool3 1 #[] #[] 1537 3 #[] #[])
  fields := #[]
  methods := #[]
  instanceTypes := #[]
  staticTypes := #[]
  resolved := Array.replicate 12 none
  statics := none }

def pool4 : Array CpInfo := pool [(1, .class_ 2), (0, u "java/io/Serializable"), (0, .class_ 4), (0, u "java/lang/Object")] 2

/-- java/io/Serializable -/
def k4 : Class := { plain "java/io/Serializable" (some 0) with
  accessFlags := 1537
  interfaces := #[]
  cf := some (fileOf pool4 1 #[] #[] 1537 3 #[] #[])
  fields := #[]
  methods := #[]
  instanceTypes := #[]
  staticTypes := #[]
  resolved := Array.replicate 7 none
  statics := none }

def pool5 : Array CpInfo := pool [(2, .class_ 4), (1, u "java/lang/Enum"), (0, u "name"), (0, u "Ljava/lang/String;"), (2, u "ordinal"), (0, u "I"), (1, .class_ 14), (1, u "java/lang/Object"), (4, u "hash"), (86, .class_ 108), (1, u "java/lang/Enum$EnumDesc"), (2, .class_ 112), (0, u "java/lang/constant/Constable"), (0, .class_ 114), (0, u "java/lang/Comparable"), (0, .class_ 116), (0, u "java/io/Serializable")] 87

/-- java/lang/Enum -/
def k5 : Class := { plain "java/lang/Enum" (some 0) with
  accessFlags := 1057
  interfaces := #[2, 3, 4]
  cf := some (fileOf pool5 2 #[.nestMembers #[106]] #[] 1057 12 #[111, 113, 115] #[{ accessFlags := 18, nameIndex := 5, descriptorIndex := 6, attributes := #[] }, { accessFlags := 18, nameIndex := 9, descriptorIndex := 10, attributes := #[] }, { accessFlags := 2, nameIndex := 19, descriptorIndex := 10, attributes := #[] }])
  fields := #[{ name := "name", type := (.object "java/lang/String"), accessFlags := 18, slot := 0, constantValue := 0 }, { name := "ordinal", type := .int, accessFlags := 18, slot := 1, constantValue := 0 }, { name := "hash", type := .int, accessFlags := 2, slot := 2, constantValue := 0 }]
  methods := #[]
  instanceTypes := #[(.object "java/lang/String"), .int, .int]
  staticTypes := #[]
  resolved := Array.replicate 204 none
  statics := none }

def pool6 : Array CpInfo := pool [(1, .class_ 2), (0, u "com/example/lean_tx/leantx/Propagation"), (2, u "REQUIRED"), (0, u "Lcom/example/lean_tx/leantx/Propagation;"), (2, u "SUPPORTS"), (2, u "MANDATORY"), (2, u "REQUIRES_NEW"), (2, u "NOT_SUPPORTED"), (2, u "NEVER"), (2, u "NESTED"), (2, u "$VALUES"), (0, u "[Lcom/example/lean_tx/leantx/Propagation;"), (6, .class_ 37), (1, u "java/lang/Enum"), (6, .fieldref 1 45), (0, .nameAndType 46 47), (0, u "withOneOpen"), (0, u "Lcom/example/lean_tx/leantx/Propagation$Decision;"), (0, .fieldref 1 49), (0, .nameAndType 50 47), (0, u "withNoneOpen"), (2, .class_ 55), (1, u "com/example/lean_tx/leantx/Propagation$Decision"), (33, u "decide"), (0, u "(Z)Lcom/example/lean_tx/leantx/Propagation$Decision;")] 9

def k6c0 : Code := { maxStack := 1, maxLocals := 2, code := prog_16_method_4_code, exceptionTable := #[], attributes := #[] }
def k6m0 : Method := { name := "decide", desc := "(Z)Lcom/example/lean_tx/leantx/Propagation$Decision;", sig := { parameters := [.boolean], returnType := some (.object "com/example/lean_tx/leantx/Propagation$Decision") }, accessFlags := 0, code := some k6c0 }
/-- com/example/lean_tx/leantx/Propagation -/
def k6 : Class := { plain "com/example/lean_tx/leantx/Propagation" (some 5) with
  accessFlags := 16433
  interfaces := #[]
  cf := some (fileOf pool6 1 #[.nestMembers #[53]] #[{ accessFlags := 0, nameIndex := 89, descriptorIndex := 90, attributes := #[] }] 16433 35 #[] #[{ accessFlags := 16409, nameIndex := 5, descriptorIndex := 6, attributes := #[] }, { accessFlags := 16409, nameIndex := 9, descriptorIndex := 6, attributes := #[] }, { accessFlags := 16409, nameIndex := 12, descriptorIndex := 6, attributes := #[] }, { accessFlags := 16409, nameIndex := 15, descriptorIndex := 6, attributes := #[] }, { accessFlags := 16409, nameIndex := 18, descriptorIndex := 6, attributes := #[] }, { accessFlags := 16409, nameIndex := 21, descriptorIndex := 6, attributes := #[] }, { accessFlags := 16409, nameIndex := 24, descriptorIndex := 6, attributes := #[] }, { accessFlags := 18, nameIndex := 46, descriptorIndex := 47, attributes := #[] }, { accessFlags := 18, nameIndex := 50, descriptorIndex := 47, attributes := #[] }, { accessFlags := 4122, nameIndex := 27, descriptorIndex := 28, attributes := #[] }])
  fields := #[{ name := "REQUIRED", type := (.object "com/example/lean_tx/leantx/Propagation"), accessFlags := 16409, slot := 0, constantValue := 0 }, { name := "SUPPORTS", type := (.object "com/example/lean_tx/leantx/Propagation"), accessFlags := 16409, slot := 1, constantValue := 0 }, { name := "MANDATORY", type := (.object "com/example/lean_tx/leantx/Propagation"), accessFlags := 16409, slot := 2, constantValue := 0 }, { name := "REQUIRES_NEW", type := (.object "com/example/lean_tx/leantx/Propagation"), accessFlags := 16409, slot := 3, constantValue := 0 }, { name := "NOT_SUPPORTED", type := (.object "com/example/lean_tx/leantx/Propagation"), accessFlags := 16409, slot := 4, constantValue := 0 }, { name := "NEVER", type := (.object "com/example/lean_tx/leantx/Propagation"), accessFlags := 16409, slot := 5, constantValue := 0 }, { name := "NESTED", type := (.object "com/example/lean_tx/leantx/Propagation"), accessFlags := 16409, slot := 6, constantValue := 0 }, { name := "withOneOpen", type := (.object "com/example/lean_tx/leantx/Propagation$Decision"), accessFlags := 18, slot := 3, constantValue := 0 }, { name := "withNoneOpen", type := (.object "com/example/lean_tx/leantx/Propagation$Decision"), accessFlags := 18, slot := 4, constantValue := 0 }, { name := "$VALUES", type := (.array (.object "com/example/lean_tx/leantx/Propagation")), accessFlags := 4122, slot := 7, constantValue := 0 }]
  methods := #[k6m0]
  instanceTypes := #[(.object "java/lang/String"), .int, .int, (.object "com/example/lean_tx/leantx/Propagation$Decision"), (.object "com/example/lean_tx/leantx/Propagation$Decision")]
  staticTypes := #[(.object "com/example/lean_tx/leantx/Propagation"), (.object "com/example/lean_tx/leantx/Propagation"), (.object "com/example/lean_tx/leantx/Propagation"), (.object "com/example/lean_tx/leantx/Propagation"), (.object "com/example/lean_tx/leantx/Propagation"), (.object "com/example/lean_tx/leantx/Propagation"), (.object "com/example/lean_tx/leantx/Propagation"), (.array (.object "com/example/lean_tx/leantx/Propagation"))]
  resolved := Array.replicate 100 none
  statics := some 0 }

def pool7 : Array CpInfo := pool [(1, .class_ 2), (0, u "com/example/lean_tx/leantx/Propagation$Decision"), (2, u "BEGIN"), (0, u "Lcom/example/lean_tx/leantx/Propagation$Decision;"), (2, u "JOIN"), (2, u "NEST"), (2, u "RUN_WITHOUT_TRANSACTION"), (2, u "REFUSE"), (2, u "$VALUES"), (0, u "[Lcom/example/lean_tx/leantx/Propagation$Decision;"), (6, .class_ 31), (1, u "java/lang/Enum"), (28, .class_ 61), (0, u "com/example/lean_tx/leantx/Propagation")] 2

/-- com/example/lean_tx/leantx/Propagation$Decision -/
def k7 : Class := { plain "com/example/lean_tx/leantx/Propagation$Decision" (some 5) with
  accessFlags := 16432
  interfaces := #[]
  cf := some (fileOf pool7 1 #[.nestHost 60] #[] 16432 29 #[] #[{ accessFlags := 16409, nameIndex := 5, descriptorIndex := 6, attributes := #[] }, { accessFlags := 16409, nameIndex := 9, descriptorIndex := 6, attributes := #[] }, { accessFlags := 16409, nameIndex := 12, descriptorIndex := 6, attributes := #[] }, { accessFlags := 16409, nameIndex := 15, descriptorIndex := 6, attributes := #[] }, { accessFlags := 16409, nameIndex := 18, descriptorIndex := 6, attributes := #[] }, { accessFlags := 4122, nameIndex := 21, descriptorIndex := 22, attributes := #[] }])
  fields := #[{ name := "BEGIN", type := (.object "com/example/lean_tx/leantx/Propagation$Decision"), accessFlags := 16409, slot := 0, constantValue := 0 }, { name := "JOIN", type := (.object "com/example/lean_tx/leantx/Propagation$Decision"), accessFlags := 16409, slot := 1, constantValue := 0 }, { name := "NEST", type := (.object "com/example/lean_tx/leantx/Propagation$Decision"), accessFlags := 16409, slot := 2, constantValue := 0 }, { name := "RUN_WITHOUT_TRANSACTION", type := (.object "com/example/lean_tx/leantx/Propagation$Decision"), accessFlags := 16409, slot := 3, constantValue := 0 }, { name := "REFUSE", type := (.object "com/example/lean_tx/leantx/Propagation$Decision"), accessFlags := 16409, slot := 4, constantValue := 0 }, { name := "$VALUES", type := (.array (.object "com/example/lean_tx/leantx/Propagation$Decision")), accessFlags := 4122, slot := 5, constantValue := 0 }]
  methods := #[]
  instanceTypes := #[(.object "java/lang/String"), .int, .int]
  staticTypes := #[(.object "com/example/lean_tx/leantx/Propagation$Decision"), (.object "com/example/lean_tx/leantx/Propagation$Decision"), (.object "com/example/lean_tx/leantx/Propagation$Decision"), (.object "com/example/lean_tx/leantx/Propagation$Decision"), (.object "com/example/lean_tx/leantx/Propagation$Decision"), (.array (.object "com/example/lean_tx/leantx/Propagation$Decision"))]
  resolved := Array.replicate 64 none
  statics := some 1 }

def pool8 : Array CpInfo := pool [(1, u "java/lang/Cloneable"), (0, .class_ 1), (0, u "java/lang/Object"), (0, .class_ 3)] 3

/-- java/lang/Cloneable -/
def k8 : Class := { plain "java/lang/Cloneable" (some 0) with
  accessFlags := 1537
  interfaces := #[]
  cf := some (fileOf pool8 2 #[] #[] 1537 4 #[] #[])
  fields := #[]
  methods := #[]
  instanceTypes := #[]
  staticTypes := #[]
  resolved := Array.replicate 8 none
  statics := none }

/-- the primitive byte -/
def k9 : Class := { plain "byte" none with kind := .primitive 'B', accessFlags := 0x411 }
/-- [B -/
def k10 : Class := { plain "[B" (some 0) with kind := .array 9 .byte, interfaces := #[8, 4], accessFlags := 1041 }

/-- the primitive int -/
def k11 : Class := { plain "int" none with kind := .primitive 'I', accessFlags := 0x411 }
/-- [I -/
def k12 : Class := { plain "[I" (some 0) with kind := .array 11 .int, interfaces := #[8, 4], accessFlags := 1041 }

def heap : Heap := #[{ cls := 6, slots := #[.ref 7, .ref 8, .ref 9, .ref 10, .ref 11, .ref 12, .ref 13, .null], vm := .statics 6 },
  { cls := 7, slots := #[.ref 3, .ref 2, .ref 6, .ref 4, .ref 5, .null], vm := .statics 7 },
  { cls := 7, slots := #[.null, .int 0, .int 0], vm := .none },
  { cls := 7, slots := #[.null, .int 1, .int 0], vm := .none },
  { cls := 7, slots := #[.null, .int 2, .int 0], vm := .none },
  { cls := 7, slots := #[.null, .int 3, .int 0], vm := .none },
  { cls := 7, slots := #[.null, .int 4, .int 0], vm := .none },
  { cls := 6, slots := #[.null, .int 0, .int 0, .ref 2, .ref 3], vm := .none },
  { cls := 6, slots := #[.null, .int 1, .int 0, .ref 2, .ref 4], vm := .none },
  { cls := 6, slots := #[.null, .int 2, .int 0, .ref 2, .ref 5], vm := .none },
  { cls := 6, slots := #[.null, .int 3, .int 0, .ref 3, .ref 3], vm := .none },
  { cls := 6, slots := #[.null, .int 4, .int 0, .ref 4, .ref 4], vm := .none },
  { cls := 6, slots := #[.null, .int 5, .int 0, .ref 5, .ref 4], vm := .none },
  { cls := 6, slots := #[.null, .int 6, .int 0, .ref 6, .ref 3], vm := .none }]
def classes : Array Class := #[k0, k1, k2, k3, k4, k5, k6, k7, k8, k9, k10, k11, k12]
def interned : List (Array UInt16 × Addr) := []
def slotsUsed : Nat := 64
def theMethod : MethodId := ⟨1, 1⟩
def args0 : Array Value := #[.int 5, .int 7]
def aboutOver (below : List Frame) : State where
  vm := { classes := classes, interned := interned.toArray }
  heap := heap
  slotsUsed := slotsUsed
  threads := #[{ frames := .invoking theMethod args0 :: below }]
def below0 : List Frame := [.native { method := ⟨0, 0⟩, args := #[] }]
def about1 : State := aboutOver below0
def p0 : Program := .bare "" "" ""
def e0 : Env := launch0.env 0 0 0
theorem w_frames : about1.frames = Frame.invoking theMethod args0 :: below0 := rfl
set_option maxRecDepth 65536 in
theorem w_args : argsFit about1.vm theMethod args0 = true := by decide +kernel
set_option maxRecDepth 65536 in
theorem w_heap : heapFits about1 = true := by decide +kernel
set_option maxRecDepth 65536 in
theorem w_runnable : about1.curStatus? = some .runnable := by decide +kernel
set_option maxRecDepth 65536 in
theorem w_alone : about1.alone = true := by decide +kernel
set_option maxRecDepth 65536 in
theorem w_named : about1.methodNamed? x = some theMethod := by decide +kernel
set_option maxRecDepth 65536 in
theorem w_hears : about1.hears theMethod below0 = true := by decide +kernel
set_option maxRecDepth 65536 in
theorem w_ripe : about1.ripe theMethod args0 below0 = true := by decide +kernel
theorem w_running : about1.status = .running := rfl
set_option maxRecDepth 65536 in
theorem w_room : about1.hasRoom e0.platform room_1 = true :=
  launch0.hasRoom_least _ room_1 (by decide +kernel) (by decide +kernel) (by decide +kernel) (by decide +kernel) (by decide +kernel) (by decide +kernel)
theorem allAtoms_all (ts : List Jvm.Cond) (a : Array Jvm.Value) (st : Jvm.State) : (allAtoms ts).before a st = ts.all (fun c => c.before a st) := by
  induction ts with
  | nil => rfl
  | cons c t ih =>
    show (Jvm.Cond.and c (allAtoms t)).before a st = _
    rw [Jvm.Cond.before_and, ih, List.all_cons]
def words1 : List Jvm.Cond := Jvm.Cond.code x code maxLocals ret :: tables_1
/-- a 'code' word, met by the world's own term for the bytes: nothing is compared byte by byte -/
theorem code_word {y : MethodName} {bytes : ByteArray} {mx : Nat} {rt : Option FieldType} {a : Array Value} {s : State} {m : MethodId} {meth : Method} {c : Code} (h1 : s.methodNamed? y = some m) (h2 : s.vm.method? m = some meth) (h3 : meth.code = some c) (h4 : c.code = bytes)
    (h5 : (c.maxLocals == mx && c.exceptionTable.isEmpty && decide (c.maxStack ≤ mostOperands) && decide (meth.sig.returnType = rt) && !meth.locks && decide (parseMethodDescriptor y.desc = some meth.sig)) = true) : (Jvm.Cond.code y bytes mx rt).before a s = true := by
  simp only [Bool.and_eq_true, beq_iff_eq, Bool.not_eq_true', decide_eq_true_eq] at h5
  obtain ⟨⟨⟨⟨⟨g1, g2⟩, g3⟩, g4⟩, g5⟩, g6⟩ := h5
  simp [Cond.before, Cond.holds, Cond.value, h1, h2, h3, h4, g1, g2, g3, g4, g5, g6]
def isCode : Jvm.Cond → Bool
  | .code _ _ _ _ => true
  | _ => false
theorem all_split {L : List Jvm.Cond} {P : Jvm.Cond → Bool} (h1 : L.all (fun c => isCode c || P c) = true) (h2 : ∀ c ∈ L.filter isCode, P c = true) : L.all P = true := by
  refine List.all_eq_true.mpr fun c hc => ?_
  have h := List.all_eq_true.mp h1 c hc
  rcases Bool.eq_false_or_eq_true (isCode c) with hi | hi
  · exact h2 c (List.mem_filter.mpr ⟨hc, hi⟩)
  · simpa [hi] using h
set_option maxRecDepth 65536 in
theorem w_c0 : (Jvm.Cond.code x code maxLocals ret).before args0 about1 = true := code_word (m := ⟨1, 1⟩) (meth := k1m1) (c := k1c1) (by decide +kernel) rfl rfl rfl (by decide +kernel)
set_option maxRecDepth 65536 in
theorem w_c1 : (Jvm.Cond.code ({ cls := "com/example/lean_tx/leantx/Propagation", name := "decide", desc := "(Z)Lcom/example/lean_tx/leantx/Propagation$Decision;" } : Jvm.MethodName) prog_16_method_4_code (2 : Nat) (Option.some (Jvm.ClassFile.FieldType.object "com/example/lean_tx/leantx/Propagation$Decision"))).before args0 about1 = true := code_word (m := ⟨6, 0⟩) (meth := k6m0) (c := k6c0) (by decide +kernel) rfl rfl rfl (by decide +kernel)
def codes1 : List Jvm.Cond := [Jvm.Cond.code x code maxLocals ret, Jvm.Cond.code ({ cls := "com/example/lean_tx/leantx/Propagation", name := "decide", desc := "(Z)Lcom/example/lean_tx/leantx/Propagation$Decision;" } : Jvm.MethodName) prog_16_method_4_code (2 : Nat) (Option.some (Jvm.ClassFile.FieldType.object "com/example/lean_tx/leantx/Propagation$Decision"))]
set_option maxRecDepth 65536 in
theorem codes_eq : words1.filter isCode = codes1 := rfl
theorem w_codes : ∀ c ∈ words1.filter isCode, c.before args0 about1 = true := by
  rw [codes_eq]
  intro c hc
  simp only [codes1, List.mem_cons, List.not_mem_nil, or_false] at hc
  rcases hc with rfl | rfl
  · exact w_c0
  · exact w_c1
set_option maxRecDepth 65536 in
theorem w_t1 : (words1.take 24).all (fun c => isCode c || c.before args0 about1) = true := by decide +kernel
set_option maxRecDepth 65536 in
theorem w_t2 : (words1.drop 24).all (fun c => isCode c || c.before args0 about1) = true := by decide +kernel
theorem w_tables : (allAtoms (Jvm.Cond.code x code maxLocals ret :: tables_1)).before args0 about1 = true := by
  rw [allAtoms_all]
  show words1.all (fun c => c.before args0 about1) = true
  refine all_split ?_ w_codes
  rw [← List.take_append_drop 24 words1, List.all_append, w_t1, w_t2]
  rfl
set_option maxRecDepth 65536 in
theorem w_case : (Jvm.Cond.and given_1 narrow_1).before args0 about1 = true := by decide +kernel
theorem w_applies : (headSpec (Jvm.Cond.code x code maxLocals ret :: tables_1) room_1).applies x e0.platform about1 = true :=
  (Spec.applies_iff w_frames).mpr ⟨w_running, w_runnable, w_alone, w_named, w_hears, w_ripe, w_room, w_tables⟩
theorem atStart : AtStart classFile x code maxLocals ret World_1 tables_1 room_1 Calls_1 rest_1 Pre_1 launch0 p0 e0 about1 theMethod args0 below0 :=
  ⟨lists_1, trivial, launch0.admits_env _ _ _, launch0.least_env, fairChoices_fair.cas, fairChoices_fair.clock, w_frames, w_args, w_heap, w_applies, trivial, trivial, w_case⟩
end start1
theorem witness_1 : WitnessClaimed_1 := ⟨start1.p0, start1.e0, start1.about1, start1.theMethod, start1.args0, start1.below0, start1.atStart⟩
end Jvm.Pilot.@@N@@
