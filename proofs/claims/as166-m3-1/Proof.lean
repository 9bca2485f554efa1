import JvmDerived
import JvmDerived.Pilot.@@N@@Statement
import JvmDerived.Pilot.@@N@@Code
set_option linter.unusedVariables false
set_option linter.unusedSimpArgs false
namespace Jvm.RoadKit
open Sem ClassFile Op Lib Jvm.Stand Jvm.Free Jvm.LawKit
section Own
variable {p : Program} {l : Launch} {e : Env} {R : Room} {s : State} {m : MethodId} {args : Array Value} {below : List Frame} {meth : Method} {c : Code} {T : State} {locs : List Loc} {cells slots : Nat} {Z : State} {a0 : Array Value} {h : Heap}
/-- from T with the frame g the run comes to its end, and the end is as K says -/
def own_End (p : Program) (e : Env) (below : List Frame) (s : State) (K : Option Value → Heap → List Loc → Prop) (kc ks : Nat) (T : State) (g : JFrame) : Prop :=
  ∃ s₂ o, Steps p.tables e below (T.setTop g) s₂ ∧ s₂.status = .running ∧ Ended s₂ below o ∧ ∃ v L, o = .returned v ∧ K v s₂.heap L ∧ FrameEnd s o s₂ L kc ks
/-- what a body returns that leaves the heap as it was -/
def own_pure (r : Value) (h0 : Heap) (n0 : Nat) (v : Option Value) (h : Heap) (L : List Loc) : Prop := v = some r ∧ Fr n0 L ∧ h = h0
theorem own_go {K : Option Value → Heap → List Loc → Prop} {kc ks : Nat} {T' : State} {g g' : JFrame} (st : ∀ t, Steps p.tables e below (T'.setTop g') t → Steps p.tables e below (T.setTop g) t) (k : own_End p e below s K kc ks T' g') : own_End p e below s K kc ks T g := by
  obtain ⟨s₂, o, h1, r⟩ := k
  exact ⟨s₂, o, st _ h1, r⟩
theorem own_retW (X : Stand p l e R s m args below meth c T locs cells slots) (hx : p.tables.exec = Jvm.exec) {pc : Nat} {Ls : Array Slot} {w : Value} {t : FieldType} {i : Instr} {rest : List Value} (hret : meth.sig.returnType = some t) (hlk : meth.locks = false) (hn : narrow t w = w)
    (hi : (i = .ireturn ∧ (t = .int ∨ t = .boolean ∨ t = .byte ∨ t = .char ∨ t = .short) ∧ ∃ z, w = .int z) ∨ (i = .lreturn ∧ t = .long ∧ ∃ z, w = .long z) ∨ (i = .dreturn ∧ t = .double ∧ ∃ z, w = .double z) ∨ (i = .freturn ∧ t = .float ∧ ∃ z, w = .float z) ∨ (i = .areturn ∧ t.isReference = true ∧ w.isRef = true))
    (hd : decode c.code pc = .ok (i, 1)) {K : Option Value → Heap → List Loc → Prop} {kc ks : Nat} (hK : K (some w) T.heap locs) (h1 : cells ≤ kc) (h2 : slots ≤ ks) : own_End p e below s K kc ks T (mkF m pc Ls (w :: rest)) := by
  obtain ⟨fs, hr, hrun, hended, hW, hsame⟩ := X.leave (v := some w) (fun q => by rw [hret] at q; cases q) hlk
  exact ⟨_, _, retOut X hx hret hn hi hd hr, hrun, hended, _, _, rfl, hK, ⟨_, rfl⟩, hW, hsame.mono h1 h2⟩
theorem own_retV (X : Stand p l e R s m args below meth c T locs cells slots) (hx : p.tables.exec = Jvm.exec) {pc : Nat} {Ls : Array Slot} (hret : meth.sig.returnType = none) (hlk : meth.locks = false)
    (hd : decode c.code pc = .ok (.return_, 1)) {K : Option Value → Heap → List Loc → Prop} {kc ks : Nat} (hK : K none T.heap locs) (h1 : cells ≤ kc) (h2 : slots ≤ ks) : own_End p e below s K kc ks T (mkF m pc Ls []) := by
  obtain ⟨fs, hr, hrun, hended, hW, hsame⟩ := X.leave (v := none) (fun _ => rfl) hlk
  exact ⟨_, _, X.returnOut hx hret hd hr, hrun, hended, _, _, rfl, hK, ⟨_, rfl⟩, hW, hsame.mono h1 h2⟩
theorem own_callS (X : Stand p l e R s m args below meth c T locs cells slots) (hx : p.tables.exec = Jvm.exec) (hZ : Z.Warmed39 s.vm) {own : String} {index : Nat} {y : MethodName} {bytes : ByteArray} {maxL : Nat} {ret : Option FieldType} {rm : Room} {W : Nat} {as' : Array Value} {Q : Option Value → Heap → List Loc → Prop}
    (hown : s.vm.findClass own = some m.cls) (w1 : (Cond.methodLink own index y).before a0 Z = true) (w2 : (Cond.static y).before a0 Z = true) (w4 : (Cond.code y bytes maxL ret).before a0 Z = true) (hy : y.cls ≠ "java/lang/invoke/MethodHandle" ∧ y.cls ≠ "java/lang/invoke/VarHandle") (w3 : (Cond.initialized y.cls).before a0 Z = true)
    (hM : MetFree l y (head1 [Cond.code y bytes maxL ret] rm) (fun a U => a = as' ∧ Z.Warmed39 U.vm ∧ U.heap = h) (fun _ _ _ _ _ => True) (fun _ U o U' => ∃ v L, o = .returned v ∧ Q v U'.heap L ∧ FrameEnd U o U' L rm.cells rm.slots))
    (eT : T.heap = h) (hf : rm.frames + 1 ≤ R.frames) (hl : W + (maxL + 11) + rm.locals ≤ R.locals) {g : JFrame} (hg : g.method = m) (hsize : g.locals.size = c.maxLocals) {argsL rest : List Value} (has : argsL.toArray = as')
    (hlen : ∀ sig, parseMethodDescriptor y.desc = some sig → argsL.length = sig.parameters.length) (hstack : g.stack = argsL.reverse ++ rest) (hW : 2 * g.monitorRoom + (rest.map fun v => v.category).sum ≤ W) (hdg : decode c.code g.pc = .ok (.invokestatic index, 3)) (hc : cells + rm.cells ≤ R.cells) (hs : slots + rm.slots ≤ R.slots) :
    ∃ v T' L', Stand p l e R s m args below meth c T' (locs ++ L') (cells + rm.cells) (slots + rm.slots) ∧ Q v T'.heap L' ∧ ∀ target, Steps p.tables e below (T'.setTop { g with pc := g.pc + 3, stack := v.toList ++ rest }) target → Steps p.tables e below (T.setTop g) target := by
  obtain ⟨v, _, ⟨T', L', k', n'⟩, -, X', ⟨Lc, hQ, q1, q2, q3⟩, st⟩ := Jvm.LawKit.callS X hx (y := y) hown (mvT hZ w1) (mvT hZ w2) (mvT hZ w3) (mvT hZ w4) hy (backOf (W := W) hM hZ w4 w3 hf hl) hg hsize hlen hstack hW hdg (fun _ _ => ⟨has, eT, hc, hs⟩)
  dsimp only [Pt.U, Pt.locs, Pt.cells, Pt.slots] at X' q1 q2 q3 st hQ
  subst q1 q2 q3
  exact ⟨v, T', Lc, X', hQ, st⟩
theorem own_callN (X : Stand p l e R s m args below meth c T locs cells slots) (hx : p.tables.exec = Jvm.exec) (hZ : Z.Warmed39 s.vm) {own : String} {index : Nat} {y : MethodName} {bytes : ByteArray} {maxL : Nat} {rm : Room} {W : Nat} {as' : Array Value} {Q : Option Value → Heap → List Loc → Prop}
    (hown : s.vm.findClass own = some m.cls) (w1 : (Cond.methodLink own index y).before a0 Z = true) (w2 : (Cond.instanceMethod y).before a0 Z = true) (w4 : (Cond.code y bytes maxL none).before a0 Z = true) (hy : y.cls ≠ "java/lang/invoke/MethodHandle" ∧ y.cls ≠ "java/lang/invoke/VarHandle") (w3 : (Cond.initialized y.cls).before a0 Z = true)
    (hM : MetFree l y (head1 [Cond.code y bytes maxL none] rm) (fun a U => a = as' ∧ Z.Warmed39 U.vm ∧ U.heap = h) (fun _ _ _ _ _ => True) (fun _ U o U' => ∃ v L, o = .returned v ∧ Q v U'.heap L ∧ FrameEnd U o U' L rm.cells rm.slots))
    (eT : T.heap = h) (hf : rm.frames + 1 ≤ R.frames) (hl : W + (maxL + 11) + rm.locals ≤ R.locals) {g : JFrame} (hg : g.method = m) (hsize : g.locals.size = c.maxLocals) {argsL rest : List Value} {a : Addr} (has : (.ref a :: argsL).toArray = as') (hy1 : y.name = "<init>")
    (hlen : ∀ sig, parseMethodDescriptor y.desc = some sig → argsL.length = sig.parameters.length) (hstack : g.stack = argsL.reverse ++ .ref a :: rest) (hW : 2 * g.monitorRoom + (rest.map fun v => v.category).sum ≤ W) (hdg : decode c.code g.pc = .ok (.invokespecial index, 3)) (hc : cells + rm.cells ≤ R.cells) (hs : slots + rm.slots ≤ R.slots) :
    ∃ v T' L', Stand p l e R s m args below meth c T' (locs ++ L') (cells + rm.cells) (slots + rm.slots) ∧ Q v T'.heap L' ∧ ∀ target, Steps p.tables e below (T'.setTop { g with pc := g.pc + 3, stack := v.toList ++ rest }) target → Steps p.tables e below (T.setTop g) target := by
  obtain ⟨v, _, ⟨T', L', k', n'⟩, -, X', ⟨Lc, hQ, q1, q2, q3⟩, st⟩ := X.specialBack hx (y := y) hy1 hown (mvT hZ w1) (mvT hZ w2) (mvT hZ w4) hy (backOf (W := W) hM hZ w4 w3 hf hl) hg hsize (Steps.refl _) hlen hstack hW hdg (fun _ _ => ⟨has, eT, hc, hs⟩)
  dsimp only [Pt.U, Pt.locs, Pt.cells, Pt.slots] at X' q1 q2 q3 st hQ
  subst q1 q2 q3
  exact ⟨v, T', Lc, X', hQ, fun target k => st.trans k⟩
theorem own_callV (X : Stand p l e R s m args below meth c T locs cells slots) (hx : p.tables.exec = Jvm.exec) (hZ : Z.Warmed39 s.vm) {own C : String} {index : Nat} {y z : MethodName} {bytes : ByteArray} {maxL : Nat} {ret : Option FieldType} {rm : Room} {W : Nat} {as' : Array Value} {Q : Option Value → Heap → List Loc → Prop}
    (hown : s.vm.findClass own = some m.cls) (w1 : (Cond.methodLink own index y).before a0 Z = true) (w2 : (Cond.declares y).before a0 Z = true) (w5 : (Cond.selects C y z).before a0 Z = true) (w6 : (Cond.instanceMethod z).before a0 Z = true) {b : Addr} (E : Exa Z h b C) (w4 : (Cond.code z bytes maxL ret).before a0 Z = true) (hy : y.cls ≠ "java/lang/invoke/MethodHandle" ∧ y.cls ≠ "java/lang/invoke/VarHandle") (w3 : (Cond.initialized z.cls).before a0 Z = true)
    (hM : MetFree l z (head1 [Cond.code z bytes maxL ret] rm) (fun a U => a = as' ∧ Z.Warmed39 U.vm ∧ U.heap = h) (fun _ _ _ _ _ => True) (fun _ U o U' => ∃ v L, o = .returned v ∧ Q v U'.heap L ∧ FrameEnd U o U' L rm.cells rm.slots))
    (eT : T.heap = h) (hf : rm.frames + 1 ≤ R.frames) (hl : W + (maxL + 11) + rm.locals ≤ R.locals) {g : JFrame} (hg : g.method = m) (hsize : g.locals.size = c.maxLocals) {argsL rest : List Value} (has : (.ref b :: argsL).toArray = as') (hnf : NotFace s y)
    (hlen : ∀ sig, parseMethodDescriptor y.desc = some sig → argsL.length = sig.parameters.length) (hstack : g.stack = argsL.reverse ++ .ref b :: rest) (hW : 2 * g.monitorRoom + (rest.map fun v => v.category).sum ≤ W) (hdg : decode c.code g.pc = .ok (.invokevirtual index, 3)) (hc : cells + rm.cells ≤ R.cells) (hs : slots + rm.slots ≤ R.slots) :
    ∃ v T' L', Stand p l e R s m args below meth c T' (locs ++ L') (cells + rm.cells) (slots + rm.slots) ∧ Q v T'.heap L' ∧ ∀ target, Steps p.tables e below (T'.setTop { g with pc := g.pc + 3, stack := v.toList ++ rest }) target → Steps p.tables e below (T.setTop g) target := by
  obtain ⟨cq, kq, qa, qb, qc⟩ := isOf hZ eT E
  obtain ⟨v, _, ⟨T', L', k', n'⟩, -, X', ⟨Lc, hQ, q1, q2, q3⟩, st⟩ := X.virtualBack hx (y := y) (z := z) hown (mvT hZ w1) (mvT hZ w2) hnf (mvT hZ w5) (mvT hZ w6) hy (backOf (W := W) hM hZ w4 w3 hf hl) qa qc hg hsize (Steps.refl _) hlen hstack hW hdg (fun _ _ => ⟨has, eT, hc, hs⟩)
  dsimp only [Pt.U, Pt.locs, Pt.cells, Pt.slots] at X' q1 q2 q3 st hQ
  subst q1 q2 q3
  exact ⟨v, T', Lc, X', hQ, fun target k => st.trans k⟩
end Own
end Jvm.RoadKit
namespace Jvm.Pilot.@@N@@
open Jvm Jvm.ClassFile Sem Op Lib Jvm.Free Jvm.Stand Jvm.LawKit Jvm.RoadKit Bundle Jvm.Pilot.@@N@@.Jvm.D
def own_dig (c : Int32) : Int32 := if c < 48 then 0 else if 57 < c then 0 else 1
def own_low (c : Int32) : Int32 := if c < 97 then 0 else if 122 < c then 0 else 1
def own_alp (c : Int32) : Int32 := if c < 65 then own_low c else if 90 < c then own_low c else 1
def own_sym (c : Int32) : Int32 := if c = 33 ∨ c = 35 ∨ c = 36 ∨ c = 37 ∨ c = 38 ∨ c = 39 ∨ c = 42 ∨ c = 43 ∨ c = 45 ∨ c = 46 ∨ c = 94 ∨ c = 95 ∨ c = 96 ∨ c = 124 ∨ c = 126 then 1 else 0
def own_or (d a z : Int32) : Int32 := if d = 0 then (if a = 0 then (if z = 0 then 0 else 1) else 1) else 1
def own_tchar (c : Int32) : Int32 := own_or (own_dig c) (own_alp c) (own_sym c)
def own_tok (c : Int32) (t : Int32 → Int32) : Int32 := if c < 0 then 0 else if c < 127 then (if t c = 0 then 0 else 1) else 0
def own_law (n0 : Nat) (v : Option Value) (h : Heap) (L : List Loc) : Prop := v = some (.int 1) ∧ Fr n0 L
theorem ef_rm1 (m : MethodId) (x0 : Int32) : entryFrame m #[(.int x0)] 1 = mkF m 0 #[.val (.int x0)] [] := by first | (simp [entryFrame, mkF, argsToLocals, Value.category]; done) | rfl
theorem pn_com_example_stamped_envelope_stampedenvelope_core_MediaType : plainName "com/example/stamped_envelope/stampedenvelope/core/MediaType" = true := by first | (simp [plainName, overriddenIn]; done) | decide +kernel
theorem d1_0 : decode prog_21_method_11_code 0 = .ok (.iload_n 0, 1) := by decide +kernel
theorem d1_1 : decode prog_21_method_11_code 1 = .ok (.ifCond .lt 23, 3) := by decide +kernel
theorem d1_24 : decode prog_21_method_11_code 24 = .ok (.iconst 0, 1) := by decide +kernel
theorem d1_25 : decode prog_21_method_11_code 25 = .ok (.ireturn, 1) := by decide +kernel
theorem d1_4 : decode prog_21_method_11_code 4 = .ok (.iload_n 0, 1) := by decide +kernel
theorem d1_5 : decode prog_21_method_11_code 5 = .ok (.getstatic 110, 3) := by decide +kernel
theorem d1_8 : decode prog_21_method_11_code 8 = .ok (.arraylength, 1) := by decide +kernel
theorem d1_9 : decode prog_21_method_11_code 9 = .ok (.if_icmp .ge 15, 3) := by decide +kernel
theorem d1_12 : decode prog_21_method_11_code 12 = .ok (.getstatic 110, 3) := by decide +kernel
theorem d1_15 : decode prog_21_method_11_code 15 = .ok (.iload_n 0, 1) := by decide +kernel
theorem d1_16 : decode prog_21_method_11_code 16 = .ok (.baload, 1) := by decide +kernel
theorem d1_17 : decode prog_21_method_11_code 17 = .ok (.ifCond .eq 7, 3) := by decide +kernel
theorem d1_20 : decode prog_21_method_11_code 20 = .ok (.iconst 1, 1) := by decide +kernel
theorem d1_21 : decode prog_21_method_11_code 21 = .ok (.goto 4, 3) := by decide +kernel
set_option maxRecDepth 65536 in
set_option maxHeartbeats 40000000 in
theorem rm1 (l : Launch) (Z : State) (a0 : Array Value) (hw : ∀ d ∈ tables_1, d.before a0 Z = true) (ws : List Jvm.Cond) (p1 : Int32) (w : Addr) (cl : Cell) (tok : Int32 → Int32) (h0 : Heap) (n0 : Nat) (Z0 : n0 ≤ h0.size) (S : Sta Z h0 "com/example/stamped_envelope/stampedenvelope/core/MediaType" "TOKEN" "[Z" (.ref w)) (Ar : Arr Z h0 w cl .boolean) (Sz : cl.slots.size = (127 : Int32).toNatClampNeg) (hv : ∀ j : Int32, ¬ j < 0 → j < 127 → cl.slots[j.toNatClampNeg]? = some (.int (tok j))) :
    MetFree l (⟨"com/example/stamped_envelope/stampedenvelope/core/MediaType", "isTokenCharacter", "(I)Z"⟩ : MethodName) (head1 (Jvm.Cond.code (⟨"com/example/stamped_envelope/stampedenvelope/core/MediaType", "isTokenCharacter", "(I)Z"⟩ : MethodName) prog_21_method_11_code 1 (some .boolean) :: ws) ({ frames := 0, cells := 0, slots := 0, locals := 0 } : Room)) (fun a U => a = #[(.int p1)] ∧ Z.Warmed39 U.vm ∧ U.heap = h0) (fun _ _ _ _ _ => True) (fun _ U o U' => ∃ v L, o = .returned v ∧ own_pure (.int (own_tok p1 tok)) h0 n0 v U'.heap L ∧ FrameEnd U o U' L ({ frames := 0, cells := 0, slots := 0, locals := 0 } : Room).cells ({ frames := 0, cells := 0, slots := 0, locals := 0 } : Room).slots) := by
  refine MetFree.of_bodySF (plainFor_of_name pn_com_example_stamped_envelope_stampedenvelope_core_MediaType) hisR ?_
  intro p e s m args below meth c s₁ Bd hml0 hP hK
  obtain ⟨rfl, hZ, hh⟩ := hP
  have hx := Bd.exec
  have hby := Bd.bytes
  have hml : c.maxLocals = 1 := hml0
  have hown : s.vm.findClass "com/example/stamped_envelope/stampedenvelope/core/MediaType" = some m.cls := findClass_of_methodNamed Bd.named
  have hnm := (name_of_methodNamed Bd.named Bd.method).1
  have X0 : Stand p l e ({ frames := 0, cells := 0, slots := 0, locals := 0 } : Room) s m #[(.int p1)] below meth c s₁ [] 0 0 := Stand.of_body Bd
  have e0 : s₁.heap = h0 := by rw [← hh, Bd.state]; rfl
  have N0 := Fr.nil n0
  suffices own_main : own_End p e below s (own_pure (.int (own_tok p1 tok)) h0 n0) ({ frames := 0, cells := 0, slots := 0, locals := 0 } : Room).cells ({ frames := 0, cells := 0, slots := 0, locals := 0 } : Room).slots s₁ (mkF m 0 #[.val (.int p1)] []) by
    obtain ⟨s₂, o, k1, k2, k3, k4⟩ := own_main
    exact ⟨s₂, o, castTop (ef_rm1 m p1) k1, k2, k3, k4⟩
  show own_End _ _ _ _ _ _ _ s₁ (mkF m 0 #[.val (.int p1)] [])
  refine own_go (fun t k => XS.iloadN X0.here hx rfl (hb hby d1_0) rfl k) ?_
  show own_End _ _ _ _ _ _ _ s₁ (mkF m 1 #[.val (.int p1)] [(.int p1)])
  by_cases hc1 : p1 < (0 : Int32)
  · refine own_go (fun t k => XS.ifYes X0.here hx rfl (pc0 := 1) (pc' := 24) rfl (hb hby d1_1) rfl ((if0 _ _).trans (tlt hc1).1) (by decide) (by decide) k) ?_
    show own_End _ _ _ _ _ _ _ s₁ (mkF m 24 #[.val (.int p1)] [])
    refine own_go (fun t k => XS.iconst X0.here hx rfl (hb hby d1_24) k) ?_
    show own_End _ _ _ _ _ _ _ s₁ (mkF m 25 #[.val (.int p1)] [(.int (0 : Int32))])
    exact own_retW X0 hx Bd.returns Bd.notSynchronized rfl (Or.inl ⟨rfl, by simp, _, rfl⟩) (hb hby d1_25) ⟨by simp [own_tok, hc1], N0, e0⟩ (by decide) (by decide)
  · refine own_go (fun t k => XS.ifNo X0.here hx rfl (hb hby d1_1) rfl ((if0 _ _).trans (flt hc1).1) k) ?_
    show own_End _ _ _ _ _ _ _ s₁ (mkF m 4 #[.val (.int p1)] [])
    refine own_go (fun t k => XS.iloadN X0.here hx rfl (hb hby d1_4) rfl k) ?_
    show own_End _ _ _ _ _ _ _ s₁ (mkF m 5 #[.val (.int p1)] [(.int p1)])
    obtain ⟨T1, X1, e1, st1⟩ := getS2 X0 hx hZ hown (host := "") (Or.inl (hw _ (List.mem_of_getElem? (i := 4) rfl))) Via.refl e0 S (g := (mkF m 5 #[.val (.int p1)] [(.int p1)])) rfl (hb hby d1_5)
    refine own_go st1 ?_
    show own_End _ _ _ _ _ _ _ T1 (mkF m 8 #[.val (.int p1)] [(.ref w), (.int p1)])
    refine own_go (fun t k => X1.arraylength hx (by rw [e1]; exact Ar.1) (State.isArrayOf_alike hZ.alike Ar.2.1) (g := (mkF m 8 #[.val (.int p1)] [(.ref w), (.int p1)])) rfl rfl (hb hby d1_8) t k) ?_
    rw [len_of Sz (by decide : ¬ (127 : Int32) < 0)]
    show own_End _ _ _ _ _ _ _ T1 (mkF m 9 #[.val (.int p1)] [(.int (127 : Int32)), (.int p1)])
    by_cases hc9 : p1 < (127 : Int32)
    · refine own_go (fun t k => XS.icmpNo X1.here hx rfl (hb hby d1_9) rfl (tlt hc9).2.1 k) ?_
      show own_End _ _ _ _ _ _ _ T1 (mkF m 12 #[.val (.int p1)] [])
      obtain ⟨T2, X2, e2, st2⟩ := getS2 X1 hx hZ hown (host := "") (Or.inl (hw _ (List.mem_of_getElem? (i := 4) rfl))) Via.refl e1 S (g := (mkF m 12 #[.val (.int p1)] [])) rfl (hb hby d1_12)
      refine own_go st2 ?_
      show own_End _ _ _ _ _ _ _ T2 (mkF m 15 #[.val (.int p1)] [(.ref w)])
      refine own_go (fun t k => XS.iloadN X2.here hx rfl (hb hby d1_15) rfl k) ?_
      show own_End _ _ _ _ _ _ _ T2 (mkF m 16 #[.val (.int p1)] [(.int p1), (.ref w)])
      refine own_go (fun t k => X2.baloadBooleans hx (j := p1) (v := (.int (tok p1))) (by rw [e2]; exact Ar.1) (State.isArrayOf_alike hZ.alike Ar.2.1) Ar.2.2 (inb_of Sz ⟨hc1, hc9⟩) (hv p1 hc1 hc9) (g := (mkF m 16 #[.val (.int p1)] [(.int p1), (.ref w)])) rfl rfl (hb hby d1_16) t k) ?_
      show own_End _ _ _ _ _ _ _ T2 (mkF m 17 #[.val (.int p1)] [(.int (tok p1))])
      by_cases hc17 : (tok p1) = (0 : Int32)
      · refine own_go (fun t k => XS.ifYes X2.here hx rfl (pc0 := 17) (pc' := 24) rfl (hb hby d1_17) rfl ((if0 _ _).trans (teq hc17).1) (by decide) (by decide) k) ?_
        show own_End _ _ _ _ _ _ _ T2 (mkF m 24 #[.val (.int p1)] [])
        refine own_go (fun t k => XS.iconst X2.here hx rfl (hb hby d1_24) k) ?_
        show own_End _ _ _ _ _ _ _ T2 (mkF m 25 #[.val (.int p1)] [(.int (0 : Int32))])
        exact own_retW X2 hx Bd.returns Bd.notSynchronized rfl (Or.inl ⟨rfl, by simp, _, rfl⟩) (hb hby d1_25) ⟨by simp [own_tok, hc1, hc9, hc17], N0, e2⟩ (by decide) (by decide)
      · refine own_go (fun t k => XS.ifNo X2.here hx rfl (hb hby d1_17) rfl ((if0 _ _).trans (feq hc17).1) k) ?_
        show own_End _ _ _ _ _ _ _ T2 (mkF m 20 #[.val (.int p1)] [])
        refine own_go (fun t k => XS.iconst X2.here hx rfl (hb hby d1_20) k) ?_
        show own_End _ _ _ _ _ _ _ T2 (mkF m 21 #[.val (.int p1)] [(.int (1 : Int32))])
        refine own_go (fun t k => XS.goto X2.here hx rfl (pc0 := 21) (pc' := 25) rfl (hb hby d1_21) (by decide) (by decide) k) ?_
        show own_End _ _ _ _ _ _ _ T2 (mkF m 25 #[.val (.int p1)] [(.int (1 : Int32))])
        exact own_retW X2 hx Bd.returns Bd.notSynchronized rfl (Or.inl ⟨rfl, by simp, _, rfl⟩) (hb hby d1_25) ⟨by simp [own_tok, hc1, hc9, hc17], N0, e2⟩ (by decide) (by decide)
    · refine own_go (fun t k => XS.icmpYes X1.here hx rfl (pc0 := 9) (pc' := 24) rfl (hb hby d1_9) rfl (flt hc9).2.1 (by decide) (by decide) k) ?_
      show own_End _ _ _ _ _ _ _ T1 (mkF m 24 #[.val (.int p1)] [])
      refine own_go (fun t k => XS.iconst X1.here hx rfl (hb hby d1_24) k) ?_
      show own_End _ _ _ _ _ _ _ T1 (mkF m 25 #[.val (.int p1)] [(.int (0 : Int32))])
      exact own_retW X1 hx Bd.returns Bd.notSynchronized rfl (Or.inl ⟨rfl, by simp, _, rfl⟩) (hb hby d1_25) ⟨by simp [own_tok, hc1, hc9], N0, e1⟩ (by decide) (by decide)
theorem ef_rm2 (m : MethodId) (x0 : Int32) : entryFrame m #[(.int x0)] 4 = mkF m 0 #[.val (.int x0), .unset, .unset, .unset] [] := by first | (simp [entryFrame, mkF, argsToLocals, Value.category]; done) | rfl
theorem pn_com_example_stamped_envelope_stampedenvelope_core_MediaTypeIsTokenCharacterPinLaw : plainName "com/example/stamped_envelope/stampedenvelope/core/MediaTypeIsTokenCharacterPinLaw" = true := by first | (simp [plainName, overriddenIn]; done) | decide +kernel
theorem d2_144 : decode method_2_code 144 = .ok (.iload_n 1, 1) := by decide +kernel
theorem d2_145 : decode method_2_code 145 = .ok (.ifCond .ne 11, 3) := by decide +kernel
theorem d2_148 : decode method_2_code 148 = .ok (.iload_n 2, 1) := by decide +kernel
theorem d2_149 : decode method_2_code 149 = .ok (.ifCond .ne 7, 3) := by decide +kernel
theorem d2_152 : decode method_2_code 152 = .ok (.iload_n 3, 1) := by decide +kernel
theorem d2_153 : decode method_2_code 153 = .ok (.ifCond .eq 7, 3) := by decide +kernel
theorem d2_160 : decode method_2_code 160 = .ok (.iconst 0, 1) := by decide +kernel
theorem d2_161 : decode method_2_code 161 = .ok (.ireturn, 1) := by decide +kernel
theorem d2_156 : decode method_2_code 156 = .ok (.iconst 1, 1) := by decide +kernel
theorem d2_157 : decode method_2_code 157 = .ok (.goto 4, 3) := by decide +kernel
theorem d2_48 : decode method_2_code 48 = .ok (.iload_n 0, 1) := by decide +kernel
theorem d2_49 : decode method_2_code 49 = .ok (.bipush 33, 2) := by decide +kernel
theorem d2_51 : decode method_2_code 51 = .ok (.if_icmp .eq 87, 3) := by decide +kernel
theorem d2_138 : decode method_2_code 138 = .ok (.iconst 1, 1) := by decide +kernel
theorem d2_139 : decode method_2_code 139 = .ok (.goto 4, 3) := by decide +kernel
theorem d2_143 : decode method_2_code 143 = .ok (.istore_n 3, 1) := by decide +kernel
theorem d2_54 : decode method_2_code 54 = .ok (.iload_n 0, 1) := by decide +kernel
theorem d2_55 : decode method_2_code 55 = .ok (.bipush 35, 2) := by decide +kernel
theorem d2_57 : decode method_2_code 57 = .ok (.if_icmp .eq 81, 3) := by decide +kernel
theorem d2_60 : decode method_2_code 60 = .ok (.iload_n 0, 1) := by decide +kernel
theorem d2_61 : decode method_2_code 61 = .ok (.bipush 36, 2) := by decide +kernel
theorem d2_63 : decode method_2_code 63 = .ok (.if_icmp .eq 75, 3) := by decide +kernel
theorem d2_66 : decode method_2_code 66 = .ok (.iload_n 0, 1) := by decide +kernel
theorem d2_67 : decode method_2_code 67 = .ok (.bipush 37, 2) := by decide +kernel
theorem d2_69 : decode method_2_code 69 = .ok (.if_icmp .eq 69, 3) := by decide +kernel
theorem d2_72 : decode method_2_code 72 = .ok (.iload_n 0, 1) := by decide +kernel
theorem d2_73 : decode method_2_code 73 = .ok (.bipush 38, 2) := by decide +kernel
theorem d2_75 : decode method_2_code 75 = .ok (.if_icmp .eq 63, 3) := by decide +kernel
theorem d2_78 : decode method_2_code 78 = .ok (.iload_n 0, 1) := by decide +kernel
theorem d2_79 : decode method_2_code 79 = .ok (.bipush 39, 2) := by decide +kernel
theorem d2_81 : decode method_2_code 81 = .ok (.if_icmp .eq 57, 3) := by decide +kernel
theorem d2_84 : decode method_2_code 84 = .ok (.iload_n 0, 1) := by decide +kernel
theorem d2_85 : decode method_2_code 85 = .ok (.bipush 42, 2) := by decide +kernel
theorem d2_87 : decode method_2_code 87 = .ok (.if_icmp .eq 51, 3) := by decide +kernel
theorem d2_90 : decode method_2_code 90 = .ok (.iload_n 0, 1) := by decide +kernel
theorem d2_91 : decode method_2_code 91 = .ok (.bipush 43, 2) := by decide +kernel
theorem d2_93 : decode method_2_code 93 = .ok (.if_icmp .eq 45, 3) := by decide +kernel
theorem d2_96 : decode method_2_code 96 = .ok (.iload_n 0, 1) := by decide +kernel
theorem d2_97 : decode method_2_code 97 = .ok (.bipush 45, 2) := by decide +kernel
theorem d2_99 : decode method_2_code 99 = .ok (.if_icmp .eq 39, 3) := by decide +kernel
theorem d2_102 : decode method_2_code 102 = .ok (.iload_n 0, 1) := by decide +kernel
theorem d2_103 : decode method_2_code 103 = .ok (.bipush 46, 2) := by decide +kernel
theorem d2_105 : decode method_2_code 105 = .ok (.if_icmp .eq 33, 3) := by decide +kernel
theorem d2_108 : decode method_2_code 108 = .ok (.iload_n 0, 1) := by decide +kernel
theorem d2_109 : decode method_2_code 109 = .ok (.bipush 94, 2) := by decide +kernel
theorem d2_111 : decode method_2_code 111 = .ok (.if_icmp .eq 27, 3) := by decide +kernel
theorem d2_114 : decode method_2_code 114 = .ok (.iload_n 0, 1) := by decide +kernel
theorem d2_115 : decode method_2_code 115 = .ok (.bipush 95, 2) := by decide +kernel
theorem d2_117 : decode method_2_code 117 = .ok (.if_icmp .eq 21, 3) := by decide +kernel
theorem d2_120 : decode method_2_code 120 = .ok (.iload_n 0, 1) := by decide +kernel
theorem d2_121 : decode method_2_code 121 = .ok (.bipush 96, 2) := by decide +kernel
theorem d2_123 : decode method_2_code 123 = .ok (.if_icmp .eq 15, 3) := by decide +kernel
theorem d2_126 : decode method_2_code 126 = .ok (.iload_n 0, 1) := by decide +kernel
theorem d2_127 : decode method_2_code 127 = .ok (.bipush 124, 2) := by decide +kernel
theorem d2_129 : decode method_2_code 129 = .ok (.if_icmp .eq 9, 3) := by decide +kernel
theorem d2_132 : decode method_2_code 132 = .ok (.iload_n 0, 1) := by decide +kernel
theorem d2_133 : decode method_2_code 133 = .ok (.bipush 126, 2) := by decide +kernel
theorem d2_135 : decode method_2_code 135 = .ok (.if_icmp .ne 7, 3) := by decide +kernel
theorem d2_142 : decode method_2_code 142 = .ok (.iconst 0, 1) := by decide +kernel
theorem d2_18 : decode method_2_code 18 = .ok (.iload_n 0, 1) := by decide +kernel
theorem d2_19 : decode method_2_code 19 = .ok (.bipush 65, 2) := by decide +kernel
theorem d2_21 : decode method_2_code 21 = .ok (.if_icmp .lt 9, 3) := by decide +kernel
theorem d2_30 : decode method_2_code 30 = .ok (.iload_n 0, 1) := by decide +kernel
theorem d2_31 : decode method_2_code 31 = .ok (.bipush 97, 2) := by decide +kernel
theorem d2_33 : decode method_2_code 33 = .ok (.if_icmp .lt 13, 3) := by decide +kernel
theorem d2_46 : decode method_2_code 46 = .ok (.iconst 0, 1) := by decide +kernel
theorem d2_47 : decode method_2_code 47 = .ok (.istore_n 2, 1) := by decide +kernel
theorem d2_36 : decode method_2_code 36 = .ok (.iload_n 0, 1) := by decide +kernel
theorem d2_37 : decode method_2_code 37 = .ok (.bipush 122, 2) := by decide +kernel
theorem d2_39 : decode method_2_code 39 = .ok (.if_icmp .gt 7, 3) := by decide +kernel
theorem d2_42 : decode method_2_code 42 = .ok (.iconst 1, 1) := by decide +kernel
theorem d2_43 : decode method_2_code 43 = .ok (.goto 4, 3) := by decide +kernel
theorem d2_24 : decode method_2_code 24 = .ok (.iload_n 0, 1) := by decide +kernel
theorem d2_25 : decode method_2_code 25 = .ok (.bipush 90, 2) := by decide +kernel
theorem d2_27 : decode method_2_code 27 = .ok (.if_icmp .le 15, 3) := by decide +kernel
theorem d2_0 : decode method_2_code 0 = .ok (.iload_n 0, 1) := by decide +kernel
theorem d2_1 : decode method_2_code 1 = .ok (.bipush 48, 2) := by decide +kernel
theorem d2_3 : decode method_2_code 3 = .ok (.if_icmp .lt 13, 3) := by decide +kernel
theorem d2_16 : decode method_2_code 16 = .ok (.iconst 0, 1) := by decide +kernel
theorem d2_17 : decode method_2_code 17 = .ok (.istore_n 1, 1) := by decide +kernel
theorem d2_6 : decode method_2_code 6 = .ok (.iload_n 0, 1) := by decide +kernel
theorem d2_7 : decode method_2_code 7 = .ok (.bipush 57, 2) := by decide +kernel
theorem d2_9 : decode method_2_code 9 = .ok (.if_icmp .gt 7, 3) := by decide +kernel
theorem d2_12 : decode method_2_code 12 = .ok (.iconst 1, 1) := by decide +kernel
theorem d2_13 : decode method_2_code 13 = .ok (.goto 4, 3) := by decide +kernel
set_option maxRecDepth 65536 in
set_option maxHeartbeats 40000000 in
theorem rm2 (l : Launch) (Z : State) (a0 : Array Value) (hw : ∀ d ∈ tables_1, d.before a0 Z = true) (ws : List Jvm.Cond) (p1 : Int32) (h0 : Heap) (n0 : Nat) (Z0 : n0 ≤ h0.size)  :
    MetFree l (⟨"com/example/stamped_envelope/stampedenvelope/core/MediaTypeIsTokenCharacterPinLaw", "tchar", "(I)Z"⟩ : MethodName) (head1 (Jvm.Cond.code (⟨"com/example/stamped_envelope/stampedenvelope/core/MediaTypeIsTokenCharacterPinLaw", "tchar", "(I)Z"⟩ : MethodName) method_2_code 4 (some .boolean) :: ws) ({ frames := 0, cells := 0, slots := 0, locals := 0 } : Room)) (fun a U => a = #[(.int p1)] ∧ Z.Warmed39 U.vm ∧ U.heap = h0) (fun _ _ _ _ _ => True) (fun _ U o U' => ∃ v L, o = .returned v ∧ own_pure (.int (own_tchar p1)) h0 n0 v U'.heap L ∧ FrameEnd U o U' L ({ frames := 0, cells := 0, slots := 0, locals := 0 } : Room).cells ({ frames := 0, cells := 0, slots := 0, locals := 0 } : Room).slots) := by
  refine MetFree.of_bodySF (plainFor_of_name pn_com_example_stamped_envelope_stampedenvelope_core_MediaTypeIsTokenCharacterPinLaw) hisR ?_
  intro p e s m args below meth c s₁ Bd hml0 hP hK
  obtain ⟨rfl, hZ, hh⟩ := hP
  have hx := Bd.exec
  have hby := Bd.bytes
  have hml : c.maxLocals = 4 := hml0
  have hown : s.vm.findClass "com/example/stamped_envelope/stampedenvelope/core/MediaTypeIsTokenCharacterPinLaw" = some m.cls := findClass_of_methodNamed Bd.named
  have hnm := (name_of_methodNamed Bd.named Bd.method).1
  have X0 : Stand p l e ({ frames := 0, cells := 0, slots := 0, locals := 0 } : Room) s m #[(.int p1)] below meth c s₁ [] 0 0 := Stand.of_body Bd
  have e0 : s₁.heap = h0 := by rw [← hh, Bd.state]; rfl
  have N0 := Fr.nil n0
  suffices own_main : own_End p e below s (own_pure (.int (own_tchar p1)) h0 n0) ({ frames := 0, cells := 0, slots := 0, locals := 0 } : Room).cells ({ frames := 0, cells := 0, slots := 0, locals := 0 } : Room).slots s₁ (mkF m 0 #[.val (.int p1), .unset, .unset, .unset] []) by
    obtain ⟨s₂, o, k1, k2, k3, k4⟩ := own_main
    exact ⟨s₂, o, castTop (ef_rm2 m p1) k1, k2, k3, k4⟩
  have j144 : ∀ (d a z : Int32), own_or d a z = own_tchar p1 → own_End p e below s (own_pure (.int (own_tchar p1)) h0 n0) ({ frames := 0, cells := 0, slots := 0, locals := 0 } : Room).cells ({ frames := 0, cells := 0, slots := 0, locals := 0 } : Room).slots s₁ (mkF m 144 #[.val (.int p1), .val (.int d), .val (.int a), .val (.int z)] []) := by
    intro d a z hq
    show own_End _ _ _ _ _ _ _ s₁ (mkF m 144 #[.val (.int p1), .val (.int d), .val (.int a), .val (.int z)] [])
    refine own_go (fun t k => XS.iloadN X0.here hx rfl (hb hby d2_144) rfl k) ?_
    show own_End _ _ _ _ _ _ _ s₁ (mkF m 145 #[.val (.int p1), .val (.int d), .val (.int a), .val (.int z)] [(.int d)])
    by_cases hc145j144 : d = (0 : Int32)
    · refine own_go (fun t k => XS.ifNo X0.here hx rfl (hb hby d2_145) rfl ((if0 _ _).trans (teq hc145j144).2) k) ?_
      show own_End _ _ _ _ _ _ _ s₁ (mkF m 148 #[.val (.int p1), .val (.int d), .val (.int a), .val (.int z)] [])
      refine own_go (fun t k => XS.iloadN X0.here hx rfl (hb hby d2_148) rfl k) ?_
      show own_End _ _ _ _ _ _ _ s₁ (mkF m 149 #[.val (.int p1), .val (.int d), .val (.int a), .val (.int z)] [(.int a)])
      by_cases hc149j144 : a = (0 : Int32)
      · refine own_go (fun t k => XS.ifNo X0.here hx rfl (hb hby d2_149) rfl ((if0 _ _).trans (teq hc149j144).2) k) ?_
        show own_End _ _ _ _ _ _ _ s₁ (mkF m 152 #[.val (.int p1), .val (.int d), .val (.int a), .val (.int z)] [])
        refine own_go (fun t k => XS.iloadN X0.here hx rfl (hb hby d2_152) rfl k) ?_
        show own_End _ _ _ _ _ _ _ s₁ (mkF m 153 #[.val (.int p1), .val (.int d), .val (.int a), .val (.int z)] [(.int z)])
        by_cases hc153j144 : z = (0 : Int32)
        · refine own_go (fun t k => XS.ifYes X0.here hx rfl (pc0 := 153) (pc' := 160) rfl (hb hby d2_153) rfl ((if0 _ _).trans (teq hc153j144).1) (by decide) (by decide) k) ?_
          show own_End _ _ _ _ _ _ _ s₁ (mkF m 160 #[.val (.int p1), .val (.int d), .val (.int a), .val (.int z)] [])
          refine own_go (fun t k => XS.iconst X0.here hx rfl (hb hby d2_160) k) ?_
          show own_End _ _ _ _ _ _ _ s₁ (mkF m 161 #[.val (.int p1), .val (.int d), .val (.int a), .val (.int z)] [(.int (0 : Int32))])
          exact own_retW X0 hx Bd.returns Bd.notSynchronized rfl (Or.inl ⟨rfl, by simp, _, rfl⟩) (hb hby d2_161) ⟨by rw [← hq]; simp [own_or, hc145j144, hc149j144, hc153j144], N0, e0⟩ (by decide) (by decide)
        · refine own_go (fun t k => XS.ifNo X0.here hx rfl (hb hby d2_153) rfl ((if0 _ _).trans (feq hc153j144).1) k) ?_
          show own_End _ _ _ _ _ _ _ s₁ (mkF m 156 #[.val (.int p1), .val (.int d), .val (.int a), .val (.int z)] [])
          refine own_go (fun t k => XS.iconst X0.here hx rfl (hb hby d2_156) k) ?_
          show own_End _ _ _ _ _ _ _ s₁ (mkF m 157 #[.val (.int p1), .val (.int d), .val (.int a), .val (.int z)] [(.int (1 : Int32))])
          refine own_go (fun t k => XS.goto X0.here hx rfl (pc0 := 157) (pc' := 161) rfl (hb hby d2_157) (by decide) (by decide) k) ?_
          show own_End _ _ _ _ _ _ _ s₁ (mkF m 161 #[.val (.int p1), .val (.int d), .val (.int a), .val (.int z)] [(.int (1 : Int32))])
          exact own_retW X0 hx Bd.returns Bd.notSynchronized rfl (Or.inl ⟨rfl, by simp, _, rfl⟩) (hb hby d2_161) ⟨by rw [← hq]; simp [own_or, hc145j144, hc149j144, hc153j144], N0, e0⟩ (by decide) (by decide)
      · refine own_go (fun t k => XS.ifYes X0.here hx rfl (pc0 := 149) (pc' := 156) rfl (hb hby d2_149) rfl ((if0 _ _).trans (feq hc149j144).2) (by decide) (by decide) k) ?_
        show own_End _ _ _ _ _ _ _ s₁ (mkF m 156 #[.val (.int p1), .val (.int d), .val (.int a), .val (.int z)] [])
        refine own_go (fun t k => XS.iconst X0.here hx rfl (hb hby d2_156) k) ?_
        show own_End _ _ _ _ _ _ _ s₁ (mkF m 157 #[.val (.int p1), .val (.int d), .val (.int a), .val (.int z)] [(.int (1 : Int32))])
        refine own_go (fun t k => XS.goto X0.here hx rfl (pc0 := 157) (pc' := 161) rfl (hb hby d2_157) (by decide) (by decide) k) ?_
        show own_End _ _ _ _ _ _ _ s₁ (mkF m 161 #[.val (.int p1), .val (.int d), .val (.int a), .val (.int z)] [(.int (1 : Int32))])
        exact own_retW X0 hx Bd.returns Bd.notSynchronized rfl (Or.inl ⟨rfl, by simp, _, rfl⟩) (hb hby d2_161) ⟨by rw [← hq]; simp [own_or, hc145j144, hc149j144], N0, e0⟩ (by decide) (by decide)
    · refine own_go (fun t k => XS.ifYes X0.here hx rfl (pc0 := 145) (pc' := 156) rfl (hb hby d2_145) rfl ((if0 _ _).trans (feq hc145j144).2) (by decide) (by decide) k) ?_
      show own_End _ _ _ _ _ _ _ s₁ (mkF m 156 #[.val (.int p1), .val (.int d), .val (.int a), .val (.int z)] [])
      refine own_go (fun t k => XS.iconst X0.here hx rfl (hb hby d2_156) k) ?_
      show own_End _ _ _ _ _ _ _ s₁ (mkF m 157 #[.val (.int p1), .val (.int d), .val (.int a), .val (.int z)] [(.int (1 : Int32))])
      refine own_go (fun t k => XS.goto X0.here hx rfl (pc0 := 157) (pc' := 161) rfl (hb hby d2_157) (by decide) (by decide) k) ?_
      show own_End _ _ _ _ _ _ _ s₁ (mkF m 161 #[.val (.int p1), .val (.int d), .val (.int a), .val (.int z)] [(.int (1 : Int32))])
      exact own_retW X0 hx Bd.returns Bd.notSynchronized rfl (Or.inl ⟨rfl, by simp, _, rfl⟩) (hb hby d2_161) ⟨by rw [← hq]; simp [own_or, hc145j144], N0, e0⟩ (by decide) (by decide)
  have j48 : ∀ (d a : Int32), d = own_dig p1 → a = own_alp p1 → own_End p e below s (own_pure (.int (own_tchar p1)) h0 n0) ({ frames := 0, cells := 0, slots := 0, locals := 0 } : Room).cells ({ frames := 0, cells := 0, slots := 0, locals := 0 } : Room).slots s₁ (mkF m 48 #[.val (.int p1), .val (.int d), .val (.int a), .unset] []) := by
    intro d a hd ha
    show own_End _ _ _ _ _ _ _ s₁ (mkF m 48 #[.val (.int p1), .val (.int d), .val (.int a), .unset] [])
    refine own_go (fun t k => XS.iloadN X0.here hx rfl (hb hby d2_48) rfl k) ?_
    show own_End _ _ _ _ _ _ _ s₁ (mkF m 49 #[.val (.int p1), .val (.int d), .val (.int a), .unset] [(.int p1)])
    refine own_go (fun t k => XS.bipush X0.here hx rfl (hb hby d2_49) k) ?_
    show own_End _ _ _ _ _ _ _ s₁ (mkF m 51 #[.val (.int p1), .val (.int d), .val (.int a), .unset] [(.int (33 : Int32)), (.int p1)])
    by_cases hc51j48 : p1 = (33 : Int32)
    · refine own_go (fun t k => XS.icmpYes X0.here hx rfl (pc0 := 51) (pc' := 138) rfl (hb hby d2_51) rfl (teq hc51j48).1 (by decide) (by decide) k) ?_
      show own_End _ _ _ _ _ _ _ s₁ (mkF m 138 #[.val (.int p1), .val (.int d), .val (.int a), .unset] [])
      refine own_go (fun t k => XS.iconst X0.here hx rfl (hb hby d2_138) k) ?_
      show own_End _ _ _ _ _ _ _ s₁ (mkF m 139 #[.val (.int p1), .val (.int d), .val (.int a), .unset] [(.int (1 : Int32))])
      refine own_go (fun t k => XS.goto X0.here hx rfl (pc0 := 139) (pc' := 143) rfl (hb hby d2_139) (by decide) (by decide) k) ?_
      show own_End _ _ _ _ _ _ _ s₁ (mkF m 143 #[.val (.int p1), .val (.int d), .val (.int a), .unset] [(.int (1 : Int32))])
      refine own_go (fun t k => XS.istoreN X0.here hx rfl (hb hby d2_143) rfl (l' := #[.val (.int p1), .val (.int d), .val (.int a), .val (.int (1 : Int32))]) rfl k) ?_
      exact j144 d a (1 : Int32) (by unfold own_tchar; rw [← hd, ← ha, show own_sym p1 = (1 : Int32) from by simp [own_sym, hc51j48]])
    · refine own_go (fun t k => XS.icmpNo X0.here hx rfl (hb hby d2_51) rfl (feq hc51j48).1 k) ?_
      show own_End _ _ _ _ _ _ _ s₁ (mkF m 54 #[.val (.int p1), .val (.int d), .val (.int a), .unset] [])
      refine own_go (fun t k => XS.iloadN X0.here hx rfl (hb hby d2_54) rfl k) ?_
      show own_End _ _ _ _ _ _ _ s₁ (mkF m 55 #[.val (.int p1), .val (.int d), .val (.int a), .unset] [(.int p1)])
      refine own_go (fun t k => XS.bipush X0.here hx rfl (hb hby d2_55) k) ?_
      show own_End _ _ _ _ _ _ _ s₁ (mkF m 57 #[.val (.int p1), .val (.int d), .val (.int a), .unset] [(.int (35 : Int32)), (.int p1)])
      by_cases hc57j48 : p1 = (35 : Int32)
      · refine own_go (fun t k => XS.icmpYes X0.here hx rfl (pc0 := 57) (pc' := 138) rfl (hb hby d2_57) rfl (teq hc57j48).1 (by decide) (by decide) k) ?_
        show own_End _ _ _ _ _ _ _ s₁ (mkF m 138 #[.val (.int p1), .val (.int d), .val (.int a), .unset] [])
        refine own_go (fun t k => XS.iconst X0.here hx rfl (hb hby d2_138) k) ?_
        show own_End _ _ _ _ _ _ _ s₁ (mkF m 139 #[.val (.int p1), .val (.int d), .val (.int a), .unset] [(.int (1 : Int32))])
        refine own_go (fun t k => XS.goto X0.here hx rfl (pc0 := 139) (pc' := 143) rfl (hb hby d2_139) (by decide) (by decide) k) ?_
        show own_End _ _ _ _ _ _ _ s₁ (mkF m 143 #[.val (.int p1), .val (.int d), .val (.int a), .unset] [(.int (1 : Int32))])
        refine own_go (fun t k => XS.istoreN X0.here hx rfl (hb hby d2_143) rfl (l' := #[.val (.int p1), .val (.int d), .val (.int a), .val (.int (1 : Int32))]) rfl k) ?_
        exact j144 d a (1 : Int32) (by unfold own_tchar; rw [← hd, ← ha, show own_sym p1 = (1 : Int32) from by simp [own_sym, hc51j48, hc57j48]])
      · refine own_go (fun t k => XS.icmpNo X0.here hx rfl (hb hby d2_57) rfl (feq hc57j48).1 k) ?_
        show own_End _ _ _ _ _ _ _ s₁ (mkF m 60 #[.val (.int p1), .val (.int d), .val (.int a), .unset] [])
        refine own_go (fun t k => XS.iloadN X0.here hx rfl (hb hby d2_60) rfl k) ?_
        show own_End _ _ _ _ _ _ _ s₁ (mkF m 61 #[.val (.int p1), .val (.int d), .val (.int a), .unset] [(.int p1)])
        refine own_go (fun t k => XS.bipush X0.here hx rfl (hb hby d2_61) k) ?_
        show own_End _ _ _ _ _ _ _ s₁ (mkF m 63 #[.val (.int p1), .val (.int d), .val (.int a), .unset] [(.int (36 : Int32)), (.int p1)])
        by_cases hc63j48 : p1 = (36 : Int32)
        · refine own_go (fun t k => XS.icmpYes X0.here hx rfl (pc0 := 63) (pc' := 138) rfl (hb hby d2_63) rfl (teq hc63j48).1 (by decide) (by decide) k) ?_
          show own_End _ _ _ _ _ _ _ s₁ (mkF m 138 #[.val (.int p1), .val (.int d), .val (.int a), .unset] [])
          refine own_go (fun t k => XS.iconst X0.here hx rfl (hb hby d2_138) k) ?_
          show own_End _ _ _ _ _ _ _ s₁ (mkF m 139 #[.val (.int p1), .val (.int d), .val (.int a), .unset] [(.int (1 : Int32))])
          refine own_go (fun t k => XS.goto X0.here hx rfl (pc0 := 139) (pc' := 143) rfl (hb hby d2_139) (by decide) (by decide) k) ?_
          show own_End _ _ _ _ _ _ _ s₁ (mkF m 143 #[.val (.int p1), .val (.int d), .val (.int a), .unset] [(.int (1 : Int32))])
          refine own_go (fun t k => XS.istoreN X0.here hx rfl (hb hby d2_143) rfl (l' := #[.val (.int p1), .val (.int d), .val (.int a), .val (.int (1 : Int32))]) rfl k) ?_
          exact j144 d a (1 : Int32) (by unfold own_tchar; rw [← hd, ← ha, show own_sym p1 = (1 : Int32) from by simp [own_sym, hc51j48, hc57j48, hc63j48]])
        · refine own_go (fun t k => XS.icmpNo X0.here hx rfl (hb hby d2_63) rfl (feq hc63j48).1 k) ?_
          show own_End _ _ _ _ _ _ _ s₁ (mkF m 66 #[.val (.int p1), .val (.int d), .val (.int a), .unset] [])
          refine own_go (fun t k => XS.iloadN X0.here hx rfl (hb hby d2_66) rfl k) ?_
          show own_End _ _ _ _ _ _ _ s₁ (mkF m 67 #[.val (.int p1), .val (.int d), .val (.int a), .unset] [(.int p1)])
          refine own_go (fun t k => XS.bipush X0.here hx rfl (hb hby d2_67) k) ?_
          show own_End _ _ _ _ _ _ _ s₁ (mkF m 69 #[.val (.int p1), .val (.int d), .val (.int a), .unset] [(.int (37 : Int32)), (.int p1)])
          by_cases hc69j48 : p1 = (37 : Int32)
          · refine own_go (fun t k => XS.icmpYes X0.here hx rfl (pc0 := 69) (pc' := 138) rfl (hb hby d2_69) rfl (teq hc69j48).1 (by decide) (by decide) k) ?_
            show own_End _ _ _ _ _ _ _ s₁ (mkF m 138 #[.val (.int p1), .val (.int d), .val (.int a), .unset] [])
            refine own_go (fun t k => XS.iconst X0.here hx rfl (hb hby d2_138) k) ?_
            show own_End _ _ _ _ _ _ _ s₁ (mkF m 139 #[.val (.int p1), .val (.int d), .val (.int a), .unset] [(.int (1 : Int32))])
            refine own_go (fun t k => XS.goto X0.here hx rfl (pc0 := 139) (pc' := 143) rfl (hb hby d2_139) (by decide) (by decide) k) ?_
            show own_End _ _ _ _ _ _ _ s₁ (mkF m 143 #[.val (.int p1), .val (.int d), .val (.int a), .unset] [(.int (1 : Int32))])
            refine own_go (fun t k => XS.istoreN X0.here hx rfl (hb hby d2_143) rfl (l' := #[.val (.int p1), .val (.int d), .val (.int a), .val (.int (1 : Int32))]) rfl k) ?_
            exact j144 d a (1 : Int32) (by unfold own_tchar; rw [← hd, ← ha, show own_sym p1 = (1 : Int32) from by simp [own_sym, hc51j48, hc57j48, hc63j48, hc69j48]])
          · refine own_go (fun t k => XS.icmpNo X0.here hx rfl (hb hby d2_69) rfl (feq hc69j48).1 k) ?_
            show own_End _ _ _ _ _ _ _ s₁ (mkF m 72 #[.val (.int p1), .val (.int d), .val (.int a), .unset] [])
            refine own_go (fun t k => XS.iloadN X0.here hx rfl (hb hby d2_72) rfl k) ?_
            show own_End _ _ _ _ _ _ _ s₁ (mkF m 73 #[.val (.int p1), .val (.int d), .val (.int a), .unset] [(.int p1)])
            refine own_go (fun t k => XS.bipush X0.here hx rfl (hb hby d2_73) k) ?_
            show own_End _ _ _ _ _ _ _ s₁ (mkF m 75 #[.val (.int p1), .val (.int d), .val (.int a), .unset] [(.int (38 : Int32)), (.int p1)])
            by_cases hc75j48 : p1 = (38 : Int32)
            · refine own_go (fun t k => XS.icmpYes X0.here hx rfl (pc0 := 75) (pc' := 138) rfl (hb hby d2_75) rfl (teq hc75j48).1 (by decide) (by decide) k) ?_
              show own_End _ _ _ _ _ _ _ s₁ (mkF m 138 #[.val (.int p1), .val (.int d), .val (.int a), .unset] [])
              refine own_go (fun t k => XS.iconst X0.here hx rfl (hb hby d2_138) k) ?_
              show own_End _ _ _ _ _ _ _ s₁ (mkF m 139 #[.val (.int p1), .val (.int d), .val (.int a), .unset] [(.int (1 : Int32))])
              refine own_go (fun t k => XS.goto X0.here hx rfl (pc0 := 139) (pc' := 143) rfl (hb hby d2_139) (by decide) (by decide) k) ?_
              show own_End _ _ _ _ _ _ _ s₁ (mkF m 143 #[.val (.int p1), .val (.int d), .val (.int a), .unset] [(.int (1 : Int32))])
              refine own_go (fun t k => XS.istoreN X0.here hx rfl (hb hby d2_143) rfl (l' := #[.val (.int p1), .val (.int d), .val (.int a), .val (.int (1 : Int32))]) rfl k) ?_
              exact j144 d a (1 : Int32) (by unfold own_tchar; rw [← hd, ← ha, show own_sym p1 = (1 : Int32) from by simp [own_sym, hc51j48, hc57j48, hc63j48, hc69j48, hc75j48]])
            · refine own_go (fun t k => XS.icmpNo X0.here hx rfl (hb hby d2_75) rfl (feq hc75j48).1 k) ?_
              show own_End _ _ _ _ _ _ _ s₁ (mkF m 78 #[.val (.int p1), .val (.int d), .val (.int a), .unset] [])
              refine own_go (fun t k => XS.iloadN X0.here hx rfl (hb hby d2_78) rfl k) ?_
              show own_End _ _ _ _ _ _ _ s₁ (mkF m 79 #[.val (.int p1), .val (.int d), .val (.int a), .unset] [(.int p1)])
              refine own_go (fun t k => XS.bipush X0.here hx rfl (hb hby d2_79) k) ?_
              show own_End _ _ _ _ _ _ _ s₁ (mkF m 81 #[.val (.int p1), .val (.int d), .val (.int a), .unset] [(.int (39 : Int32)), (.int p1)])
              by_cases hc81j48 : p1 = (39 : Int32)
              · refine own_go (fun t k => XS.icmpYes X0.here hx rfl (pc0 := 81) (pc' := 138) rfl (hb hby d2_81) rfl (teq hc81j48).1 (by decide) (by decide) k) ?_
                show own_End _ _ _ _ _ _ _ s₁ (mkF m 138 #[.val (.int p1), .val (.int d), .val (.int a), .unset] [])
                refine own_go (fun t k => XS.iconst X0.here hx rfl (hb hby d2_138) k) ?_
                show own_End _ _ _ _ _ _ _ s₁ (mkF m 139 #[.val (.int p1), .val (.int d), .val (.int a), .unset] [(.int (1 : Int32))])
                refine own_go (fun t k => XS.goto X0.here hx rfl (pc0 := 139) (pc' := 143) rfl (hb hby d2_139) (by decide) (by decide) k) ?_
                show own_End _ _ _ _ _ _ _ s₁ (mkF m 143 #[.val (.int p1), .val (.int d), .val (.int a), .unset] [(.int (1 : Int32))])
                refine own_go (fun t k => XS.istoreN X0.here hx rfl (hb hby d2_143) rfl (l' := #[.val (.int p1), .val (.int d), .val (.int a), .val (.int (1 : Int32))]) rfl k) ?_
                exact j144 d a (1 : Int32) (by unfold own_tchar; rw [← hd, ← ha, show own_sym p1 = (1 : Int32) from by simp [own_sym, hc51j48, hc57j48, hc63j48, hc69j48, hc75j48, hc81j48]])
              · refine own_go (fun t k => XS.icmpNo X0.here hx rfl (hb hby d2_81) rfl (feq hc81j48).1 k) ?_
                show own_End _ _ _ _ _ _ _ s₁ (mkF m 84 #[.val (.int p1), .val (.int d), .val (.int a), .unset] [])
                refine own_go (fun t k => XS.iloadN X0.here hx rfl (hb hby d2_84) rfl k) ?_
                show own_End _ _ _ _ _ _ _ s₁ (mkF m 85 #[.val (.int p1), .val (.int d), .val (.int a), .unset] [(.int p1)])
                refine own_go (fun t k => XS.bipush X0.here hx rfl (hb hby d2_85) k) ?_
                show own_End _ _ _ _ _ _ _ s₁ (mkF m 87 #[.val (.int p1), .val (.int d), .val (.int a), .unset] [(.int (42 : Int32)), (.int p1)])
                by_cases hc87j48 : p1 = (42 : Int32)
                · refine own_go (fun t k => XS.icmpYes X0.here hx rfl (pc0 := 87) (pc' := 138) rfl (hb hby d2_87) rfl (teq hc87j48).1 (by decide) (by decide) k) ?_
                  show own_End _ _ _ _ _ _ _ s₁ (mkF m 138 #[.val (.int p1), .val (.int d), .val (.int a), .unset] [])
                  refine own_go (fun t k => XS.iconst X0.here hx rfl (hb hby d2_138) k) ?_
                  show own_End _ _ _ _ _ _ _ s₁ (mkF m 139 #[.val (.int p1), .val (.int d), .val (.int a), .unset] [(.int (1 : Int32))])
                  refine own_go (fun t k => XS.goto X0.here hx rfl (pc0 := 139) (pc' := 143) rfl (hb hby d2_139) (by decide) (by decide) k) ?_
                  show own_End _ _ _ _ _ _ _ s₁ (mkF m 143 #[.val (.int p1), .val (.int d), .val (.int a), .unset] [(.int (1 : Int32))])
                  refine own_go (fun t k => XS.istoreN X0.here hx rfl (hb hby d2_143) rfl (l' := #[.val (.int p1), .val (.int d), .val (.int a), .val (.int (1 : Int32))]) rfl k) ?_
                  exact j144 d a (1 : Int32) (by unfold own_tchar; rw [← hd, ← ha, show own_sym p1 = (1 : Int32) from by simp [own_sym, hc51j48, hc57j48, hc63j48, hc69j48, hc75j48, hc81j48, hc87j48]])
                · refine own_go (fun t k => XS.icmpNo X0.here hx rfl (hb hby d2_87) rfl (feq hc87j48).1 k) ?_
                  show own_End _ _ _ _ _ _ _ s₁ (mkF m 90 #[.val (.int p1), .val (.int d), .val (.int a), .unset] [])
                  refine own_go (fun t k => XS.iloadN X0.here hx rfl (hb hby d2_90) rfl k) ?_
                  show own_End _ _ _ _ _ _ _ s₁ (mkF m 91 #[.val (.int p1), .val (.int d), .val (.int a), .unset] [(.int p1)])
                  refine own_go (fun t k => XS.bipush X0.here hx rfl (hb hby d2_91) k) ?_
                  show own_End _ _ _ _ _ _ _ s₁ (mkF m 93 #[.val (.int p1), .val (.int d), .val (.int a), .unset] [(.int (43 : Int32)), (.int p1)])
                  by_cases hc93j48 : p1 = (43 : Int32)
                  · refine own_go (fun t k => XS.icmpYes X0.here hx rfl (pc0 := 93) (pc' := 138) rfl (hb hby d2_93) rfl (teq hc93j48).1 (by decide) (by decide) k) ?_
                    show own_End _ _ _ _ _ _ _ s₁ (mkF m 138 #[.val (.int p1), .val (.int d), .val (.int a), .unset] [])
                    refine own_go (fun t k => XS.iconst X0.here hx rfl (hb hby d2_138) k) ?_
                    show own_End _ _ _ _ _ _ _ s₁ (mkF m 139 #[.val (.int p1), .val (.int d), .val (.int a), .unset] [(.int (1 : Int32))])
                    refine own_go (fun t k => XS.goto X0.here hx rfl (pc0 := 139) (pc' := 143) rfl (hb hby d2_139) (by decide) (by decide) k) ?_
                    show own_End _ _ _ _ _ _ _ s₁ (mkF m 143 #[.val (.int p1), .val (.int d), .val (.int a), .unset] [(.int (1 : Int32))])
                    refine own_go (fun t k => XS.istoreN X0.here hx rfl (hb hby d2_143) rfl (l' := #[.val (.int p1), .val (.int d), .val (.int a), .val (.int (1 : Int32))]) rfl k) ?_
                    exact j144 d a (1 : Int32) (by unfold own_tchar; rw [← hd, ← ha, show own_sym p1 = (1 : Int32) from by simp [own_sym, hc51j48, hc57j48, hc63j48, hc69j48, hc75j48, hc81j48, hc87j48, hc93j48]])
                  · refine own_go (fun t k => XS.icmpNo X0.here hx rfl (hb hby d2_93) rfl (feq hc93j48).1 k) ?_
                    show own_End _ _ _ _ _ _ _ s₁ (mkF m 96 #[.val (.int p1), .val (.int d), .val (.int a), .unset] [])
                    refine own_go (fun t k => XS.iloadN X0.here hx rfl (hb hby d2_96) rfl k) ?_
                    show own_End _ _ _ _ _ _ _ s₁ (mkF m 97 #[.val (.int p1), .val (.int d), .val (.int a), .unset] [(.int p1)])
                    refine own_go (fun t k => XS.bipush X0.here hx rfl (hb hby d2_97) k) ?_
                    show own_End _ _ _ _ _ _ _ s₁ (mkF m 99 #[.val (.int p1), .val (.int d), .val (.int a), .unset] [(.int (45 : Int32)), (.int p1)])
                    by_cases hc99j48 : p1 = (45 : Int32)
                    · refine own_go (fun t k => XS.icmpYes X0.here hx rfl (pc0 := 99) (pc' := 138) rfl (hb hby d2_99) rfl (teq hc99j48).1 (by decide) (by decide) k) ?_
                      show own_End _ _ _ _ _ _ _ s₁ (mkF m 138 #[.val (.int p1), .val (.int d), .val (.int a), .unset] [])
                      refine own_go (fun t k => XS.iconst X0.here hx rfl (hb hby d2_138) k) ?_
                      show own_End _ _ _ _ _ _ _ s₁ (mkF m 139 #[.val (.int p1), .val (.int d), .val (.int a), .unset] [(.int (1 : Int32))])
                      refine own_go (fun t k => XS.goto X0.here hx rfl (pc0 := 139) (pc' := 143) rfl (hb hby d2_139) (by decide) (by decide) k) ?_
                      show own_End _ _ _ _ _ _ _ s₁ (mkF m 143 #[.val (.int p1), .val (.int d), .val (.int a), .unset] [(.int (1 : Int32))])
                      refine own_go (fun t k => XS.istoreN X0.here hx rfl (hb hby d2_143) rfl (l' := #[.val (.int p1), .val (.int d), .val (.int a), .val (.int (1 : Int32))]) rfl k) ?_
                      exact j144 d a (1 : Int32) (by unfold own_tchar; rw [← hd, ← ha, show own_sym p1 = (1 : Int32) from by simp [own_sym, hc51j48, hc57j48, hc63j48, hc69j48, hc75j48, hc81j48, hc87j48, hc93j48, hc99j48]])
                    · refine own_go (fun t k => XS.icmpNo X0.here hx rfl (hb hby d2_99) rfl (feq hc99j48).1 k) ?_
                      show own_End _ _ _ _ _ _ _ s₁ (mkF m 102 #[.val (.int p1), .val (.int d), .val (.int a), .unset] [])
                      refine own_go (fun t k => XS.iloadN X0.here hx rfl (hb hby d2_102) rfl k) ?_
                      show own_End _ _ _ _ _ _ _ s₁ (mkF m 103 #[.val (.int p1), .val (.int d), .val (.int a), .unset] [(.int p1)])
                      refine own_go (fun t k => XS.bipush X0.here hx rfl (hb hby d2_103) k) ?_
                      show own_End _ _ _ _ _ _ _ s₁ (mkF m 105 #[.val (.int p1), .val (.int d), .val (.int a), .unset] [(.int (46 : Int32)), (.int p1)])
                      by_cases hc105j48 : p1 = (46 : Int32)
                      · refine own_go (fun t k => XS.icmpYes X0.here hx rfl (pc0 := 105) (pc' := 138) rfl (hb hby d2_105) rfl (teq hc105j48).1 (by decide) (by decide) k) ?_
                        show own_End _ _ _ _ _ _ _ s₁ (mkF m 138 #[.val (.int p1), .val (.int d), .val (.int a), .unset] [])
                        refine own_go (fun t k => XS.iconst X0.here hx rfl (hb hby d2_138) k) ?_
                        show own_End _ _ _ _ _ _ _ s₁ (mkF m 139 #[.val (.int p1), .val (.int d), .val (.int a), .unset] [(.int (1 : Int32))])
                        refine own_go (fun t k => XS.goto X0.here hx rfl (pc0 := 139) (pc' := 143) rfl (hb hby d2_139) (by decide) (by decide) k) ?_
                        show own_End _ _ _ _ _ _ _ s₁ (mkF m 143 #[.val (.int p1), .val (.int d), .val (.int a), .unset] [(.int (1 : Int32))])
                        refine own_go (fun t k => XS.istoreN X0.here hx rfl (hb hby d2_143) rfl (l' := #[.val (.int p1), .val (.int d), .val (.int a), .val (.int (1 : Int32))]) rfl k) ?_
                        exact j144 d a (1 : Int32) (by unfold own_tchar; rw [← hd, ← ha, show own_sym p1 = (1 : Int32) from by simp [own_sym, hc51j48, hc57j48, hc63j48, hc69j48, hc75j48, hc81j48, hc87j48, hc93j48, hc99j48, hc105j48]])
                      · refine own_go (fun t k => XS.icmpNo X0.here hx rfl (hb hby d2_105) rfl (feq hc105j48).1 k) ?_
                        show own_End _ _ _ _ _ _ _ s₁ (mkF m 108 #[.val (.int p1), .val (.int d), .val (.int a), .unset] [])
                        refine own_go (fun t k => XS.iloadN X0.here hx rfl (hb hby d2_108) rfl k) ?_
                        show own_End _ _ _ _ _ _ _ s₁ (mkF m 109 #[.val (.int p1), .val (.int d), .val (.int a), .unset] [(.int p1)])
                        refine own_go (fun t k => XS.bipush X0.here hx rfl (hb hby d2_109) k) ?_
                        show own_End _ _ _ _ _ _ _ s₁ (mkF m 111 #[.val (.int p1), .val (.int d), .val (.int a), .unset] [(.int (94 : Int32)), (.int p1)])
                        by_cases hc111j48 : p1 = (94 : Int32)
                        · refine own_go (fun t k => XS.icmpYes X0.here hx rfl (pc0 := 111) (pc' := 138) rfl (hb hby d2_111) rfl (teq hc111j48).1 (by decide) (by decide) k) ?_
                          show own_End _ _ _ _ _ _ _ s₁ (mkF m 138 #[.val (.int p1), .val (.int d), .val (.int a), .unset] [])
                          refine own_go (fun t k => XS.iconst X0.here hx rfl (hb hby d2_138) k) ?_
                          show own_End _ _ _ _ _ _ _ s₁ (mkF m 139 #[.val (.int p1), .val (.int d), .val (.int a), .unset] [(.int (1 : Int32))])
                          refine own_go (fun t k => XS.goto X0.here hx rfl (pc0 := 139) (pc' := 143) rfl (hb hby d2_139) (by decide) (by decide) k) ?_
                          show own_End _ _ _ _ _ _ _ s₁ (mkF m 143 #[.val (.int p1), .val (.int d), .val (.int a), .unset] [(.int (1 : Int32))])
                          refine own_go (fun t k => XS.istoreN X0.here hx rfl (hb hby d2_143) rfl (l' := #[.val (.int p1), .val (.int d), .val (.int a), .val (.int (1 : Int32))]) rfl k) ?_
                          exact j144 d a (1 : Int32) (by unfold own_tchar; rw [← hd, ← ha, show own_sym p1 = (1 : Int32) from by simp [own_sym, hc51j48, hc57j48, hc63j48, hc69j48, hc75j48, hc81j48, hc87j48, hc93j48, hc99j48, hc105j48, hc111j48]])
                        · refine own_go (fun t k => XS.icmpNo X0.here hx rfl (hb hby d2_111) rfl (feq hc111j48).1 k) ?_
                          show own_End _ _ _ _ _ _ _ s₁ (mkF m 114 #[.val (.int p1), .val (.int d), .val (.int a), .unset] [])
                          refine own_go (fun t k => XS.iloadN X0.here hx rfl (hb hby d2_114) rfl k) ?_
                          show own_End _ _ _ _ _ _ _ s₁ (mkF m 115 #[.val (.int p1), .val (.int d), .val (.int a), .unset] [(.int p1)])
                          refine own_go (fun t k => XS.bipush X0.here hx rfl (hb hby d2_115) k) ?_
                          show own_End _ _ _ _ _ _ _ s₁ (mkF m 117 #[.val (.int p1), .val (.int d), .val (.int a), .unset] [(.int (95 : Int32)), (.int p1)])
                          by_cases hc117j48 : p1 = (95 : Int32)
                          · refine own_go (fun t k => XS.icmpYes X0.here hx rfl (pc0 := 117) (pc' := 138) rfl (hb hby d2_117) rfl (teq hc117j48).1 (by decide) (by decide) k) ?_
                            show own_End _ _ _ _ _ _ _ s₁ (mkF m 138 #[.val (.int p1), .val (.int d), .val (.int a), .unset] [])
                            refine own_go (fun t k => XS.iconst X0.here hx rfl (hb hby d2_138) k) ?_
                            show own_End _ _ _ _ _ _ _ s₁ (mkF m 139 #[.val (.int p1), .val (.int d), .val (.int a), .unset] [(.int (1 : Int32))])
                            refine own_go (fun t k => XS.goto X0.here hx rfl (pc0 := 139) (pc' := 143) rfl (hb hby d2_139) (by decide) (by decide) k) ?_
                            show own_End _ _ _ _ _ _ _ s₁ (mkF m 143 #[.val (.int p1), .val (.int d), .val (.int a), .unset] [(.int (1 : Int32))])
                            refine own_go (fun t k => XS.istoreN X0.here hx rfl (hb hby d2_143) rfl (l' := #[.val (.int p1), .val (.int d), .val (.int a), .val (.int (1 : Int32))]) rfl k) ?_
                            exact j144 d a (1 : Int32) (by unfold own_tchar; rw [← hd, ← ha, show own_sym p1 = (1 : Int32) from by simp [own_sym, hc51j48, hc57j48, hc63j48, hc69j48, hc75j48, hc81j48, hc87j48, hc93j48, hc99j48, hc105j48, hc111j48, hc117j48]])
                          · refine own_go (fun t k => XS.icmpNo X0.here hx rfl (hb hby d2_117) rfl (feq hc117j48).1 k) ?_
                            show own_End _ _ _ _ _ _ _ s₁ (mkF m 120 #[.val (.int p1), .val (.int d), .val (.int a), .unset] [])
                            refine own_go (fun t k => XS.iloadN X0.here hx rfl (hb hby d2_120) rfl k) ?_
                            show own_End _ _ _ _ _ _ _ s₁ (mkF m 121 #[.val (.int p1), .val (.int d), .val (.int a), .unset] [(.int p1)])
                            refine own_go (fun t k => XS.bipush X0.here hx rfl (hb hby d2_121) k) ?_
                            show own_End _ _ _ _ _ _ _ s₁ (mkF m 123 #[.val (.int p1), .val (.int d), .val (.int a), .unset] [(.int (96 : Int32)), (.int p1)])
                            by_cases hc123j48 : p1 = (96 : Int32)
                            · refine own_go (fun t k => XS.icmpYes X0.here hx rfl (pc0 := 123) (pc' := 138) rfl (hb hby d2_123) rfl (teq hc123j48).1 (by decide) (by decide) k) ?_
                              show own_End _ _ _ _ _ _ _ s₁ (mkF m 138 #[.val (.int p1), .val (.int d), .val (.int a), .unset] [])
                              refine own_go (fun t k => XS.iconst X0.here hx rfl (hb hby d2_138) k) ?_
                              show own_End _ _ _ _ _ _ _ s₁ (mkF m 139 #[.val (.int p1), .val (.int d), .val (.int a), .unset] [(.int (1 : Int32))])
                              refine own_go (fun t k => XS.goto X0.here hx rfl (pc0 := 139) (pc' := 143) rfl (hb hby d2_139) (by decide) (by decide) k) ?_
                              show own_End _ _ _ _ _ _ _ s₁ (mkF m 143 #[.val (.int p1), .val (.int d), .val (.int a), .unset] [(.int (1 : Int32))])
                              refine own_go (fun t k => XS.istoreN X0.here hx rfl (hb hby d2_143) rfl (l' := #[.val (.int p1), .val (.int d), .val (.int a), .val (.int (1 : Int32))]) rfl k) ?_
                              exact j144 d a (1 : Int32) (by unfold own_tchar; rw [← hd, ← ha, show own_sym p1 = (1 : Int32) from by simp [own_sym, hc51j48, hc57j48, hc63j48, hc69j48, hc75j48, hc81j48, hc87j48, hc93j48, hc99j48, hc105j48, hc111j48, hc117j48, hc123j48]])
                            · refine own_go (fun t k => XS.icmpNo X0.here hx rfl (hb hby d2_123) rfl (feq hc123j48).1 k) ?_
                              show own_End _ _ _ _ _ _ _ s₁ (mkF m 126 #[.val (.int p1), .val (.int d), .val (.int a), .unset] [])
                              refine own_go (fun t k => XS.iloadN X0.here hx rfl (hb hby d2_126) rfl k) ?_
                              show own_End _ _ _ _ _ _ _ s₁ (mkF m 127 #[.val (.int p1), .val (.int d), .val (.int a), .unset] [(.int p1)])
                              refine own_go (fun t k => XS.bipush X0.here hx rfl (hb hby d2_127) k) ?_
                              show own_End _ _ _ _ _ _ _ s₁ (mkF m 129 #[.val (.int p1), .val (.int d), .val (.int a), .unset] [(.int (124 : Int32)), (.int p1)])
                              by_cases hc129j48 : p1 = (124 : Int32)
                              · refine own_go (fun t k => XS.icmpYes X0.here hx rfl (pc0 := 129) (pc' := 138) rfl (hb hby d2_129) rfl (teq hc129j48).1 (by decide) (by decide) k) ?_
                                show own_End _ _ _ _ _ _ _ s₁ (mkF m 138 #[.val (.int p1), .val (.int d), .val (.int a), .unset] [])
                                refine own_go (fun t k => XS.iconst X0.here hx rfl (hb hby d2_138) k) ?_
                                show own_End _ _ _ _ _ _ _ s₁ (mkF m 139 #[.val (.int p1), .val (.int d), .val (.int a), .unset] [(.int (1 : Int32))])
                                refine own_go (fun t k => XS.goto X0.here hx rfl (pc0 := 139) (pc' := 143) rfl (hb hby d2_139) (by decide) (by decide) k) ?_
                                show own_End _ _ _ _ _ _ _ s₁ (mkF m 143 #[.val (.int p1), .val (.int d), .val (.int a), .unset] [(.int (1 : Int32))])
                                refine own_go (fun t k => XS.istoreN X0.here hx rfl (hb hby d2_143) rfl (l' := #[.val (.int p1), .val (.int d), .val (.int a), .val (.int (1 : Int32))]) rfl k) ?_
                                exact j144 d a (1 : Int32) (by unfold own_tchar; rw [← hd, ← ha, show own_sym p1 = (1 : Int32) from by simp [own_sym, hc51j48, hc57j48, hc63j48, hc69j48, hc75j48, hc81j48, hc87j48, hc93j48, hc99j48, hc105j48, hc111j48, hc117j48, hc123j48, hc129j48]])
                              · refine own_go (fun t k => XS.icmpNo X0.here hx rfl (hb hby d2_129) rfl (feq hc129j48).1 k) ?_
                                show own_End _ _ _ _ _ _ _ s₁ (mkF m 132 #[.val (.int p1), .val (.int d), .val (.int a), .unset] [])
                                refine own_go (fun t k => XS.iloadN X0.here hx rfl (hb hby d2_132) rfl k) ?_
                                show own_End _ _ _ _ _ _ _ s₁ (mkF m 133 #[.val (.int p1), .val (.int d), .val (.int a), .unset] [(.int p1)])
                                refine own_go (fun t k => XS.bipush X0.here hx rfl (hb hby d2_133) k) ?_
                                show own_End _ _ _ _ _ _ _ s₁ (mkF m 135 #[.val (.int p1), .val (.int d), .val (.int a), .unset] [(.int (126 : Int32)), (.int p1)])
                                by_cases hc135j48 : p1 = (126 : Int32)
                                · refine own_go (fun t k => XS.icmpNo X0.here hx rfl (hb hby d2_135) rfl (teq hc135j48).2 k) ?_
                                  show own_End _ _ _ _ _ _ _ s₁ (mkF m 138 #[.val (.int p1), .val (.int d), .val (.int a), .unset] [])
                                  refine own_go (fun t k => XS.iconst X0.here hx rfl (hb hby d2_138) k) ?_
                                  show own_End _ _ _ _ _ _ _ s₁ (mkF m 139 #[.val (.int p1), .val (.int d), .val (.int a), .unset] [(.int (1 : Int32))])
                                  refine own_go (fun t k => XS.goto X0.here hx rfl (pc0 := 139) (pc' := 143) rfl (hb hby d2_139) (by decide) (by decide) k) ?_
                                  show own_End _ _ _ _ _ _ _ s₁ (mkF m 143 #[.val (.int p1), .val (.int d), .val (.int a), .unset] [(.int (1 : Int32))])
                                  refine own_go (fun t k => XS.istoreN X0.here hx rfl (hb hby d2_143) rfl (l' := #[.val (.int p1), .val (.int d), .val (.int a), .val (.int (1 : Int32))]) rfl k) ?_
                                  exact j144 d a (1 : Int32) (by unfold own_tchar; rw [← hd, ← ha, show own_sym p1 = (1 : Int32) from by simp [own_sym, hc51j48, hc57j48, hc63j48, hc69j48, hc75j48, hc81j48, hc87j48, hc93j48, hc99j48, hc105j48, hc111j48, hc117j48, hc123j48, hc129j48, hc135j48]])
                                · refine own_go (fun t k => XS.icmpYes X0.here hx rfl (pc0 := 135) (pc' := 142) rfl (hb hby d2_135) rfl (feq hc135j48).2 (by decide) (by decide) k) ?_
                                  show own_End _ _ _ _ _ _ _ s₁ (mkF m 142 #[.val (.int p1), .val (.int d), .val (.int a), .unset] [])
                                  refine own_go (fun t k => XS.iconst X0.here hx rfl (hb hby d2_142) k) ?_
                                  show own_End _ _ _ _ _ _ _ s₁ (mkF m 143 #[.val (.int p1), .val (.int d), .val (.int a), .unset] [(.int (0 : Int32))])
                                  refine own_go (fun t k => XS.istoreN X0.here hx rfl (hb hby d2_143) rfl (l' := #[.val (.int p1), .val (.int d), .val (.int a), .val (.int (0 : Int32))]) rfl k) ?_
                                  exact j144 d a (0 : Int32) (by unfold own_tchar; rw [← hd, ← ha, show own_sym p1 = (0 : Int32) from by simp [own_sym, hc51j48, hc57j48, hc63j48, hc69j48, hc75j48, hc81j48, hc87j48, hc93j48, hc99j48, hc105j48, hc111j48, hc117j48, hc123j48, hc129j48, hc135j48]])
  have j18 : ∀ (d : Int32), d = own_dig p1 → own_End p e below s (own_pure (.int (own_tchar p1)) h0 n0) ({ frames := 0, cells := 0, slots := 0, locals := 0 } : Room).cells ({ frames := 0, cells := 0, slots := 0, locals := 0 } : Room).slots s₁ (mkF m 18 #[.val (.int p1), .val (.int d), .unset, .unset] []) := by
    intro d hd
    show own_End _ _ _ _ _ _ _ s₁ (mkF m 18 #[.val (.int p1), .val (.int d), .unset, .unset] [])
    refine own_go (fun t k => XS.iloadN X0.here hx rfl (hb hby d2_18) rfl k) ?_
    show own_End _ _ _ _ _ _ _ s₁ (mkF m 19 #[.val (.int p1), .val (.int d), .unset, .unset] [(.int p1)])
    refine own_go (fun t k => XS.bipush X0.here hx rfl (hb hby d2_19) k) ?_
    show own_End _ _ _ _ _ _ _ s₁ (mkF m 21 #[.val (.int p1), .val (.int d), .unset, .unset] [(.int (65 : Int32)), (.int p1)])
    by_cases hc21j18 : p1 < (65 : Int32)
    · refine own_go (fun t k => XS.icmpYes X0.here hx rfl (pc0 := 21) (pc' := 30) rfl (hb hby d2_21) rfl (tlt hc21j18).1 (by decide) (by decide) k) ?_
      show own_End _ _ _ _ _ _ _ s₁ (mkF m 30 #[.val (.int p1), .val (.int d), .unset, .unset] [])
      refine own_go (fun t k => XS.iloadN X0.here hx rfl (hb hby d2_30) rfl k) ?_
      show own_End _ _ _ _ _ _ _ s₁ (mkF m 31 #[.val (.int p1), .val (.int d), .unset, .unset] [(.int p1)])
      refine own_go (fun t k => XS.bipush X0.here hx rfl (hb hby d2_31) k) ?_
      show own_End _ _ _ _ _ _ _ s₁ (mkF m 33 #[.val (.int p1), .val (.int d), .unset, .unset] [(.int (97 : Int32)), (.int p1)])
      by_cases hc33j18 : p1 < (97 : Int32)
      · refine own_go (fun t k => XS.icmpYes X0.here hx rfl (pc0 := 33) (pc' := 46) rfl (hb hby d2_33) rfl (tlt hc33j18).1 (by decide) (by decide) k) ?_
        show own_End _ _ _ _ _ _ _ s₁ (mkF m 46 #[.val (.int p1), .val (.int d), .unset, .unset] [])
        refine own_go (fun t k => XS.iconst X0.here hx rfl (hb hby d2_46) k) ?_
        show own_End _ _ _ _ _ _ _ s₁ (mkF m 47 #[.val (.int p1), .val (.int d), .unset, .unset] [(.int (0 : Int32))])
        refine own_go (fun t k => XS.istoreN X0.here hx rfl (hb hby d2_47) rfl (l' := #[.val (.int p1), .val (.int d), .val (.int (0 : Int32)), .unset]) rfl k) ?_
        exact j48 d (0 : Int32) hd (by simp [own_alp, own_low, hc21j18, hc33j18])
      · refine own_go (fun t k => XS.icmpNo X0.here hx rfl (hb hby d2_33) rfl (flt hc33j18).1 k) ?_
        show own_End _ _ _ _ _ _ _ s₁ (mkF m 36 #[.val (.int p1), .val (.int d), .unset, .unset] [])
        refine own_go (fun t k => XS.iloadN X0.here hx rfl (hb hby d2_36) rfl k) ?_
        show own_End _ _ _ _ _ _ _ s₁ (mkF m 37 #[.val (.int p1), .val (.int d), .unset, .unset] [(.int p1)])
        refine own_go (fun t k => XS.bipush X0.here hx rfl (hb hby d2_37) k) ?_
        show own_End _ _ _ _ _ _ _ s₁ (mkF m 39 #[.val (.int p1), .val (.int d), .unset, .unset] [(.int (122 : Int32)), (.int p1)])
        by_cases hc39j18 : (122 : Int32) < p1
        · refine own_go (fun t k => XS.icmpYes X0.here hx rfl (pc0 := 39) (pc' := 46) rfl (hb hby d2_39) rfl (tlt hc39j18).2.2.1 (by decide) (by decide) k) ?_
          show own_End _ _ _ _ _ _ _ s₁ (mkF m 46 #[.val (.int p1), .val (.int d), .unset, .unset] [])
          refine own_go (fun t k => XS.iconst X0.here hx rfl (hb hby d2_46) k) ?_
          show own_End _ _ _ _ _ _ _ s₁ (mkF m 47 #[.val (.int p1), .val (.int d), .unset, .unset] [(.int (0 : Int32))])
          refine own_go (fun t k => XS.istoreN X0.here hx rfl (hb hby d2_47) rfl (l' := #[.val (.int p1), .val (.int d), .val (.int (0 : Int32)), .unset]) rfl k) ?_
          exact j48 d (0 : Int32) hd (by simp [own_alp, own_low, hc21j18, hc33j18, hc39j18])
        · refine own_go (fun t k => XS.icmpNo X0.here hx rfl (hb hby d2_39) rfl (flt hc39j18).2.2.1 k) ?_
          show own_End _ _ _ _ _ _ _ s₁ (mkF m 42 #[.val (.int p1), .val (.int d), .unset, .unset] [])
          refine own_go (fun t k => XS.iconst X0.here hx rfl (hb hby d2_42) k) ?_
          show own_End _ _ _ _ _ _ _ s₁ (mkF m 43 #[.val (.int p1), .val (.int d), .unset, .unset] [(.int (1 : Int32))])
          refine own_go (fun t k => XS.goto X0.here hx rfl (pc0 := 43) (pc' := 47) rfl (hb hby d2_43) (by decide) (by decide) k) ?_
          show own_End _ _ _ _ _ _ _ s₁ (mkF m 47 #[.val (.int p1), .val (.int d), .unset, .unset] [(.int (1 : Int32))])
          refine own_go (fun t k => XS.istoreN X0.here hx rfl (hb hby d2_47) rfl (l' := #[.val (.int p1), .val (.int d), .val (.int (1 : Int32)), .unset]) rfl k) ?_
          exact j48 d (1 : Int32) hd (by simp [own_alp, own_low, hc21j18, hc33j18, hc39j18])
    · refine own_go (fun t k => XS.icmpNo X0.here hx rfl (hb hby d2_21) rfl (flt hc21j18).1 k) ?_
      show own_End _ _ _ _ _ _ _ s₁ (mkF m 24 #[.val (.int p1), .val (.int d), .unset, .unset] [])
      refine own_go (fun t k => XS.iloadN X0.here hx rfl (hb hby d2_24) rfl k) ?_
      show own_End _ _ _ _ _ _ _ s₁ (mkF m 25 #[.val (.int p1), .val (.int d), .unset, .unset] [(.int p1)])
      refine own_go (fun t k => XS.bipush X0.here hx rfl (hb hby d2_25) k) ?_
      show own_End _ _ _ _ _ _ _ s₁ (mkF m 27 #[.val (.int p1), .val (.int d), .unset, .unset] [(.int (90 : Int32)), (.int p1)])
      by_cases hc27j18 : (90 : Int32) < p1
      · refine own_go (fun t k => XS.icmpNo X0.here hx rfl (hb hby d2_27) rfl (tlt hc27j18).2.2.2 k) ?_
        show own_End _ _ _ _ _ _ _ s₁ (mkF m 30 #[.val (.int p1), .val (.int d), .unset, .unset] [])
        refine own_go (fun t k => XS.iloadN X0.here hx rfl (hb hby d2_30) rfl k) ?_
        show own_End _ _ _ _ _ _ _ s₁ (mkF m 31 #[.val (.int p1), .val (.int d), .unset, .unset] [(.int p1)])
        refine own_go (fun t k => XS.bipush X0.here hx rfl (hb hby d2_31) k) ?_
        show own_End _ _ _ _ _ _ _ s₁ (mkF m 33 #[.val (.int p1), .val (.int d), .unset, .unset] [(.int (97 : Int32)), (.int p1)])
        by_cases hc33j18 : p1 < (97 : Int32)
        · refine own_go (fun t k => XS.icmpYes X0.here hx rfl (pc0 := 33) (pc' := 46) rfl (hb hby d2_33) rfl (tlt hc33j18).1 (by decide) (by decide) k) ?_
          show own_End _ _ _ _ _ _ _ s₁ (mkF m 46 #[.val (.int p1), .val (.int d), .unset, .unset] [])
          refine own_go (fun t k => XS.iconst X0.here hx rfl (hb hby d2_46) k) ?_
          show own_End _ _ _ _ _ _ _ s₁ (mkF m 47 #[.val (.int p1), .val (.int d), .unset, .unset] [(.int (0 : Int32))])
          refine own_go (fun t k => XS.istoreN X0.here hx rfl (hb hby d2_47) rfl (l' := #[.val (.int p1), .val (.int d), .val (.int (0 : Int32)), .unset]) rfl k) ?_
          exact j48 d (0 : Int32) hd (by simp [own_alp, own_low, hc21j18, hc27j18, hc33j18])
        · refine own_go (fun t k => XS.icmpNo X0.here hx rfl (hb hby d2_33) rfl (flt hc33j18).1 k) ?_
          show own_End _ _ _ _ _ _ _ s₁ (mkF m 36 #[.val (.int p1), .val (.int d), .unset, .unset] [])
          refine own_go (fun t k => XS.iloadN X0.here hx rfl (hb hby d2_36) rfl k) ?_
          show own_End _ _ _ _ _ _ _ s₁ (mkF m 37 #[.val (.int p1), .val (.int d), .unset, .unset] [(.int p1)])
          refine own_go (fun t k => XS.bipush X0.here hx rfl (hb hby d2_37) k) ?_
          show own_End _ _ _ _ _ _ _ s₁ (mkF m 39 #[.val (.int p1), .val (.int d), .unset, .unset] [(.int (122 : Int32)), (.int p1)])
          by_cases hc39j18 : (122 : Int32) < p1
          · refine own_go (fun t k => XS.icmpYes X0.here hx rfl (pc0 := 39) (pc' := 46) rfl (hb hby d2_39) rfl (tlt hc39j18).2.2.1 (by decide) (by decide) k) ?_
            show own_End _ _ _ _ _ _ _ s₁ (mkF m 46 #[.val (.int p1), .val (.int d), .unset, .unset] [])
            refine own_go (fun t k => XS.iconst X0.here hx rfl (hb hby d2_46) k) ?_
            show own_End _ _ _ _ _ _ _ s₁ (mkF m 47 #[.val (.int p1), .val (.int d), .unset, .unset] [(.int (0 : Int32))])
            refine own_go (fun t k => XS.istoreN X0.here hx rfl (hb hby d2_47) rfl (l' := #[.val (.int p1), .val (.int d), .val (.int (0 : Int32)), .unset]) rfl k) ?_
            exact j48 d (0 : Int32) hd (by simp [own_alp, own_low, hc21j18, hc27j18, hc33j18, hc39j18])
          · refine own_go (fun t k => XS.icmpNo X0.here hx rfl (hb hby d2_39) rfl (flt hc39j18).2.2.1 k) ?_
            show own_End _ _ _ _ _ _ _ s₁ (mkF m 42 #[.val (.int p1), .val (.int d), .unset, .unset] [])
            refine own_go (fun t k => XS.iconst X0.here hx rfl (hb hby d2_42) k) ?_
            show own_End _ _ _ _ _ _ _ s₁ (mkF m 43 #[.val (.int p1), .val (.int d), .unset, .unset] [(.int (1 : Int32))])
            refine own_go (fun t k => XS.goto X0.here hx rfl (pc0 := 43) (pc' := 47) rfl (hb hby d2_43) (by decide) (by decide) k) ?_
            show own_End _ _ _ _ _ _ _ s₁ (mkF m 47 #[.val (.int p1), .val (.int d), .unset, .unset] [(.int (1 : Int32))])
            refine own_go (fun t k => XS.istoreN X0.here hx rfl (hb hby d2_47) rfl (l' := #[.val (.int p1), .val (.int d), .val (.int (1 : Int32)), .unset]) rfl k) ?_
            exact j48 d (1 : Int32) hd (by simp [own_alp, own_low, hc21j18, hc27j18, hc33j18, hc39j18])
      · refine own_go (fun t k => XS.icmpYes X0.here hx rfl (pc0 := 27) (pc' := 42) rfl (hb hby d2_27) rfl (flt hc27j18).2.2.2 (by decide) (by decide) k) ?_
        show own_End _ _ _ _ _ _ _ s₁ (mkF m 42 #[.val (.int p1), .val (.int d), .unset, .unset] [])
        refine own_go (fun t k => XS.iconst X0.here hx rfl (hb hby d2_42) k) ?_
        show own_End _ _ _ _ _ _ _ s₁ (mkF m 43 #[.val (.int p1), .val (.int d), .unset, .unset] [(.int (1 : Int32))])
        refine own_go (fun t k => XS.goto X0.here hx rfl (pc0 := 43) (pc' := 47) rfl (hb hby d2_43) (by decide) (by decide) k) ?_
        show own_End _ _ _ _ _ _ _ s₁ (mkF m 47 #[.val (.int p1), .val (.int d), .unset, .unset] [(.int (1 : Int32))])
        refine own_go (fun t k => XS.istoreN X0.here hx rfl (hb hby d2_47) rfl (l' := #[.val (.int p1), .val (.int d), .val (.int (1 : Int32)), .unset]) rfl k) ?_
        exact j48 d (1 : Int32) hd (by simp [own_alp, own_low, hc21j18, hc27j18])
  show own_End _ _ _ _ _ _ _ s₁ (mkF m 0 #[.val (.int p1), .unset, .unset, .unset] [])
  refine own_go (fun t k => XS.iloadN X0.here hx rfl (hb hby d2_0) rfl k) ?_
  show own_End _ _ _ _ _ _ _ s₁ (mkF m 1 #[.val (.int p1), .unset, .unset, .unset] [(.int p1)])
  refine own_go (fun t k => XS.bipush X0.here hx rfl (hb hby d2_1) k) ?_
  show own_End _ _ _ _ _ _ _ s₁ (mkF m 3 #[.val (.int p1), .unset, .unset, .unset] [(.int (48 : Int32)), (.int p1)])
  by_cases hc3 : p1 < (48 : Int32)
  · refine own_go (fun t k => XS.icmpYes X0.here hx rfl (pc0 := 3) (pc' := 16) rfl (hb hby d2_3) rfl (tlt hc3).1 (by decide) (by decide) k) ?_
    show own_End _ _ _ _ _ _ _ s₁ (mkF m 16 #[.val (.int p1), .unset, .unset, .unset] [])
    refine own_go (fun t k => XS.iconst X0.here hx rfl (hb hby d2_16) k) ?_
    show own_End _ _ _ _ _ _ _ s₁ (mkF m 17 #[.val (.int p1), .unset, .unset, .unset] [(.int (0 : Int32))])
    refine own_go (fun t k => XS.istoreN X0.here hx rfl (hb hby d2_17) rfl (l' := #[.val (.int p1), .val (.int (0 : Int32)), .unset, .unset]) rfl k) ?_
    exact j18 (0 : Int32) (by simp [own_dig, hc3])
  · refine own_go (fun t k => XS.icmpNo X0.here hx rfl (hb hby d2_3) rfl (flt hc3).1 k) ?_
    show own_End _ _ _ _ _ _ _ s₁ (mkF m 6 #[.val (.int p1), .unset, .unset, .unset] [])
    refine own_go (fun t k => XS.iloadN X0.here hx rfl (hb hby d2_6) rfl k) ?_
    show own_End _ _ _ _ _ _ _ s₁ (mkF m 7 #[.val (.int p1), .unset, .unset, .unset] [(.int p1)])
    refine own_go (fun t k => XS.bipush X0.here hx rfl (hb hby d2_7) k) ?_
    show own_End _ _ _ _ _ _ _ s₁ (mkF m 9 #[.val (.int p1), .unset, .unset, .unset] [(.int (57 : Int32)), (.int p1)])
    by_cases hc9 : (57 : Int32) < p1
    · refine own_go (fun t k => XS.icmpYes X0.here hx rfl (pc0 := 9) (pc' := 16) rfl (hb hby d2_9) rfl (tlt hc9).2.2.1 (by decide) (by decide) k) ?_
      show own_End _ _ _ _ _ _ _ s₁ (mkF m 16 #[.val (.int p1), .unset, .unset, .unset] [])
      refine own_go (fun t k => XS.iconst X0.here hx rfl (hb hby d2_16) k) ?_
      show own_End _ _ _ _ _ _ _ s₁ (mkF m 17 #[.val (.int p1), .unset, .unset, .unset] [(.int (0 : Int32))])
      refine own_go (fun t k => XS.istoreN X0.here hx rfl (hb hby d2_17) rfl (l' := #[.val (.int p1), .val (.int (0 : Int32)), .unset, .unset]) rfl k) ?_
      exact j18 (0 : Int32) (by simp [own_dig, hc3, hc9])
    · refine own_go (fun t k => XS.icmpNo X0.here hx rfl (hb hby d2_9) rfl (flt hc9).2.2.1 k) ?_
      show own_End _ _ _ _ _ _ _ s₁ (mkF m 12 #[.val (.int p1), .unset, .unset, .unset] [])
      refine own_go (fun t k => XS.iconst X0.here hx rfl (hb hby d2_12) k) ?_
      show own_End _ _ _ _ _ _ _ s₁ (mkF m 13 #[.val (.int p1), .unset, .unset, .unset] [(.int (1 : Int32))])
      refine own_go (fun t k => XS.goto X0.here hx rfl (pc0 := 13) (pc' := 17) rfl (hb hby d2_13) (by decide) (by decide) k) ?_
      show own_End _ _ _ _ _ _ _ s₁ (mkF m 17 #[.val (.int p1), .unset, .unset, .unset] [(.int (1 : Int32))])
      refine own_go (fun t k => XS.istoreN X0.here hx rfl (hb hby d2_17) rfl (l' := #[.val (.int p1), .val (.int (1 : Int32)), .unset, .unset]) rfl k) ?_
      exact j18 (1 : Int32) (by simp [own_dig, hc3, hc9])
theorem ef_rm0 (m : MethodId) (x0 : Int32) (x1 : Int32) : entryFrame m #[(.int x0), (.int x1)] maxLocals = mkF m 0 #[.val (.int x0), .val (.int x1), .unset] [] := by first | (simp [entryFrame, mkF, argsToLocals, Value.category, maxLocals]; done) | rfl
theorem pd__I_Z : parseMethodDescriptor "(I)Z" = some ⟨[.int], some .boolean⟩ := by decide +kernel
set_option maxRecDepth 65536 in
set_option maxHeartbeats 40000000 in
theorem rm0 (l : Launch) (Z : State) (a0 : Array Value) (hw : ∀ d ∈ tables_1, d.before a0 Z = true) (ws : List Jvm.Cond) (p1 p2 : Int32) (w : Addr) (cl : Cell) (tok : Int32 → Int32) (h0 : Heap) (n0 : Nat) (Z0 : n0 ≤ h0.size) (S : Sta Z h0 "com/example/stamped_envelope/stampedenvelope/core/MediaType" "TOKEN" "[Z" (.ref w)) (Ar : Arr Z h0 w cl .boolean) (Sz : cl.slots.size = (127 : Int32).toNatClampNeg) (hv : ∀ j : Int32, ¬ j < 0 → j < 127 → cl.slots[j.toNatClampNeg]? = some (.int (tok j))) (hk : ∀ c, own_tok c tok = own_tchar c) :
    MetFree l x (head1 (Jvm.Cond.code x code maxLocals ret :: ws) room_1) (fun a U => a = #[(.int p1), (.int p2)] ∧ Z.Warmed39 U.vm ∧ U.heap = h0) (fun _ _ _ _ _ => True) (fun _ U o U' => ∃ v L, o = .returned v ∧ own_law n0 v U'.heap L ∧ FrameEnd U o U' L room_1.cells room_1.slots) := by
  refine MetFree.of_bodySF (plainFor_of_name pn_com_example_stamped_envelope_stampedenvelope_core_MediaTypeIsTokenCharacterPinLaw) hisR ?_
  intro p e s m args below meth c s₁ Bd hml0 hP hK
  obtain ⟨rfl, hZ, hh⟩ := hP
  have hx := Bd.exec
  have hby := Bd.bytes
  have hml : c.maxLocals = 3 := hml0
  have hown : s.vm.findClass "com/example/stamped_envelope/stampedenvelope/core/MediaTypeIsTokenCharacterPinLaw" = some m.cls := findClass_of_methodNamed Bd.named
  have hnm := (name_of_methodNamed Bd.named Bd.method).1
  have X0 : Stand p l e room_1 s m #[(.int p1), (.int p2)] below meth c s₁ [] 0 0 := Stand.of_body Bd
  have e0 : s₁.heap = h0 := by rw [← hh, Bd.state]; rfl
  have N0 := Fr.nil n0
  suffices own_main : own_End p e below s (own_law n0) room_1.cells room_1.slots s₁ (mkF m 0 #[.val (.int p1), .val (.int p2), .unset] []) by
    obtain ⟨s₂, o, k1, k2, k3, k4⟩ := own_main
    exact ⟨s₂, o, castTop (ef_rm0 m p1 p2) k1, k2, k3, k4⟩
  show own_End _ _ _ _ _ _ _ s₁ (mkF m 0 #[.val (.int p1), .val (.int p2), .unset] [])
  refine own_go (fun t k => XS.iloadN X0.here hx rfl (hb hby at_0) rfl k) ?_
  show own_End _ _ _ _ _ _ _ s₁ (mkF m 1 #[.val (.int p1), .val (.int p2), .unset] [(.int p2)])
  refine own_go (fun t k => XS.iconst X0.here hx rfl (hb hby at_1) k) ?_
  show own_End _ _ _ _ _ _ _ s₁ (mkF m 2 #[.val (.int p1), .val (.int p2), .unset] [(.int (1 : Int32)), (.int p2)])
  refine own_go (fun t k => XS.iand X0.here hx rfl (hb hby at_2) rfl k) ?_
  show own_End _ _ _ _ _ _ _ s₁ (mkF m 3 #[.val (.int p1), .val (.int p2), .unset] [(.int (p2 &&& (1 : Int32)))])
  by_cases hc3 : (p2 &&& (1 : Int32)) = (0 : Int32)
  · refine own_go (fun t k => XS.ifYes X0.here hx rfl (pc0 := 3) (pc' := 14) rfl (hb hby at_3) rfl ((if0 _ _).trans (teq hc3).1) (by decide) (by decide) k) ?_
    show own_End _ _ _ _ _ _ _ s₁ (mkF m 14 #[.val (.int p1), .val (.int p2), .unset] [])
    refine own_go (fun t k => XS.iloadN X0.here hx rfl (hb hby at_14) rfl k) ?_
    show own_End _ _ _ _ _ _ _ s₁ (mkF m 15 #[.val (.int p1), .val (.int p2), .unset] [(.int p1)])
    refine own_go (fun t k => XS.istoreN X0.here hx rfl (hb hby at_15) rfl (l' := #[.val (.int p1), .val (.int p2), .val (.int p1)]) rfl k) ?_
    show own_End _ _ _ _ _ _ _ s₁ (mkF m 16 #[.val (.int p1), .val (.int p2), .val (.int p1)] [])
    refine own_go (fun t k => XS.iloadN X0.here hx rfl (hb hby at_16) rfl k) ?_
    show own_End _ _ _ _ _ _ _ s₁ (mkF m 17 #[.val (.int p1), .val (.int p2), .val (.int p1)] [(.int p1)])
    obtain ⟨v3, T3, L3, X3, hQ3, st3⟩ := own_callS (y := (⟨"com/example/stamped_envelope/stampedenvelope/core/MediaType", "isTokenCharacter", "(I)Z"⟩ : MethodName)) X0 hx hZ hown (hw _ (List.mem_of_getElem? (i := 0) rfl)) (hw _ (List.mem_of_getElem? (i := 1) rfl)) (hw _ (List.mem_of_getElem? (i := 3) rfl)) (by decide) (hw _ (List.mem_of_getElem? (i := 2) rfl)) (rm1 l Z a0 hw [] p1 w cl tok h0 n0 Z0 S Ar Sz hv) e0 (W := 0) (by decide) (by decide) (g := (mkF m 17 #[.val (.int p1), .val (.int p2), .val (.int p1)] [(.int p1)])) rfl (by rw [hml]; rfl) (argsL := [(.int p1)]) (rest := []) rfl (lenOf pd__I_Z rfl) rfl (by show 2 * 0 + _ ≤ _; exact Nat.le_of_eq rfl) (hb hby at_17) (by decide) (by decide)
    obtain ⟨rfl, N3q, e3⟩ := hQ3
    have N3 := Fr.app N0 N3q
    refine own_go st3 ?_
    show own_End _ _ _ _ _ _ _ T3 (mkF m 20 #[.val (.int p1), .val (.int p2), .val (.int p1)] [(.int (own_tok p1 tok))])
    refine own_go (fun t k => XS.iloadN X3.here hx rfl (hb hby at_20) rfl k) ?_
    show own_End _ _ _ _ _ _ _ T3 (mkF m 21 #[.val (.int p1), .val (.int p2), .val (.int p1)] [(.int p1), (.int (own_tok p1 tok))])
    obtain ⟨v4, T4, L4, X4, hQ4, st4⟩ := own_callS (y := (⟨"com/example/stamped_envelope/stampedenvelope/core/MediaTypeIsTokenCharacterPinLaw", "tchar", "(I)Z"⟩ : MethodName)) X3 hx hZ hown (hw _ (List.mem_of_getElem? (i := 6) rfl)) (hw _ (List.mem_of_getElem? (i := 7) rfl)) (hw _ (List.mem_of_getElem? (i := 9) rfl)) (by decide) (hw _ (List.mem_of_getElem? (i := 8) rfl)) (rm2 l Z a0 hw [] p1 h0 n0 Z0) e3 (W := 1) (by decide) (by decide) (g := (mkF m 21 #[.val (.int p1), .val (.int p2), .val (.int p1)] [(.int p1), (.int (own_tok p1 tok))])) rfl (by rw [hml]; rfl) (argsL := [(.int p1)]) (rest := [(.int (own_tok p1 tok))]) rfl (lenOf pd__I_Z rfl) rfl (by show 2 * 0 + _ ≤ _; exact Nat.le_of_eq rfl) (hb hby at_21) (by decide) (by decide)
    obtain ⟨rfl, N4q, e4⟩ := hQ4
    have N4 := Fr.app N3 N4q
    refine own_go st4 ?_
    show own_End _ _ _ _ _ _ _ T4 (mkF m 24 #[.val (.int p1), .val (.int p2), .val (.int p1)] [(.int (own_tchar p1)), (.int (own_tok p1 tok))])
    refine own_go (fun t k => XS.icmpNo X4.here hx rfl (hb hby at_24) rfl (teq (hk p1)).2 k) ?_
    show own_End _ _ _ _ _ _ _ T4 (mkF m 27 #[.val (.int p1), .val (.int p2), .val (.int p1)] [])
    refine own_go (fun t k => XS.iconst X4.here hx rfl (hb hby at_27) k) ?_
    show own_End _ _ _ _ _ _ _ T4 (mkF m 28 #[.val (.int p1), .val (.int p2), .val (.int p1)] [(.int (1 : Int32))])
    refine own_go (fun t k => XS.goto X4.here hx rfl (pc0 := 28) (pc' := 32) rfl (hb hby at_28) (by decide) (by decide) k) ?_
    show own_End _ _ _ _ _ _ _ T4 (mkF m 32 #[.val (.int p1), .val (.int p2), .val (.int p1)] [(.int (1 : Int32))])
    exact own_retW X4 hx Bd.returns Bd.notSynchronized rfl (Or.inl ⟨rfl, by simp, _, rfl⟩) (hb hby at_32) ⟨rfl, N4⟩ (by decide) (by decide)
  · refine own_go (fun t k => XS.ifNo X0.here hx rfl (hb hby at_3) rfl ((if0 _ _).trans (feq hc3).1) k) ?_
    show own_End _ _ _ _ _ _ _ s₁ (mkF m 6 #[.val (.int p1), .val (.int p2), .unset] [])
    refine own_go (fun t k => XS.iloadN X0.here hx rfl (hb hby at_6) rfl k) ?_
    show own_End _ _ _ _ _ _ _ s₁ (mkF m 7 #[.val (.int p1), .val (.int p2), .unset] [(.int p1)])
    refine own_go (fun t k => XS.sipush X0.here hx rfl (hb hby at_7) k) ?_
    show own_End _ _ _ _ _ _ _ s₁ (mkF m 10 #[.val (.int p1), .val (.int p2), .unset] [(.int (255 : Int32)), (.int p1)])
    refine own_go (fun t k => XS.iand X0.here hx rfl (hb hby at_10) rfl k) ?_
    show own_End _ _ _ _ _ _ _ s₁ (mkF m 11 #[.val (.int p1), .val (.int p2), .unset] [(.int (p1 &&& (255 : Int32)))])
    refine own_go (fun t k => XS.goto X0.here hx rfl (pc0 := 11) (pc' := 15) rfl (hb hby at_11) (by decide) (by decide) k) ?_
    show own_End _ _ _ _ _ _ _ s₁ (mkF m 15 #[.val (.int p1), .val (.int p2), .unset] [(.int (p1 &&& (255 : Int32)))])
    refine own_go (fun t k => XS.istoreN X0.here hx rfl (hb hby at_15) rfl (l' := #[.val (.int p1), .val (.int p2), .val (.int (p1 &&& (255 : Int32)))]) rfl k) ?_
    show own_End _ _ _ _ _ _ _ s₁ (mkF m 16 #[.val (.int p1), .val (.int p2), .val (.int (p1 &&& (255 : Int32)))] [])
    refine own_go (fun t k => XS.iloadN X0.here hx rfl (hb hby at_16) rfl k) ?_
    show own_End _ _ _ _ _ _ _ s₁ (mkF m 17 #[.val (.int p1), .val (.int p2), .val (.int (p1 &&& (255 : Int32)))] [(.int (p1 &&& (255 : Int32)))])
    obtain ⟨v5, T5, L5, X5, hQ5, st5⟩ := own_callS (y := (⟨"com/example/stamped_envelope/stampedenvelope/core/MediaType", "isTokenCharacter", "(I)Z"⟩ : MethodName)) X0 hx hZ hown (hw _ (List.mem_of_getElem? (i := 0) rfl)) (hw _ (List.mem_of_getElem? (i := 1) rfl)) (hw _ (List.mem_of_getElem? (i := 3) rfl)) (by decide) (hw _ (List.mem_of_getElem? (i := 2) rfl)) (rm1 l Z a0 hw [] (p1 &&& (255 : Int32)) w cl tok h0 n0 Z0 S Ar Sz hv) e0 (W := 0) (by decide) (by decide) (g := (mkF m 17 #[.val (.int p1), .val (.int p2), .val (.int (p1 &&& (255 : Int32)))] [(.int (p1 &&& (255 : Int32)))])) rfl (by rw [hml]; rfl) (argsL := [(.int (p1 &&& (255 : Int32)))]) (rest := []) rfl (lenOf pd__I_Z rfl) rfl (by show 2 * 0 + _ ≤ _; exact Nat.le_of_eq rfl) (hb hby at_17) (by decide) (by decide)
    obtain ⟨rfl, N5q, e5⟩ := hQ5
    have N5 := Fr.app N0 N5q
    refine own_go st5 ?_
    show own_End _ _ _ _ _ _ _ T5 (mkF m 20 #[.val (.int p1), .val (.int p2), .val (.int (p1 &&& (255 : Int32)))] [(.int (own_tok (p1 &&& (255 : Int32)) tok))])
    refine own_go (fun t k => XS.iloadN X5.here hx rfl (hb hby at_20) rfl k) ?_
    show own_End _ _ _ _ _ _ _ T5 (mkF m 21 #[.val (.int p1), .val (.int p2), .val (.int (p1 &&& (255 : Int32)))] [(.int (p1 &&& (255 : Int32))), (.int (own_tok (p1 &&& (255 : Int32)) tok))])
    obtain ⟨v6, T6, L6, X6, hQ6, st6⟩ := own_callS (y := (⟨"com/example/stamped_envelope/stampedenvelope/core/MediaTypeIsTokenCharacterPinLaw", "tchar", "(I)Z"⟩ : MethodName)) X5 hx hZ hown (hw _ (List.mem_of_getElem? (i := 6) rfl)) (hw _ (List.mem_of_getElem? (i := 7) rfl)) (hw _ (List.mem_of_getElem? (i := 9) rfl)) (by decide) (hw _ (List.mem_of_getElem? (i := 8) rfl)) (rm2 l Z a0 hw [] (p1 &&& (255 : Int32)) h0 n0 Z0) e5 (W := 1) (by decide) (by decide) (g := (mkF m 21 #[.val (.int p1), .val (.int p2), .val (.int (p1 &&& (255 : Int32)))] [(.int (p1 &&& (255 : Int32))), (.int (own_tok (p1 &&& (255 : Int32)) tok))])) rfl (by rw [hml]; rfl) (argsL := [(.int (p1 &&& (255 : Int32)))]) (rest := [(.int (own_tok (p1 &&& (255 : Int32)) tok))]) rfl (lenOf pd__I_Z rfl) rfl (by show 2 * 0 + _ ≤ _; exact Nat.le_of_eq rfl) (hb hby at_21) (by decide) (by decide)
    obtain ⟨rfl, N6q, e6⟩ := hQ6
    have N6 := Fr.app N5 N6q
    refine own_go st6 ?_
    show own_End _ _ _ _ _ _ _ T6 (mkF m 24 #[.val (.int p1), .val (.int p2), .val (.int (p1 &&& (255 : Int32)))] [(.int (own_tchar (p1 &&& (255 : Int32)))), (.int (own_tok (p1 &&& (255 : Int32)) tok))])
    refine own_go (fun t k => XS.icmpNo X6.here hx rfl (hb hby at_24) rfl (teq (hk (p1 &&& (255 : Int32)))).2 k) ?_
    show own_End _ _ _ _ _ _ _ T6 (mkF m 27 #[.val (.int p1), .val (.int p2), .val (.int (p1 &&& (255 : Int32)))] [])
    refine own_go (fun t k => XS.iconst X6.here hx rfl (hb hby at_27) k) ?_
    show own_End _ _ _ _ _ _ _ T6 (mkF m 28 #[.val (.int p1), .val (.int p2), .val (.int (p1 &&& (255 : Int32)))] [(.int (1 : Int32))])
    refine own_go (fun t k => XS.goto X6.here hx rfl (pc0 := 28) (pc' := 32) rfl (hb hby at_28) (by decide) (by decide) k) ?_
    show own_End _ _ _ _ _ _ _ T6 (mkF m 32 #[.val (.int p1), .val (.int p2), .val (.int (p1 &&& (255 : Int32)))] [(.int (1 : Int32))])
    exact own_retW X6 hx Bd.returns Bd.notSynchronized rfl (Or.inl ⟨rfl, by simp, _, rfl⟩) (hb hby at_32) ⟨rfl, N6⟩ (by decide) (by decide)
theorem own_reg : ∀ k : Nat, k < 127 → (0 ≤ k → k < 33 → own_tchar (Int32.ofNat k) = 0) ∧ (35 ≤ k → k < 40 → own_tchar (Int32.ofNat k) = 1) ∧ (48 ≤ k → k < 58 → own_tchar (Int32.ofNat k) = 1) ∧ (58 ≤ k → k < 65 → own_tchar (Int32.ofNat k) = 0) ∧ (65 ≤ k → k < 91 → own_tchar (Int32.ofNat k) = 1) ∧ (94 ≤ k → k < 123 → own_tchar (Int32.ofNat k) = 1) := by decide +kernel
theorem own_nosym {c : Int32} (h : c < 0 ∨ ¬ c < 127) : own_sym c = 0 := by
  unfold own_sym
  rw [if_neg]
  intro q
  rcases q with rfl | rfl | rfl | rfl | rfl | rfl | rfl | rfl | rfl | rfl | rfl | rfl | rfl | rfl | rfl <;> revert h <;> decide
theorem own_out {c : Int32} (h : c < 0 ∨ ¬ c < 127) : own_tchar c = 0 := by
  have hs := own_nosym h
  have e (k : Int32) (n : Int) (q : k.toInt = n := by rfl) : k.toInt = n := q
  have e0 := e 0 0; have e1 := e 48 48; have e2 := e 57 57; have e3 := e 97 97; have e4 := e 122 122; have e5 := e 65 65; have e6 := e 90 90; have e7 := e 127 127
  have hd : own_dig c = 0 := by
    unfold own_dig
    split
    · rfl
    · split
      · rfl
      · simp only [Int32.lt_iff_toInt_lt] at *; omega
  have hl : own_low c = 0 := by
    unfold own_low
    split
    · rfl
    · split
      · rfl
      · simp only [Int32.lt_iff_toInt_lt] at *; omega
  have ha : own_alp c = 0 := by
    unfold own_alp
    split
    · exact hl
    · split
      · exact hl
      · simp only [Int32.lt_iff_toInt_lt] at *; omega
  simp [own_tchar, own_or, hd, ha, hs]
theorem own_in {c : Int32} (h0 : ¬ c < 0) (h1 : c < 127) : ∃ k : Nat, k < 127 ∧ c = Int32.ofNat k := by
  have e0 : (0 : Int32).toInt = 0 := rfl
  have e7 : (127 : Int32).toInt = 127 := rfl
  rw [Int32.lt_iff_toInt_lt] at h0 h1
  refine ⟨c.toInt.toNat, by omega, ?_⟩
  rw [← Int32.toInt_inj, Int32.toInt_ofNat_of_lt (by omega)]
  omega
theorem own_cmp {k : Nat} (hk : k < 127) (m : Nat) (hm : m ≤ 127) : (Int32.ofNat k < Int32.ofNat m ↔ k < m) ∧ (Int32.ofNat m ≤ Int32.ofNat k ↔ m ≤ k) := by
  rw [Int32.lt_iff_toInt_lt, Int32.le_iff_toInt_le, Int32.toInt_ofNat_of_lt (by omega), Int32.toInt_ofNat_of_lt (by omega)]
  omega
theorem own_tabs {t : Int32 → Int32} (r0 : ∀ j : Int32, ¬ j < 0 → j < 127 → ¬ 33 ≤ j → t j = 0) (r35 : ∀ j : Int32, ¬ j < 0 → j < 127 → ¬ j < 35 → ¬ 40 ≤ j → t j = 1) (r48 : ∀ j : Int32, ¬ j < 0 → j < 127 → ¬ j < 48 → ¬ 58 ≤ j → t j = 1) (r58 : ∀ j : Int32, ¬ j < 0 → j < 127 → ¬ j < 58 → ¬ 65 ≤ j → t j = 0) (r65 : ∀ j : Int32, ¬ j < 0 → j < 127 → ¬ j < 65 → ¬ 91 ≤ j → t j = 1) (r94 : ∀ j : Int32, ¬ j < 0 → j < 127 → ¬ j < 94 → ¬ 123 ≤ j → t j = 1) (p33 : t 33 = 1) (p34 : t 34 = 0) (p40 : t 40 = 0) (p41 : t 41 = 0) (p42 : t 42 = 1) (p43 : t 43 = 1) (p44 : t 44 = 0) (p45 : t 45 = 1) (p46 : t 46 = 1) (p47 : t 47 = 0) (p91 : t 91 = 0) (p92 : t 92 = 0) (p93 : t 93 = 0) (p123 : t 123 = 0) (p124 : t 124 = 1) (p125 : t 125 = 0) (p126 : t 126 = 1) :
    ∀ c : Int32, ¬ c < 0 → c < 127 → (if t c = 0 then (0 : Int32) else 1) = own_tchar c := by
  intro c h0 h1
  obtain ⟨k, hk, rfl⟩ := own_in h0 h1
  obtain ⟨g0, g35, g48, g58, g65, g94⟩ := own_reg k hk
  rcases (by omega : (0 ≤ k ∧ k < 33) ∨ (35 ≤ k ∧ k < 40) ∨ (48 ≤ k ∧ k < 58) ∨ (58 ≤ k ∧ k < 65) ∨ (65 ≤ k ∧ k < 91) ∨ (94 ≤ k ∧ k < 123) ∨ k = 33 ∨ k = 34 ∨ k = 40 ∨ k = 41 ∨ k = 42 ∨ k = 43 ∨ k = 44 ∨ k = 45 ∨ k = 46 ∨ k = 47 ∨ k = 91 ∨ k = 92 ∨ k = 93 ∨ k = 123 ∨ k = 124 ∨ k = 125 ∨ k = 126) with ⟨q1, q2⟩ | ⟨q1, q2⟩ | ⟨q1, q2⟩ | ⟨q1, q2⟩ | ⟨q1, q2⟩ | ⟨q1, q2⟩ | rfl | rfl | rfl | rfl | rfl | rfl | rfl | rfl | rfl | rfl | rfl | rfl | rfl | rfl | rfl | rfl | rfl
  · rw [g0 q1 q2, r0 _ h0 h1 (fun q => by have := (own_cmp hk 33 (by decide)).2.mp q; omega)]; rfl
  · rw [g35 q1 q2, r35 _ h0 h1 (fun q => by have := (own_cmp hk 35 (by decide)).1.mp q; omega) (fun q => by have := (own_cmp hk 40 (by decide)).2.mp q; omega)]; rfl
  · rw [g48 q1 q2, r48 _ h0 h1 (fun q => by have := (own_cmp hk 48 (by decide)).1.mp q; omega) (fun q => by have := (own_cmp hk 58 (by decide)).2.mp q; omega)]; rfl
  · rw [g58 q1 q2, r58 _ h0 h1 (fun q => by have := (own_cmp hk 58 (by decide)).1.mp q; omega) (fun q => by have := (own_cmp hk 65 (by decide)).2.mp q; omega)]; rfl
  · rw [g65 q1 q2, r65 _ h0 h1 (fun q => by have := (own_cmp hk 65 (by decide)).1.mp q; omega) (fun q => by have := (own_cmp hk 91 (by decide)).2.mp q; omega)]; rfl
  · rw [g94 q1 q2, r94 _ h0 h1 (fun q => by have := (own_cmp hk 94 (by decide)).1.mp q; omega) (fun q => by have := (own_cmp hk 123 (by decide)).2.mp q; omega)]; rfl
  · rw [show t (Int32.ofNat 33) = 1 from p33]; decide +kernel
  · rw [show t (Int32.ofNat 34) = 0 from p34]; decide +kernel
  · rw [show t (Int32.ofNat 40) = 0 from p40]; decide +kernel
  · rw [show t (Int32.ofNat 41) = 0 from p41]; decide +kernel
  · rw [show t (Int32.ofNat 42) = 1 from p42]; decide +kernel
  · rw [show t (Int32.ofNat 43) = 1 from p43]; decide +kernel
  · rw [show t (Int32.ofNat 44) = 0 from p44]; decide +kernel
  · rw [show t (Int32.ofNat 45) = 1 from p45]; decide +kernel
  · rw [show t (Int32.ofNat 46) = 1 from p46]; decide +kernel
  · rw [show t (Int32.ofNat 47) = 0 from p47]; decide +kernel
  · rw [show t (Int32.ofNat 91) = 0 from p91]; decide +kernel
  · rw [show t (Int32.ofNat 92) = 0 from p92]; decide +kernel
  · rw [show t (Int32.ofNat 93) = 0 from p93]; decide +kernel
  · rw [show t (Int32.ofNat 123) = 0 from p123]; decide +kernel
  · rw [show t (Int32.ofNat 124) = 1 from p124]; decide +kernel
  · rw [show t (Int32.ofNat 125) = 0 from p125]; decide +kernel
  · rw [show t (Int32.ofNat 126) = 1 from p126]; decide +kernel
theorem own_plain {t : Int32 → Int32} (ht : ∀ c : Int32, ¬ c < 0 → c < 127 → (if t c = 0 then (0 : Int32) else 1) = own_tchar c) : ∀ c, own_tok c t = own_tchar c := by
  intro c
  unfold own_tok
  split
  · rename_i h; exact (own_out (Or.inl h)).symm
  · split
    · rename_i h0 h1; exact ht c h0 h1
    · rename_i h0 h1; exact (own_out (Or.inr h1)).symm
theorem own_pt {args : Array Value} {s : State} {A : Term} {w : Addr} {cl : Cell} (ev : ∀ idx, A.eval args s none idx s = some (.ref w)) (Ar : Arr s s.heap w cl .boolean) (hv : ∀ j : Int32, ¬ j < 0 → j < 127 → cl.slots[j.toNatClampNeg]? = some (.int (atv cl j))) {k r : Int32} (h : (Jvm.Cond.eq (.elem A (.int k)) (.int r)).value args s none s [] = some true) (h0 : ¬ k < 0) (h1 : k < 127) : atv cl k = r :=
  gotT (Cond.eq_ints ((elem_f (ev []) (Term.int_eval k) (Ar.fin (Vm.Alike.refl _)) h0).trans (hv _ h0 h1)) (Term.int_eval r)) h
theorem own_idx {cl : Cell} (Sz : cl.slots.size = (127 : Int32).toNatClampNeg) {j : Int32} (h0 : ¬ j < 0) (h1 : j < 127) : j.toNatClampNeg < cl.slots.size := Nat.lt_of_not_le fun q => inb_of Sz ⟨h0, h1⟩ (Or.inr q)
theorem own_rg {args : Array Value} {s : State} {A : Term} {w : Addr} {cl : Cell} (ev : ∀ idx, A.eval args s none idx s = some (.ref w)) (Ar : Arr s s.heap w cl .boolean) (Sz : cl.slots.size = (127 : Int32).toNatClampNeg) (hv : ∀ j : Int32, ¬ j < 0 → j < 127 → cl.slots[j.toNatClampNeg]? = some (.int (atv cl j))) {lo hi r : Int32}
    (h : (Jvm.Cond.all A (.or (.lt (.index 0) (.int lo)) (.or (.le (.int hi) (.index 0)) (.eq (.elem A (.index 0)) (.int r))))).value args s none s [] = some true) : ∀ j : Int32, ¬ j < 0 → j < 127 → ¬ j < lo → ¬ hi ≤ j → atv cl j = r := by
  intro j h0 h1 h2 h3
  have q := Cond.all_elim (ev []) (Ar.fin (Vm.Alike.refl _)) h j.toNatClampNeg (own_idx Sz h0 h1)
  rw [Cond.or_of_right (nay (Cond.lt_ints (idx_at h0) (Term.int_eval lo)) h2), Cond.or_of_right (nay (Cond.le_ints (Term.int_eval hi) (idx_at h0)) h3)] at q
  exact gotT (Cond.eq_ints ((elem_f (ev _) (idx_at h0) (Ar.fin (Vm.Alike.refl _)) h0).trans (hv _ h0 h1)) (Term.int_eval r)) q
theorem own_rg0 {args : Array Value} {s : State} {A : Term} {w : Addr} {cl : Cell} (ev : ∀ idx, A.eval args s none idx s = some (.ref w)) (Ar : Arr s s.heap w cl .boolean) (Sz : cl.slots.size = (127 : Int32).toNatClampNeg) (hv : ∀ j : Int32, ¬ j < 0 → j < 127 → cl.slots[j.toNatClampNeg]? = some (.int (atv cl j))) {hi r : Int32}
    (h : (Jvm.Cond.all A (.or (.le (.int hi) (.index 0)) (.eq (.elem A (.index 0)) (.int r)))).value args s none s [] = some true) : ∀ j : Int32, ¬ j < 0 → j < 127 → ¬ hi ≤ j → atv cl j = r := by
  intro j h0 h1 h3
  have q := Cond.all_elim (ev []) (Ar.fin (Vm.Alike.refl _)) h j.toNatClampNeg (own_idx Sz h0 h1)
  rw [Cond.or_of_right (nay (Cond.le_ints (Term.int_eval hi) (idx_at h0)) h3)] at q
  exact gotT (Cond.eq_ints ((elem_f (ev _) (idx_at h0) (Ar.fin (Vm.Alike.refl _)) h0).trans (hv _ h0 h1)) (Term.int_eval r)) q
theorem own_atv {cl : Cell} {j v : Int32} (h : cl.slots[j.toNatClampNeg]? = some (.int v)) : atv cl j = v := by
  show (match cl.slots[j.toNatClampNeg]? with | some (.int x) => x | _ => 0) = v
  rw [h]
theorem own_size {args : Array Value} {s : State} {A : Term} {w : Addr} {cl : Cell} {ty : FieldType} {n : Int32} (ev : A.eval args s none [] s = some (.ref w)) (Ar : Arr s s.heap w cl ty) (h : (Jvm.Cond.eq (.length A) (.int n)).value args s none s [] = some true) : cl.slots.size = n.toNatClampNeg := by
  have ha := Ar.fin (Vm.Alike.refl _)
  by_cases q : cl.slots.size < 2 ^ 31
  · have e := gotT (Cond.eq_ints (len_f ev ha q) (Term.int_eval n)) h
    exact (clamp_of (c := cl.slots.size) e.symm q).symm
  · have e : (Term.length A).eval args s none [] s = none := by simp [Term.eval, ev, ha, q]
    simp [Cond.value, e] at h
set_option maxRecDepth 65536 in
set_option maxHeartbeats 40000000 in
theorem comes_1 {Post : Tables → Env → Array Value → State → Outcome → State → Prop} (hpost : ∀ tb e args s v u, (limb_1_1.after args s (.returned v) u = true ∧ limb_1_2.after args s (.returned v) u = true ∧ True) → FrameEnd s (.returned v) u (Jvm.fieldLocs frame_1_writes args s ++ Jvm.arrayLocs frame_1_arrays args s ++ Jvm.staticLocs frame_1_statics s) 0 0 → Post tb e args s (.returned v) u) :
    ArmFor flags0 classFile x code maxLocals ret World_1 tables_1 room_1 Calls_1 rest_1 Pre_1 Post := by
  intro l hfl _ _ p e ha hc hk s m args below hf hA hF happ hP
  obtain ⟨hcalls, hrest, hpre⟩ := hP
  obtain ⟨-, -, -, hnamed, -, -, -, hat⟩ := (Spec.applies_iff hf).mp happ
  obtain ⟨hg, hn⟩ := and_e (Cond.before_iff.mp (show (Jvm.Cond.and given_1 narrow_1).before args s = true from hpre))
  obtain ⟨gc, gr0⟩ := and_e hg
  obtain ⟨gi0, gr1⟩ := and_e gr0
  obtain ⟨w0, w1, rfl⟩ : ∃ w0 w1 : Value, args = #[w0, w1] := by
    have hs : args.size = 2 := by simpa [Cond.value, given_1] using gc
    obtain ⟨L⟩ := args
    match L, hs with
    | [w0, w1], _ => exact ⟨w0, w1, rfl⟩
  have hw := fun d (hd : d ∈ tables_1) => atoms_spec (ws := Jvm.Cond.code x code maxLocals ret :: tables_1) hat d (List.mem_cons_of_mem _ hd)
  have hfit : Fit s := fun {y c} hc i hi => by
    obtain ⟨ha, rfl⟩ := Array.getElem?_eq_some_iff.mp hc
    have q := List.all_eq_true.mp ((Array.all_eq_true_iff_forall_mem.mp hF) _ (Array.getElem_mem ha)) i (List.mem_range.mpr hi)
    simpa [Array.getElem?_eq_getElem hi] using q
  obtain ⟨i0, ei0⟩ := is_v gi0
  obtain rfl : w0 = (.int i0) := Option.some.inj ei0
  obtain ⟨i1, ei1⟩ := is_v gr1
  obtain rfl : w1 = (.int i1) := Option.some.inj ei1
  obtain ⟨nxa, hn⟩ := and_e hn
  obtain ⟨nxl, hn⟩ := and_e hn
  obtain ⟨nr0, hn⟩ := and_e hn
  obtain ⟨np33, hn⟩ := and_e hn
  obtain ⟨np34, hn⟩ := and_e hn
  obtain ⟨nr35, hn⟩ := and_e hn
  obtain ⟨np40, hn⟩ := and_e hn
  obtain ⟨np41, hn⟩ := and_e hn
  obtain ⟨np42, hn⟩ := and_e hn
  obtain ⟨np43, hn⟩ := and_e hn
  obtain ⟨np44, hn⟩ := and_e hn
  obtain ⟨np45, hn⟩ := and_e hn
  obtain ⟨np46, hn⟩ := and_e hn
  obtain ⟨np47, hn⟩ := and_e hn
  obtain ⟨nr48, hn⟩ := and_e hn
  obtain ⟨nr58, hn⟩ := and_e hn
  obtain ⟨nr65, hn⟩ := and_e hn
  obtain ⟨np91, hn⟩ := and_e hn
  obtain ⟨np92, hn⟩ := and_e hn
  obtain ⟨np93, hn⟩ := and_e hn
  obtain ⟨nr94, hn⟩ := and_e hn
  obtain ⟨np123, hn⟩ := and_e hn
  obtain ⟨np124, hn⟩ := and_e hn
  obtain ⟨np125, hn⟩ := and_e hn
  obtain ⟨w, ev⟩ := arr_v nxa
  obtain ⟨cl, Ar⟩ := Arr.start ev nxa
  have evs : ∀ idx, (Term.static "com/example/stamped_envelope/stampedenvelope/core/MediaType" "TOKEN" "[Z").eval #[.int i0, .int i1] s none idx s = some (.ref w) := fun _ => ev
  have Sz : cl.slots.size = (127 : Int32).toNatClampNeg := own_size ev Ar nxl
  have hv : ∀ j : Int32, ¬ j < 0 → j < 127 → cl.slots[j.toNatClampNeg]? = some (.int (atv cl j)) := fun j h0 h1 => by
    obtain ⟨v, e1, e2⟩ := elem_fit hfit Ar (inb_of Sz ⟨h0, h1⟩)
    obtain ⟨z, rfl⟩ := fit_I e2 (by simp)
    rw [e1, own_atv e1]
  have S := Sta.start ev (Or.inr ⟨(hw _ (List.mem_of_getElem? (i := 2) rfl)), (hw _ (List.mem_of_getElem? (i := 5) rfl))⟩)
  have hkk := own_plain (own_tabs (own_rg0 evs Ar Sz hv nr0) (own_rg evs Ar Sz hv nr35) (own_rg evs Ar Sz hv nr48) (own_rg evs Ar Sz hv nr58) (own_rg evs Ar Sz hv nr65) (own_rg evs Ar Sz hv nr94) (own_pt evs Ar hv np33 (by decide) (by decide)) (own_pt evs Ar hv np34 (by decide) (by decide)) (own_pt evs Ar hv np40 (by decide) (by decide)) (own_pt evs Ar hv np41 (by decide) (by decide)) (own_pt evs Ar hv np42 (by decide) (by decide)) (own_pt evs Ar hv np43 (by decide) (by decide)) (own_pt evs Ar hv np44 (by decide) (by decide)) (own_pt evs Ar hv np45 (by decide) (by decide)) (own_pt evs Ar hv np46 (by decide) (by decide)) (own_pt evs Ar hv np47 (by decide) (by decide)) (own_pt evs Ar hv np91 (by decide) (by decide)) (own_pt evs Ar hv np92 (by decide) (by decide)) (own_pt evs Ar hv np93 (by decide) (by decide)) (own_pt evs Ar hv np123 (by decide) (by decide)) (own_pt evs Ar hv np124 (by decide) (by decide)) (own_pt evs Ar hv np125 (by decide) (by decide)) (own_pt evs Ar hv hn (by decide) (by decide)))
  obtain ⟨n, o, h1, h2, h3, _, L, rfl, ⟨rfl, N⟩, hq⟩ := rm0 l s _ hw tables_1 i0 i1 w cl (atv cl) s.heap s.heap.size (Nat.le_refl _) S Ar Sz hv hkk p e ha hc hk s m _ below hf ((Spec.applies_iff_loose hf).mp happ).1 ⟨rfl, State.Warmed39.refl s, rfl⟩ trivial
  refine ⟨n, _, h1, h2, h3, hpost _ _ _ _ _ _ ⟨Cond.after_iff.mpr rfl, Cond.after_iff.mpr (eq_i res_at (Term.int_eval (1)) rfl), trivial⟩ ⟨hq.1, hq.2.1, (hq.2.2.sift fun y hy => Or.inr (N y hy)).mono (by decide) (by decide)⟩⟩
theorem main_1_1 : Claimed_1_1 := comes_1 fun _ _ _ _ _ _ h hF => ⟨h.1, hF⟩
theorem main_1_2 : Claimed_1_2 := comes_1 fun _ _ _ _ _ _ h hF => ⟨h.2.1, hF⟩
end Jvm.Pilot.@@N@@
namespace Jvm.Pilot.@@N@@
open Jvm Jvm.ClassFile Sem Op Lib Jvm.Free Jvm.Stand Jvm.Pilot.@@N@@.Jvm.D
/-! MADE BY PROGRAM (witnessworld.py) out of the Statement's table words and the real class files: 11 classes; the members and pool entries that the words name. The judged class is class 1, her method 2. -/
namespace start1
open Jvm.ClassFile
def u (s : String) : CpInfo := .utf8 (stringToUtf16 s)
/-- a pool by its gaps: so many unusable entries, then the entry; so many at the end -/
def gap : Nat → List CpInfo → List CpInfo
  | 0, r => r
  | n + 1, r => .unusable :: gap n r
def poolList (es : List (Nat × CpInfo)) (last : Nat) : List CpInfo := es.foldr (fun e r => gap e.1 (e.2 :: r)) (gap last [])
def pool (es : List (Nat × CpInfo)) (last : Nat) : Array CpInfo := ⟨poolList es last⟩
def fileOf (pool : Array CpInfo) (this : Nat) (attrs : Array Attribute := #[]) (ms : Array MethodInfo := #[]) (fl : Nat := 33) (sup : Nat := 0) (ifs : Array Nat := #[]) (fds : Array FieldInfo := #[]) : ClassFile where
  minorVersion := 0
  majorVersion := 65
  constantPool := pool
  accessFlags := fl
  thisClass := this
  superClass := sup
  interfaces := ifs
  fields := fds
  methods := ms
  attributes := attrs
def plain (name : String) (sup : Option ClassId) : Class where
  name := name
  kind := .ordinary
  loader := none
  accessFlags := 33
  super := sup
  interfaces := #[]
  cf := none
  fields := #[]
  methods := #[]
  instanceTypes := #[]
  staticTypes := #[]
  resolved := #[]
  callSites := []
  init := .initialized
  statics := none
  mirror := none

def pool0 : Array CpInfo := pool [(5, u "<init>"), (0, u "()V"), (1, .class_ 10), (1, u "java/lang/Object")] 113

def k0m0 : Method := { name := "<init>", desc := "()V", sig := { parameters := [], returnType := none }, accessFlags := 1, code := none }
/-- java/lang/Object -/
def k0 : Class := { plain "java/lang/Object" none with
  accessFlags := 33
  interfaces := #[]
  cf := some (fileOf pool0 8 #[] #[{ accessFlags := 1, nameIndex := 5, descriptorIndex := 6, attributes := #[] }] 33 0 #[] #[])
  fields := #[]
  methods := #[k0m0]
  instanceTypes := #[]
  staticTypes := #[]
  resolved := Array.replicate 124 none
  statics := none }

def pool1 : Array CpInfo := pool [(2, .class_ 4), (1, u "java/lang/Object"), (0, u "<init>"), (0, u "()V"), (0, .methodref 8 9), (0, .class_ 10), (0, .nameAndType 11 12), (0, u "com/example/stamped_envelope/stampedenvelope/core/MediaType"), (0, u "isTokenCharacter"), (0, u "(I)Z"), (0, .methodref 14 15), (0, .class_ 16), (0, .nameAndType 17 12), (0, u "com/example/stamped_envelope/stampedenvelope/core/MediaTypeIsTokenCharacterPinLaw"), (0, u "tchar"), (3, u "law"), (0, u "(II)Z")] 2

def k1m0 : Method := { name := "<init>", desc := "()V", sig := { parameters := [], returnType := none }, accessFlags := 2, code := none }
def k1c1 : Code := { maxStack := 2, maxLocals := 4, code := method_2_code, exceptionTable := #[], attributes := #[] }
def k1m1 : Method := { name := "tchar", desc := "(I)Z", sig := { parameters := [.int], returnType := some .boolean }, accessFlags := 10, code := some k1c1 }
def k1c2 : Code := { maxStack := 2, maxLocals := 3, code := code, exceptionTable := #[], attributes := #[] }
def k1m2 : Method := { name := "law", desc := "(II)Z", sig := { parameters := [.int, .int], returnType := some .boolean }, accessFlags := 9, code := some k1c2 }
/-- com/example/stamped_envelope/stampedenvelope/core/MediaTypeIsTokenCharacterPinLaw -/
def k1 : Class := { plain "com/example/stamped_envelope/stampedenvelope/core/MediaTypeIsTokenCharacterPinLaw" (some 0) with
  accessFlags := 49
  interfaces := #[]
  cf := some (fileOf pool1 14 #[] #[{ accessFlags := 2, nameIndex := 5, descriptorIndex := 6, attributes := #[] }, { accessFlags := 10, nameIndex := 17, descriptorIndex := 12, attributes := #[] }, { accessFlags := 9, nameIndex := 21, descriptorIndex := 22, attributes := #[] }] 49 2 #[] #[])
  fields := #[]
  methods := #[k1m0, k1m1, k1m2]
  instanceTypes := #[]
  staticTypes := #[]
  resolved := Array.replicate 25 none
  statics := none }

def pool2 : Array CpInfo := pool [(2, .class_ 4), (1, u "java/lang/Object"), (3, .class_ 10), (1, u "com/example/stamped_envelope/stampedenvelope/core/MediaType"), (0, u "text"), (0, u "Ljava/lang/String;"), (2, u "type"), (2, u "subtype"), (0, .class_ 20), (0, u "com/example/stamped_envelope/stampedenvelope/core/MediaType$Scanner"), (89, .fieldref 8 111), (0, .nameAndType 112 113), (0, u "TOKEN"), (0, u "[Z"), (2, u "JSON"), (1, u "SEPARATORS"), (14, u "isTokenCharacter"), (0, u "(I)Z")] 9

def k2c0 : Code := { maxStack := 2, maxLocals := 1, code := prog_21_method_11_code, exceptionTable := #[], attributes := #[] }
def k2m0 : Method := { name := "isTokenCharacter", desc := "(I)Z", sig := { parameters := [.int], returnType := some .boolean }, accessFlags := 9, code := some k2c0 }
/-- com/example/stamped_envelope/stampedenvelope/core/MediaType -/
def k2 : Class := { plain "com/example/stamped_envelope/stampedenvelope/core/MediaType" (some 0) with
  accessFlags := 49
  interfaces := #[]
  cf := some (fileOf pool2 8 #[.nestMembers #[19]] #[{ accessFlags := 9, nameIndex := 133, descriptorIndex := 134, attributes := #[] }] 49 2 #[] #[{ accessFlags := 26, nameIndex := 116, descriptorIndex := 12, attributes := #[] }, { accessFlags := 26, nameIndex := 118, descriptorIndex := 12, attributes := #[] }, { accessFlags := 26, nameIndex := 112, descriptorIndex := 113, attributes := #[] }, { accessFlags := 18, nameIndex := 11, descriptorIndex := 12, attributes := #[] }, { accessFlags := 18, nameIndex := 15, descriptorIndex := 12, attributes := #[] }, { accessFlags := 18, nameIndex := 18, descriptorIndex := 12, attributes := #[] }])
  fields := #[{ name := "JSON", type := (.object "java/lang/String"), accessFlags := 26, slot := 0, constantValue := 0 }, { name := "SEPARATORS", type := (.object "java/lang/String"), accessFlags := 26, slot := 1, constantValue := 0 }, { name := "TOKEN", type := (.array .boolean), accessFlags := 26, slot := 2, constantValue := 0 }, { name := "text", type := (.object "java/lang/String"), accessFlags := 18, slot := 0, constantValue := 0 }, { name := "type", type := (.object "java/lang/String"), accessFlags := 18, slot := 1, constantValue := 0 }, { name := "subtype", type := (.object "java/lang/String"), accessFlags := 18, slot := 2, constantValue := 0 }]
  methods := #[k2m0]
  instanceTypes := #[(.object "java/lang/String"), (.object "java/lang/String"), (.object "java/lang/String")]
  staticTypes := #[(.object "java/lang/String"), (.object "java/lang/String"), (.array .boolean)]
  resolved := Array.replicate 144 none
  statics := some 0 }

def pool3 : Array CpInfo := pool [(1, u "java/lang/Cloneable"), (0, .class_ 1), (0, u "java/lang/Object"), (0, .class_ 3)] 3

/-- java/lang/Cloneable -/
def k3 : Class := { plain "java/lang/Cloneable" (some 0) with
  accessFlags := 1537
  interfaces := #[]
  cf := some (fileOf pool3 2 #[] #[] 1537 4 #[] #[])
  fields := #[]
  methods := #[]
  instanceTypes := #[]
  staticTypes := #[]
  resolved := Array.replicate 8 none
  statics := none }

def pool4 : Array CpInfo := pool [(1, u "java/io/Serializable"), (0, .class_ 1), (0, u "java/lang/Object"), (0, .class_ 3)] 3

/-- java/io/Serializable -/
def k4 : Class := { plain "java/io/Serializable" (some 0) with
  accessFlags := 1537
  interfaces := #[]
  cf := some (fileOf pool4 2 #[] #[] 1537 4 #[] #[])
  fields := #[]
  methods := #[]
  instanceTypes := #[]
  staticTypes := #[]
  resolved := Array.replicate 8 none
  statics := none }

/-- the primitive boolean -/
def k5 : Class := { plain "boolean" none with kind := .primitive 'Z', accessFlags := 0x411 }
/-- [Z -/
def k6 : Class := { plain "[Z" (some 0) with kind := .array 5 .boolean, interfaces := #[3, 4], accessFlags := 1041 }

/-- the primitive byte -/
def k7 : Class := { plain "byte" none with kind := .primitive 'B', accessFlags := 0x411 }
/-- [B -/
def k8 : Class := { plain "[B" (some 0) with kind := .array 7 .byte, interfaces := #[3, 4], accessFlags := 1041 }

/-- the primitive int -/
def k9 : Class := { plain "int" none with kind := .primitive 'I', accessFlags := 0x411 }
/-- [I -/
def k10 : Class := { plain "[I" (some 0) with kind := .array 9 .int, interfaces := #[3, 4], accessFlags := 1041 }

def heap : Heap := #[{ cls := 2, slots := #[.null, .null, .ref 1], vm := .statics 2 },
  { cls := 6, slots := #[.int 0, .int 0, .int 0, .int 0, .int 0, .int 0, .int 0, .int 0, .int 0, .int 0, .int 0, .int 0, .int 0, .int 0, .int 0, .int 0, .int 0, .int 0, .int 0, .int 0, .int 0, .int 0, .int 0, .int 0, .int 0, .int 0, .int 0, .int 0, .int 0, .int 0, .int 0, .int 0, .int 0, .int 1, .int 0, .int 1, .int 1, .int 1, .int 1, .int 1, .int 0, .int 0, .int 1, .int 1, .int 0, .int 1, .int 1, .int 0, .int 1, .int 1, .int 1, .int 1, .int 1, .int 1, .int 1, .int 1, .int 1, .int 1, .int 0, .int 0, .int 0, .int 0, .int 0, .int 0, .int 0, .int 1, .int 1, .int 1, .int 1, .int 1, .int 1, .int 1, .int 1, .int 1, .int 1, .int 1, .int 1, .int 1, .int 1, .int 1, .int 1, .int 1, .int 1, .int 1, .int 1, .int 1, .int 1, .int 1, .int 1, .int 1, .int 1, .int 0, .int 0, .int 0, .int 1, .int 1, .int 1, .int 1, .int 1, .int 1, .int 1, .int 1, .int 1, .int 1, .int 1, .int 1, .int 1, .int 1, .int 1, .int 1, .int 1, .int 1, .int 1, .int 1, .int 1, .int 1, .int 1, .int 1, .int 1, .int 1, .int 1, .int 1, .int 1, .int 0, .int 1, .int 0, .int 1], vm := .none }]
def classes : Array Class := #[k0, k1, k2, k3, k4, k5, k6, k7, k8, k9, k10]
def interned : List (Array UInt16 × Addr) := []
def slotsUsed : Nat := 130
def theMethod : MethodId := ⟨1, 2⟩
def args0 : Array Value := #[.int 5, .int 7]
def aboutOver (below : List Frame) : State where
  vm := { classes := classes, interned := interned.toArray }
  heap := heap
  slotsUsed := slotsUsed
  threads := #[{ frames := .invoking theMethod args0 :: below }]
def below0 : List Frame := [.native { method := ⟨0, 0⟩, args := #[] }]
def about1 : State := aboutOver below0
def p0 : Program := .bare "" "" ""
def e0 : Env := launch0.env 0 0 0
theorem w_frames : about1.frames = Frame.invoking theMethod args0 :: below0 := rfl
set_option maxRecDepth 65536 in
theorem w_args : argsFit about1.vm theMethod args0 = true := by decide +kernel
set_option maxRecDepth 65536 in
theorem w_heap : heapFits about1 = true := by decide +kernel
set_option maxRecDepth 65536 in
theorem w_runnable : about1.curStatus? = some .runnable := by decide +kernel
set_option maxRecDepth 65536 in
theorem w_alone : about1.alone = true := by decide +kernel
set_option maxRecDepth 65536 in
theorem w_named : about1.methodNamed? x = some theMethod := by decide +kernel
set_option maxRecDepth 65536 in
theorem w_hears : about1.hears theMethod below0 = true := by decide +kernel
set_option maxRecDepth 65536 in
theorem w_ripe : about1.ripe theMethod args0 below0 = true := by decide +kernel
theorem w_running : about1.status = .running := rfl
set_option maxRecDepth 65536 in
theorem w_room : about1.hasRoom e0.platform room_1 = true :=
  launch0.hasRoom_least _ room_1 (by decide +kernel) (by decide +kernel) (by decide +kernel) (by decide +kernel) (by decide +kernel) (by decide +kernel)
theorem allAtoms_all (ts : List Jvm.Cond) (a : Array Jvm.Value) (st : Jvm.State) : (allAtoms ts).before a st = ts.all (fun c => c.before a st) := by
  induction ts with
  | nil => rfl
  | cons c t ih =>
    show (Jvm.Cond.and c (allAtoms t)).before a st = _
    rw [Jvm.Cond.before_and, ih, List.all_cons]
def words1 : List Jvm.Cond := Jvm.Cond.code x code maxLocals ret :: tables_1
/-- a 'code' word, met by the world's own term for the bytes: nothing is compared byte by byte -/
theorem code_word {y : MethodName} {bytes : ByteArray} {mx : Nat} {rt : Option FieldType} {a : Array Value} {s : State} {m : MethodId} {meth : Method} {c : Code} (h1 : s.methodNamed? y = some m) (h2 : s.vm.method? m = some meth) (h3 : meth.code = some c) (h4 : c.code = bytes)
    (h5 : (c.maxLocals == mx && c.exceptionTable.isEmpty && decide (c.maxStack ≤ mostOperands) && decide (meth.sig.returnType = rt) && !meth.locks && decide (parseMethodDescriptor y.desc = some meth.sig)) = true) : (Jvm.Cond.code y bytes mx rt).before a s = true := by
  simp only [Bool.and_eq_true, beq_iff_eq, Bool.not_eq_true', decide_eq_true_eq] at h5
  obtain ⟨⟨⟨⟨⟨g1, g2⟩, g3⟩, g4⟩, g5⟩, g6⟩ := h5
  simp [Cond.before, Cond.holds, Cond.value, h1, h2, h3, h4, g1, g2, g3, g4, g5, g6]
def isCode : Jvm.Cond → Bool
  | .code _ _ _ _ => true
  | _ => false
theorem all_split {L : List Jvm.Cond} {P : Jvm.Cond → Bool} (h1 : L.all (fun c => isCode c || P c) = true) (h2 : ∀ c ∈ L.filter isCode, P c = true) : L.all P = true := by
  refine List.all_eq_true.mpr fun c hc => ?_
  have h := List.all_eq_true.mp h1 c hc
  rcases Bool.eq_false_or_eq_true (isCode c) with hi | hi
  · exact h2 c (List.mem_filter.mpr ⟨hc, hi⟩)
  · simpa [hi] using h
set_option maxRecDepth 65536 in
theorem w_c0 : (Jvm.Cond.code x code maxLocals ret).before args0 about1 = true := code_word (m := ⟨1, 2⟩) (meth := k1m2) (c := k1c2) (by decide +kernel) rfl rfl rfl (by decide +kernel)
set_option maxRecDepth 65536 in
theorem w_c1 : (Jvm.Cond.code ({ cls := "com/example/stamped_envelope/stampedenvelope/core/MediaType", name := "isTokenCharacter", desc := "(I)Z" } : Jvm.MethodName) prog_21_method_11_code (1 : Nat) (Option.some Jvm.ClassFile.FieldType.boolean)).before args0 about1 = true := code_word (m := ⟨2, 0⟩) (meth := k2m0) (c := k2c0) (by decide +kernel) rfl rfl rfl (by decide +kernel)
set_option maxRecDepth 65536 in
theorem w_c2 : (Jvm.Cond.code ({ cls := "com/example/stamped_envelope/stampedenvelope/core/MediaTypeIsTokenCharacterPinLaw", name := "tchar", desc := "(I)Z" } : Jvm.MethodName) method_2_code (4 : Nat) (Option.some Jvm.ClassFile.FieldType.boolean)).before args0 about1 = true := code_word (m := ⟨1, 1⟩) (meth := k1m1) (c := k1c1) (by decide +kernel) rfl rfl rfl (by decide +kernel)
def codes1 : List Jvm.Cond := [Jvm.Cond.code x code maxLocals ret, Jvm.Cond.code ({ cls := "com/example/stamped_envelope/stampedenvelope/core/MediaType", name := "isTokenCharacter", desc := "(I)Z" } : Jvm.MethodName) prog_21_method_11_code (1 : Nat) (Option.some Jvm.ClassFile.FieldType.boolean), Jvm.Cond.code ({ cls := "com/example/stamped_envelope/stampedenvelope/core/MediaTypeIsTokenCharacterPinLaw", name := "tchar", desc := "(I)Z" } : Jvm.MethodName) method_2_code (4 : Nat) (Option.some Jvm.ClassFile.FieldType.boolean)]
set_option maxRecDepth 65536 in
theorem codes_eq : words1.filter isCode = codes1 := rfl
theorem w_codes : ∀ c ∈ words1.filter isCode, c.before args0 about1 = true := by
  rw [codes_eq]
  intro c hc
  simp only [codes1, List.mem_cons, List.not_mem_nil, or_false] at hc
  rcases hc with rfl | rfl | rfl
  · exact w_c0
  · exact w_c1
  · exact w_c2
set_option maxRecDepth 65536 in
theorem w_t1 : words1.all (fun c => isCode c || c.before args0 about1) = true := by decide +kernel
theorem w_tables : (allAtoms (Jvm.Cond.code x code maxLocals ret :: tables_1)).before args0 about1 = true := by
  rw [allAtoms_all]
  show words1.all (fun c => c.before args0 about1) = true
  refine all_split ?_ w_codes
  rw [w_t1]
set_option maxRecDepth 65536 in
theorem w_case : (Jvm.Cond.and given_1 narrow_1).before args0 about1 = true := by decide +kernel
theorem w_applies : (headSpec (Jvm.Cond.code x code maxLocals ret :: tables_1) room_1).applies x e0.platform about1 = true :=
  (Spec.applies_iff w_frames).mpr ⟨w_running, w_runnable, w_alone, w_named, w_hears, w_ripe, w_room, w_tables⟩
theorem atStart : AtStart classFile x code maxLocals ret World_1 tables_1 room_1 Calls_1 rest_1 Pre_1 launch0 p0 e0 about1 theMethod args0 below0 :=
  ⟨lists_1, trivial, launch0.admits_env _ _ _, launch0.least_env, fairChoices_fair.cas, fairChoices_fair.clock, w_frames, w_args, w_heap, w_applies, trivial, trivial, w_case⟩
end start1
theorem witness_1 : WitnessClaimed_1 := ⟨start1.p0, start1.e0, start1.about1, start1.theMethod, start1.args0, start1.below0, start1.atStart⟩
end Jvm.Pilot.@@N@@
