import JvmDerived
import JvmDerived.Pilot.@@N@@Statement
import JvmDerived.Pilot.@@N@@Code
set_option linter.unusedVariables false
set_option linter.unusedSimpArgs false
namespace Jvm.RoadKit
open Sem ClassFile Op Lib Jvm.Stand Jvm.Free Jvm.LawKit
section Own
variable {p : Program} {l : Launch} {e : Env} {R : Room} {s : State} {m : MethodId} {args : Array Value} {below : List Frame} {meth : Method} {c : Code} {T : State} {locs : List Loc} {cells slots : Nat} {Z : State} {a0 : Array Value} {h : Heap}
/-- from T with the frame g the run comes to its end, and the end is as K says -/
def own_End (p : Program) (e : Env) (below : List Frame) (s : State) (K : Option Value → Heap → List Loc → Prop) (kc ks : Nat) (T : State) (g : JFrame) : Prop :=
  ∃ s₂ o, Steps p.tables e below (T.setTop g) s₂ ∧ s₂.status = .running ∧ Ended s₂ below o ∧ ∃ v L, o = .returned v ∧ K v s₂.heap L ∧ FrameEnd s o s₂ L kc ks
/-- what a body returns that leaves the heap as it was -/
def own_pure (r : Value) (h0 : Heap) (n0 : Nat) (v : Option Value) (h : Heap) (L : List Loc) : Prop := v = some r ∧ Fr n0 L ∧ h = h0
theorem own_go {K : Option Value → Heap → List Loc → Prop} {kc ks : Nat} {T' : State} {g g' : JFrame} (st : ∀ t, Steps p.tables e below (T'.setTop g') t → Steps p.tables e below (T.setTop g) t) (k : own_End p e below s K kc ks T' g') : own_End p e below s K kc ks T g := by
  obtain ⟨s₂, o, h1, r⟩ := k
  exact ⟨s₂, o, st _ h1, r⟩
theorem own_retW (X : Stand p l e R s m args below meth c T locs cells slots) (hx : p.tables.exec = Jvm.exec) {pc : Nat} {Ls : Array Slot} {w : Value} {t : FieldType} {i : Instr} {rest : List Value} (hret : meth.sig.returnType = some t) (hlk : meth.locks = false) (hn : narrow t w = w)
    (hi : (i = .ireturn ∧ (t = .int ∨ t = .boolean ∨ t = .byte ∨ t = .char ∨ t = .short) ∧ ∃ z, w = .int z) ∨ (i = .lreturn ∧ t = .long ∧ ∃ z, w = .long z) ∨ (i = .dreturn ∧ t = .double ∧ ∃ z, w = .double z) ∨ (i = .freturn ∧ t = .float ∧ ∃ z, w = .float z) ∨ (i = .areturn ∧ t.isReference = true ∧ w.isRef = true))
    (hd : decode c.code pc = .ok (i, 1)) {K : Option Value → Heap → List Loc → Prop} {kc ks : Nat} (hK : K (some w) T.heap locs) (h1 : cells ≤ kc) (h2 : slots ≤ ks) : own_End p e below s K kc ks T (mkF m pc Ls (w :: rest)) := by
  obtain ⟨fs, hr, hrun, hended, hW, hsame⟩ := X.leave (v := some w) (fun q => by rw [hret] at q; cases q) hlk
  exact ⟨_, _, retOut X hx hret hn hi hd hr, hrun, hended, _, _, rfl, hK, ⟨_, rfl⟩, hW, hsame.mono h1 h2⟩
theorem own_retV (X : Stand p l e R s m args below meth c T locs cells slots) (hx : p.tables.exec = Jvm.exec) {pc : Nat} {Ls : Array Slot} (hret : meth.sig.returnType = none) (hlk : meth.locks = false)
    (hd : decode c.code pc = .ok (.return_, 1)) {K : Option Value → Heap → List Loc → Prop} {kc ks : Nat} (hK : K none T.heap locs) (h1 : cells ≤ kc) (h2 : slots ≤ ks) : own_End p e below s K kc ks T (mkF m pc Ls []) := by
  obtain ⟨fs, hr, hrun, hended, hW, hsame⟩ := X.leave (v := none) (fun _ => rfl) hlk
  exact ⟨_, _, X.returnOut hx hret hd hr, hrun, hended, _, _, rfl, hK, ⟨_, rfl⟩, hW, hsame.mono h1 h2⟩
theorem own_callS (X : Stand p l e R s m args below meth c T locs cells slots) (hx : p.tables.exec = Jvm.exec) (hZ : Z.Warmed39 s.vm) {own : String} {index : Nat} {y : MethodName} {bytes : ByteArray} {maxL : Nat} {ret : Option FieldType} {rm : Room} {W : Nat} {as' : Array Value} {Q : Option Value → Heap → List Loc → Prop}
    (hown : s.vm.findClass own = some m.cls) (w1 : (Cond.methodLink own index y).before a0 Z = true) (w2 : (Cond.static y).before a0 Z = true) (w4 : (Cond.code y bytes maxL ret).before a0 Z = true) (hy : y.cls ≠ "java/lang/invoke/MethodHandle" ∧ y.cls ≠ "java/lang/invoke/VarHandle") (w3 : (Cond.initialized y.cls).before a0 Z = true)
    (hM : MetFree l y (head1 [Cond.code y bytes maxL ret] rm) (fun a U => a = as' ∧ Z.Warmed39 U.vm ∧ U.heap = h) (fun _ _ _ _ _ => True) (fun _ U o U' => ∃ v L, o = .returned v ∧ Q v U'.heap L ∧ FrameEnd U o U' L rm.cells rm.slots))
    (eT : T.heap = h) (hf : rm.frames + 1 ≤ R.frames) (hl : W + (maxL + 11) + rm.locals ≤ R.locals) {g : JFrame} (hg : g.method = m) (hsize : g.locals.size = c.maxLocals) {argsL rest : List Value} (has : argsL.toArray = as')
    (hlen : ∀ sig, parseMethodDescriptor y.desc = some sig → argsL.length = sig.parameters.length) (hstack : g.stack = argsL.reverse ++ rest) (hW : 2 * g.monitorRoom + (rest.map fun v => v.category).sum ≤ W) (hdg : decode c.code g.pc = .ok (.invokestatic index, 3)) (hc : cells + rm.cells ≤ R.cells) (hs : slots + rm.slots ≤ R.slots) :
    ∃ v T' L', Stand p l e R s m args below meth c T' (locs ++ L') (cells + rm.cells) (slots + rm.slots) ∧ Q v T'.heap L' ∧ ∀ target, Steps p.tables e below (T'.setTop { g with pc := g.pc + 3, stack := v.toList ++ rest }) target → Steps p.tables e below (T.setTop g) target := by
  obtain ⟨v, _, ⟨T', L', k', n'⟩, -, X', ⟨Lc, hQ, q1, q2, q3⟩, st⟩ := Jvm.LawKit.callS X hx (y := y) hown (mvT hZ w1) (mvT hZ w2) (mvT hZ w3) (mvT hZ w4) hy (backOf (W := W) hM hZ w4 w3 hf hl) hg hsize hlen hstack hW hdg (fun _ _ => ⟨has, eT, hc, hs⟩)
  dsimp only [Pt.U, Pt.locs, Pt.cells, Pt.slots] at X' q1 q2 q3 st hQ
  subst q1 q2 q3
  exact ⟨v, T', Lc, X', hQ, st⟩
theorem own_callN (X : Stand p l e R s m args below meth c T locs cells slots) (hx : p.tables.exec = Jvm.exec) (hZ : Z.Warmed39 s.vm) {own : String} {index : Nat} {y : MethodName} {bytes : ByteArray} {maxL : Nat} {rm : Room} {W : Nat} {as' : Array Value} {Q : Option Value → Heap → List Loc → Prop}
    (hown : s.vm.findClass own = some m.cls) (w1 : (Cond.methodLink own index y).before a0 Z = true) (w2 : (Cond.instanceMethod y).before a0 Z = true) (w4 : (Cond.code y bytes maxL none).before a0 Z = true) (hy : y.cls ≠ "java/lang/invoke/MethodHandle" ∧ y.cls ≠ "java/lang/invoke/VarHandle") (w3 : (Cond.initialized y.cls).before a0 Z = true)
    (hM : MetFree l y (head1 [Cond.code y bytes maxL none] rm) (fun a U => a = as' ∧ Z.Warmed39 U.vm ∧ U.heap = h) (fun _ _ _ _ _ => True) (fun _ U o U' => ∃ v L, o = .returned v ∧ Q v U'.heap L ∧ FrameEnd U o U' L rm.cells rm.slots))
    (eT : T.heap = h) (hf : rm.frames + 1 ≤ R.frames) (hl : W + (maxL + 11) + rm.locals ≤ R.locals) {g : JFrame} (hg : g.method = m) (hsize : g.locals.size = c.maxLocals) {argsL rest : List Value} {a : Addr} (has : (.ref a :: argsL).toArray = as') (hy1 : y.name = "<init>")
    (hlen : ∀ sig, parseMethodDescriptor y.desc = some sig → argsL.length = sig.parameters.length) (hstack : g.stack = argsL.reverse ++ .ref a :: rest) (hW : 2 * g.monitorRoom + (rest.map fun v => v.category).sum ≤ W) (hdg : decode c.code g.pc = .ok (.invokespecial index, 3)) (hc : cells + rm.cells ≤ R.cells) (hs : slots + rm.slots ≤ R.slots) :
    ∃ v T' L', Stand p l e R s m args below meth c T' (locs ++ L') (cells + rm.cells) (slots + rm.slots) ∧ Q v T'.heap L' ∧ ∀ target, Steps p.tables e below (T'.setTop { g with pc := g.pc + 3, stack := v.toList ++ rest }) target → Steps p.tables e below (T.setTop g) target := by
  obtain ⟨v, _, ⟨T', L', k', n'⟩, -, X', ⟨Lc, hQ, q1, q2, q3⟩, st⟩ := X.specialBack hx (y := y) hy1 hown (mvT hZ w1) (mvT hZ w2) (mvT hZ w4) hy (backOf (W := W) hM hZ w4 w3 hf hl) hg hsize (Steps.refl _) hlen hstack hW hdg (fun _ _ => ⟨has, eT, hc, hs⟩)
  dsimp only [Pt.U, Pt.locs, Pt.cells, Pt.slots] at X' q1 q2 q3 st hQ
  subst q1 q2 q3
  exact ⟨v, T', Lc, X', hQ, fun target k => st.trans k⟩
theorem own_callV (X : Stand p l e R s m args below meth c T locs cells slots) (hx : p.tables.exec = Jvm.exec) (hZ : Z.Warmed39 s.vm) {own C : String} {index : Nat} {y z : MethodName} {bytes : ByteArray} {maxL : Nat} {ret : Option FieldType} {rm : Room} {W : Nat} {as' : Array Value} {Q : Option Value → Heap → List Loc → Prop}
    (hown : s.vm.findClass own = some m.cls) (w1 : (Cond.methodLink own index y).before a0 Z = true) (w2 : (Cond.declares y).before a0 Z = true) (w5 : (Cond.selects C y z).before a0 Z = true) (w6 : (Cond.instanceMethod z).before a0 Z = true) {b : Addr} (E : Exa Z h b C) (w4 : (Cond.code z bytes maxL ret).before a0 Z = true) (hy : y.cls ≠ "java/lang/invoke/MethodHandle" ∧ y.cls ≠ "java/lang/invoke/VarHandle") (w3 : (Cond.initialized z.cls).before a0 Z = true)
    (hM : MetFree l z (head1 [Cond.code z bytes maxL ret] rm) (fun a U => a = as' ∧ Z.Warmed39 U.vm ∧ U.heap = h) (fun _ _ _ _ _ => True) (fun _ U o U' => ∃ v L, o = .returned v ∧ Q v U'.heap L ∧ FrameEnd U o U' L rm.cells rm.slots))
    (eT : T.heap = h) (hf : rm.frames + 1 ≤ R.frames) (hl : W + (maxL + 11) + rm.locals ≤ R.locals) {g : JFrame} (hg : g.method = m) (hsize : g.locals.size = c.maxLocals) {argsL rest : List Value} (has : (.ref b :: argsL).toArray = as') (hnf : NotFace s y)
    (hlen : ∀ sig, parseMethodDescriptor y.desc = some sig → argsL.length = sig.parameters.length) (hstack : g.stack = argsL.reverse ++ .ref b :: rest) (hW : 2 * g.monitorRoom + (rest.map fun v => v.category).sum ≤ W) (hdg : decode c.code g.pc = .ok (.invokevirtual index, 3)) (hc : cells + rm.cells ≤ R.cells) (hs : slots + rm.slots ≤ R.slots) :
    ∃ v T' L', Stand p l e R s m args below meth c T' (locs ++ L') (cells + rm.cells) (slots + rm.slots) ∧ Q v T'.heap L' ∧ ∀ target, Steps p.tables e below (T'.setTop { g with pc := g.pc + 3, stack := v.toList ++ rest }) target → Steps p.tables e below (T.setTop g) target := by
  obtain ⟨cq, kq, qa, qb, qc⟩ := isOf hZ eT E
  obtain ⟨v, _, ⟨T', L', k', n'⟩, -, X', ⟨Lc, hQ, q1, q2, q3⟩, st⟩ := X.virtualBack hx (y := y) (z := z) hown (mvT hZ w1) (mvT hZ w2) hnf (mvT hZ w5) (mvT hZ w6) hy (backOf (W := W) hM hZ w4 w3 hf hl) qa qc hg hsize (Steps.refl _) hlen hstack hW hdg (fun _ _ => ⟨has, eT, hc, hs⟩)
  dsimp only [Pt.U, Pt.locs, Pt.cells, Pt.slots] at X' q1 q2 q3 st hQ
  subst q1 q2 q3
  exact ⟨v, T', Lc, X', hQ, fun target k => st.trans k⟩
end Own
end Jvm.RoadKit
namespace Jvm.Pilot.@@N@@
open Jvm Jvm.ClassFile Sem Op Lib Jvm.Free Jvm.Stand Jvm.LawKit Jvm.RoadKit Bundle Jvm.Pilot.@@N@@.Jvm.D
def own_law (n0 : Nat) (v : Option Value) (h : Heap) (L : List Loc) : Prop := v = some (.int 1) ∧ Fr n0 L
theorem own_lceq {x y : Int64} : lcmpW x y = 0 ↔ x = y := by rw [lcW]; exact lc_eq x y
theorem own_lclt {x y : Int64} : lcmpW x y < 0 ↔ x < y := by rw [lcW]; exact lc_lt x y
theorem own_lcgt {x y : Int64} : 0 < lcmpW x y ↔ y < x := by rw [lcW]; exact lc_gt x y
def own_eq (x1 x2 x3 y1 y2 y3 : Int64) : Int32 := if x1 = y1 then (if x2 = y2 then (if x3 = y3 then 1 else 0) else 0) else 0
theorem own_eq_self (x1 x2 x3 : Int64) : own_eq x1 x2 x3 x1 x2 x3 = 1 := by simp [own_eq]
theorem own_eq_symm (x1 x2 x3 y1 y2 y3 : Int64) : own_eq y1 y2 y3 x1 x2 x3 = own_eq x1 x2 x3 y1 y2 y3 := by
  simp only [own_eq, eq_comm (a := y1), eq_comm (a := y2), eq_comm (a := y3)]
theorem own_root {Z : State} {a0 : Array Value} {O K : String} {n : Nat} (w : (Jvm.Cond.noSuperclass O).before a0 Z = true) (wk : (Jvm.Cond.instantiable K n).before a0 Z = true) (hn : O ≠ K) : NS Z O K := by
  obtain ⟨c, k, h1, h2, h3, -, -⟩ := Cond.noSuperclass_spec w
  obtain ⟨t, kt, g1, -⟩ := Cond.instantiable_spec wk
  refine ⟨c, t, h1, g1, fun fuel => ?_⟩
  cases fuel with
  | zero => rfl
  | succ f => simp [Vm.isSubclassAux, ids_ne h1 g1 hn, h2, h3]
theorem own_no {Z : State} {a0 : Array Value} {C S K : String} {n : Nat} (w : (Jvm.Cond.superclass C S).before a0 Z = true) (wk : (Jvm.Cond.instantiable K n).before a0 Z = true) (hs : NS Z C K) (hn : C ≠ K) : ∃ c t, Z.vm.findClass C = some c ∧ Z.vm.findClass K = some t ∧ Z.vm.assignable c t = false := by
  obtain ⟨c, t, h0, g0, n3⟩ := hs
  obtain ⟨p, k, kp, h1, h2, h3, h4, h5, -, h7⟩ := Cond.superclass_spec h0 w
  obtain ⟨t', kt, g1, g2, g3, g4, -⟩ := Cond.instantiable_spec wk
  cases g0.symm.trans g1
  have g5 : kt.isInterface = false := by simp only [Bool.or_eq_false_iff] at g4; exact g4.1
  refine ⟨c, t, h0, g0, ?_⟩
  show Z.vm.assignableAux (255 + 1) c t = false
  simp [Vm.assignableAux, ids_ne h0 g0 hn, h2, g2, h5, g3, g5, Vm.isSubclass, n3]
def Q_rmI (Z : State) (a1 : Addr) (q1 q2 q3 : Int64) (h0 : Heap) (n0 : Nat) (v : Option Value) (h : Heap) (L : List Loc) : Prop := v = none ∧ Fr n0 L ∧ Keep h0 h [a1] ∧ Exa Z h a1 "com/example/ingest_to_invoice/ingesttoinvoice/rating/Tax$Totals" ∧ Fld Z h a1 "com/example/ingest_to_invoice/ingesttoinvoice/rating/Tax$Totals" "subtotalMinor" "J" (.long q1) ∧ Fld Z h a1 "com/example/ingest_to_invoice/ingesttoinvoice/rating/Tax$Totals" "taxMinor" "J" (.long q2) ∧ Fld Z h a1 "com/example/ingest_to_invoice/ingesttoinvoice/rating/Tax$Totals" "totalMinor" "J" (.long q3)
theorem ef_rmI (m : MethodId) (x0 : Addr) (x1 : Int64) (x2 : Int64) (x3 : Int64) : entryFrame m #[(.ref x0), (.long x1), (.long x2), (.long x3)] 7 = mkF m 0 #[.val (.ref x0), .val (.long x1), .second, .val (.long x2), .second, .val (.long x3), .second] [] := by first | (simp [entryFrame, mkF, argsToLocals, Value.category]; done) | rfl
theorem pn_com_example_ingest_to_invoice_ingesttoinvoice_rating_Tax_Totals : plainName "com/example/ingest_to_invoice/ingesttoinvoice/rating/Tax$Totals" = true := by first | (simp [plainName, overriddenIn]; done) | decide +kernel
theorem d1_0 : decode prog_44_method_1_code 0 = .ok (.aload_n 0, 1) := by decide +kernel
theorem d1_1 : decode prog_44_method_1_code 1 = .ok (.invokespecial 1, 3) := by decide +kernel
theorem d1_4 : decode prog_44_method_1_code 4 = .ok (.aload_n 0, 1) := by decide +kernel
theorem d1_5 : decode prog_44_method_1_code 5 = .ok (.lload_n 1, 1) := by decide +kernel
theorem d1_6 : decode prog_44_method_1_code 6 = .ok (.putfield 7, 3) := by decide +kernel
theorem d1_9 : decode prog_44_method_1_code 9 = .ok (.aload_n 0, 1) := by decide +kernel
theorem d1_10 : decode prog_44_method_1_code 10 = .ok (.lload_n 3, 1) := by decide +kernel
theorem d1_11 : decode prog_44_method_1_code 11 = .ok (.putfield 13, 3) := by decide +kernel
theorem d1_14 : decode prog_44_method_1_code 14 = .ok (.aload_n 0, 1) := by decide +kernel
theorem d1_15 : decode prog_44_method_1_code 15 = .ok (.lload 5, 2) := by decide +kernel
theorem d1_17 : decode prog_44_method_1_code 17 = .ok (.putfield 16, 3) := by decide +kernel
theorem d1_20 : decode prog_44_method_1_code 20 = .ok (.return_, 1) := by decide +kernel
set_option maxRecDepth 65536 in
set_option maxHeartbeats 40000000 in
theorem rmI (l : Launch) (Z : State) (a0 : Array Value) (hw : ∀ d ∈ tables_1, d.before a0 Z = true) (ws : List Jvm.Cond) (a1 : Addr) (q1 q2 q3 : Int64) (h0 : Heap) (n0 : Nat) (Z0 : n0 ≤ h0.size) (E1 : Exa Z h0 a1 "com/example/ingest_to_invoice/ingesttoinvoice/rating/Tax$Totals") (g1 : n0 ≤ a1) (F1 : Fld Z h0 a1 "com/example/ingest_to_invoice/ingesttoinvoice/rating/Tax$Totals" "subtotalMinor" "J" (.long (0 : Int64))) (F2 : Fld Z h0 a1 "com/example/ingest_to_invoice/ingesttoinvoice/rating/Tax$Totals" "taxMinor" "J" (.long (0 : Int64))) (F3 : Fld Z h0 a1 "com/example/ingest_to_invoice/ingesttoinvoice/rating/Tax$Totals" "totalMinor" "J" (.long (0 : Int64))) :
    MetFree l (⟨"com/example/ingest_to_invoice/ingesttoinvoice/rating/Tax$Totals", "<init>", "(JJJ)V"⟩ : MethodName) (head1 (Jvm.Cond.code (⟨"com/example/ingest_to_invoice/ingesttoinvoice/rating/Tax$Totals", "<init>", "(JJJ)V"⟩ : MethodName) prog_44_method_1_code 7 none :: ws) ({ frames := 1, cells := 0, slots := 0, locals := 12 } : Room)) (fun a U => a = #[(.ref a1), (.long q1), (.long q2), (.long q3)] ∧ Z.Warmed39 U.vm ∧ U.heap = h0) (fun _ _ _ _ _ => True) (fun _ U o U' => ∃ v L, o = .returned v ∧ Q_rmI Z a1 q1 q2 q3 h0 n0 v U'.heap L ∧ FrameEnd U o U' L ({ frames := 1, cells := 0, slots := 0, locals := 12 } : Room).cells ({ frames := 1, cells := 0, slots := 0, locals := 12 } : Room).slots) := by
  refine MetFree.of_bodySF (plainFor_of_name pn_com_example_ingest_to_invoice_ingesttoinvoice_rating_Tax_Totals) hisR ?_
  intro p e s m args below meth c s₁ Bd hml0 hP hK
  obtain ⟨rfl, hZ, hh⟩ := hP
  have hx := Bd.exec
  have hby := Bd.bytes
  have hml : c.maxLocals = 7 := hml0
  have hown : s.vm.findClass "com/example/ingest_to_invoice/ingesttoinvoice/rating/Tax$Totals" = some m.cls := findClass_of_methodNamed Bd.named
  have hnm := (name_of_methodNamed Bd.named Bd.method).1
  have X0 : Stand p l e ({ frames := 1, cells := 0, slots := 0, locals := 12 } : Room) s m #[(.ref a1), (.long q1), (.long q2), (.long q3)] below meth c s₁ [] 0 0 := Stand.of_body Bd
  have e0 : s₁.heap = h0 := by rw [← hh, Bd.state]; rfl
  have N0 := Fr.nil n0
  suffices own_main : own_End p e below s (Q_rmI Z a1 q1 q2 q3 h0 n0) ({ frames := 1, cells := 0, slots := 0, locals := 12 } : Room).cells ({ frames := 1, cells := 0, slots := 0, locals := 12 } : Room).slots s₁ (mkF m 0 #[.val (.ref a1), .val (.long q1), .second, .val (.long q2), .second, .val (.long q3), .second] []) by
    obtain ⟨s₂, o, k1, k2, k3, k4⟩ := own_main
    exact ⟨s₂, o, castTop (ef_rmI m a1 q1 q2 q3) k1, k2, k3, k4⟩
  show own_End _ _ _ _ _ _ _ s₁ (mkF m 0 #[.val (.ref a1), .val (.long q1), .second, .val (.long q2), .second, .val (.long q3), .second] [])
  refine own_go (fun t k => XS.aloadN X0.here hx rfl (hb hby d1_0) rfl rfl k) ?_
  show own_End _ _ _ _ _ _ _ s₁ (mkF m 1 #[.val (.ref a1), .val (.long q1), .second, .val (.long q2), .second, .val (.long q3), .second] [(.ref a1)])
  obtain ⟨T1, X1, e1, st1⟩ := initO X0 hx hZ hown (hw _ (List.mem_of_getElem? (i := 6) rfl)) (hw _ (List.mem_of_getElem? (i := 7) rfl)) (hw _ (List.mem_of_getElem? (i := 8) rfl)) e0 (g := (mkF m 1 #[.val (.ref a1), .val (.long q1), .second, .val (.long q2), .second, .val (.long q3), .second] [(.ref a1)])) rfl (by rw [hml]; rfl) rfl (hb hby d1_1) (by decide) (W := 0) (by show 2 * 0 + _ ≤ _; exact Nat.le_of_eq rfl) (by decide)
  refine own_go st1 ?_
  show own_End _ _ _ _ _ _ _ T1 (mkF m 4 #[.val (.ref a1), .val (.long q1), .second, .val (.long q2), .second, .val (.long q3), .second] [])
  refine own_go (fun t k => XS.aloadN X1.here hx rfl (hb hby d1_4) rfl rfl k) ?_
  show own_End _ _ _ _ _ _ _ T1 (mkF m 5 #[.val (.ref a1), .val (.long q1), .second, .val (.long q2), .second, .val (.long q3), .second] [(.ref a1)])
  refine own_go (fun t k => XS.lloadN X1.here hx rfl (hb hby d1_5) rfl k) ?_
  show own_End _ _ _ _ _ _ _ T1 (mkF m 6 #[.val (.ref a1), .val (.long q1), .second, .val (.long q2), .second, .val (.long q3), .second] [(.long q1), (.ref a1)])
  obtain ⟨T2, h2, X2, e2, W2, st2⟩ := putF X1 hx hZ hown (host := "") (Or.inl (hw _ (List.mem_of_getElem? (i := 9) rfl))) Via.refl e1 F1 E1 (Or.inr ⟨(hw _ (List.mem_of_getElem? (i := 10) rfl)), rfl, hnm⟩) (hw _ (List.mem_of_getElem? (i := 1) rfl)) (ty := .long) (by decide) rfl rfl (g := (mkF m 6 #[.val (.ref a1), .val (.long q1), .second, .val (.long q2), .second, .val (.long q3), .second] [(.long q1), (.ref a1)])) rfl rfl (hb hby d1_6)
  have Fw2 := F1.same W2
  have K3 : Keep h0 h2 [a1] := (Keep.refl h0 [a1]).wr W2 (Or.inl (by simp))
  have N2 := Fr.snoc X2 N0 g1
  refine own_go st2 ?_
  show own_End _ _ _ _ _ _ _ T2 (mkF m 9 #[.val (.ref a1), .val (.long q1), .second, .val (.long q2), .second, .val (.long q3), .second] [])
  refine own_go (fun t k => XS.aloadN X2.here hx rfl (hb hby d1_9) rfl rfl k) ?_
  show own_End _ _ _ _ _ _ _ T2 (mkF m 10 #[.val (.ref a1), .val (.long q1), .second, .val (.long q2), .second, .val (.long q3), .second] [(.ref a1)])
  refine own_go (fun t k => XS.lloadN X2.here hx rfl (hb hby d1_10) rfl k) ?_
  show own_End _ _ _ _ _ _ _ T2 (mkF m 11 #[.val (.ref a1), .val (.long q1), .second, .val (.long q2), .second, .val (.long q3), .second] [(.long q2), (.ref a1)])
  obtain ⟨T4, h4, X4, e4, W4, st4⟩ := putF X2 hx hZ hown (host := "") (Or.inl (hw _ (List.mem_of_getElem? (i := 11) rfl))) Via.refl e2 (F2.other W2 (Or.inr (slot_ne (Or.inr (hw _ (List.mem_of_getElem? (i := 12) rfl))) (Or.inr (hw _ (List.mem_of_getElem? (i := 10) rfl))) (by decide) (t := .long) (t' := .long) (by decide) (by decide)))) (E1.wr W2) (Or.inr ⟨(hw _ (List.mem_of_getElem? (i := 12) rfl)), rfl, hnm⟩) (hw _ (List.mem_of_getElem? (i := 1) rfl)) (ty := .long) (by decide) rfl rfl (g := (mkF m 11 #[.val (.ref a1), .val (.long q1), .second, .val (.long q2), .second, .val (.long q3), .second] [(.long q2), (.ref a1)])) rfl rfl (hb hby d1_11)
  have Fw4 := (F2.other W2 (Or.inr (slot_ne (Or.inr (hw _ (List.mem_of_getElem? (i := 12) rfl))) (Or.inr (hw _ (List.mem_of_getElem? (i := 10) rfl))) (by decide) (t := .long) (t' := .long) (by decide) (by decide)))).same W4
  have K5 : Keep h0 h4 [a1] := K3.wr W4 (Or.inl (by simp))
  have N4 := Fr.snoc X4 N2 g1
  refine own_go st4 ?_
  show own_End _ _ _ _ _ _ _ T4 (mkF m 14 #[.val (.ref a1), .val (.long q1), .second, .val (.long q2), .second, .val (.long q3), .second] [])
  refine own_go (fun t k => XS.aloadN X4.here hx rfl (hb hby d1_14) rfl rfl k) ?_
  show own_End _ _ _ _ _ _ _ T4 (mkF m 15 #[.val (.ref a1), .val (.long q1), .second, .val (.long q2), .second, .val (.long q3), .second] [(.ref a1)])
  refine own_go (fun t k => XS.lload X4.here hx rfl (hb hby d1_15) rfl k) ?_
  show own_End _ _ _ _ _ _ _ T4 (mkF m 17 #[.val (.ref a1), .val (.long q1), .second, .val (.long q2), .second, .val (.long q3), .second] [(.long q3), (.ref a1)])
  obtain ⟨T6, h6, X6, e6, W6, st6⟩ := putF X4 hx hZ hown (host := "") (Or.inl (hw _ (List.mem_of_getElem? (i := 13) rfl))) Via.refl e4 ((F3.other W2 (Or.inr (slot_ne (Or.inr (hw _ (List.mem_of_getElem? (i := 14) rfl))) (Or.inr (hw _ (List.mem_of_getElem? (i := 10) rfl))) (by decide) (t := .long) (t' := .long) (by decide) (by decide)))).other W4 (Or.inr (slot_ne (Or.inr (hw _ (List.mem_of_getElem? (i := 14) rfl))) (Or.inr (hw _ (List.mem_of_getElem? (i := 12) rfl))) (by decide) (t := .long) (t' := .long) (by decide) (by decide)))) ((E1.wr W2).wr W4) (Or.inr ⟨(hw _ (List.mem_of_getElem? (i := 14) rfl)), rfl, hnm⟩) (hw _ (List.mem_of_getElem? (i := 1) rfl)) (ty := .long) (by decide) rfl rfl (g := (mkF m 17 #[.val (.ref a1), .val (.long q1), .second, .val (.long q2), .second, .val (.long q3), .second] [(.long q3), (.ref a1)])) rfl rfl (hb hby d1_17)
  have Fw6 := ((F3.other W2 (Or.inr (slot_ne (Or.inr (hw _ (List.mem_of_getElem? (i := 14) rfl))) (Or.inr (hw _ (List.mem_of_getElem? (i := 10) rfl))) (by decide) (t := .long) (t' := .long) (by decide) (by decide)))).other W4 (Or.inr (slot_ne (Or.inr (hw _ (List.mem_of_getElem? (i := 14) rfl))) (Or.inr (hw _ (List.mem_of_getElem? (i := 12) rfl))) (by decide) (t := .long) (t' := .long) (by decide) (by decide)))).same W6
  have K7 : Keep h0 h6 [a1] := K5.wr W6 (Or.inl (by simp))
  have N6 := Fr.snoc X6 N4 g1
  refine own_go st6 ?_
  show own_End _ _ _ _ _ _ _ T6 (mkF m 20 #[.val (.ref a1), .val (.long q1), .second, .val (.long q2), .second, .val (.long q3), .second] [])
  exact own_retV X6 hx Bd.returns Bd.notSynchronized (hb hby d1_20) (by rw [e6]; exact ⟨rfl, N6, K7, (((E1.wr W2).wr W4).wr W6), ((Fw2.other W4 (Or.inr (slot_ne (Or.inr (hw _ (List.mem_of_getElem? (i := 10) rfl))) (Or.inr (hw _ (List.mem_of_getElem? (i := 12) rfl))) (by decide) (t := .long) (t' := .long) (by decide) (by decide)))).other W6 (Or.inr (slot_ne (Or.inr (hw _ (List.mem_of_getElem? (i := 10) rfl))) (Or.inr (hw _ (List.mem_of_getElem? (i := 14) rfl))) (by decide) (t := .long) (t' := .long) (by decide) (by decide)))), (Fw4.other W6 (Or.inr (slot_ne (Or.inr (hw _ (List.mem_of_getElem? (i := 12) rfl))) (Or.inr (hw _ (List.mem_of_getElem? (i := 14) rfl))) (by decide) (t := .long) (t' := .long) (by decide) (by decide)))), Fw6⟩) (by decide) (by decide)
theorem ef_rmEN (m : MethodId) (x0 : Addr) : entryFrame m #[(.ref x0), .null] 2 = mkF m 0 #[.val (.ref x0), .val .null] [] := by first | (simp [entryFrame, mkF, argsToLocals, Value.category]; done) | rfl
theorem d3_0 : decode prog_44_method_6_code 0 = .ok (.aload_n 1, 1) := by decide +kernel
theorem d3_1 : decode prog_44_method_6_code 1 = .ok (.instanceof 8, 3) := by decide +kernel
theorem d3_4 : decode prog_44_method_6_code 4 = .ok (.ifCond .eq 52, 3) := by decide +kernel
theorem d3_56 : decode prog_44_method_6_code 56 = .ok (.iconst 0, 1) := by decide +kernel
theorem d3_57 : decode prog_44_method_6_code 57 = .ok (.ireturn, 1) := by decide +kernel
set_option maxRecDepth 65536 in
set_option maxHeartbeats 40000000 in
theorem rmEN (l : Launch) (Z : State) (a0 : Array Value) (hw : ∀ d ∈ tables_1, d.before a0 Z = true) (ws : List Jvm.Cond) (a1 : Addr) (h0 : Heap) (n0 : Nat) (Z0 : n0 ≤ h0.size)  :
    MetFree l (⟨"com/example/ingest_to_invoice/ingesttoinvoice/rating/Tax$Totals", "equals", "(Ljava/lang/Object;)Z"⟩ : MethodName) (head1 (Jvm.Cond.code (⟨"com/example/ingest_to_invoice/ingesttoinvoice/rating/Tax$Totals", "equals", "(Ljava/lang/Object;)Z"⟩ : MethodName) prog_44_method_6_code 2 (some .boolean) :: ws) ({ frames := 0, cells := 0, slots := 0, locals := 0 } : Room)) (fun a U => a = #[(.ref a1), .null] ∧ Z.Warmed39 U.vm ∧ U.heap = h0) (fun _ _ _ _ _ => True) (fun _ U o U' => ∃ v L, o = .returned v ∧ own_pure (.int 0) h0 n0 v U'.heap L ∧ FrameEnd U o U' L ({ frames := 0, cells := 0, slots := 0, locals := 0 } : Room).cells ({ frames := 0, cells := 0, slots := 0, locals := 0 } : Room).slots) := by
  refine MetFree.of_bodySF (plainFor_of_name pn_com_example_ingest_to_invoice_ingesttoinvoice_rating_Tax_Totals) hisR ?_
  intro p e s m args below meth c s₁ Bd hml0 hP hK
  obtain ⟨rfl, hZ, hh⟩ := hP
  have hx := Bd.exec
  have hby := Bd.bytes
  have hml : c.maxLocals = 2 := hml0
  have hown : s.vm.findClass "com/example/ingest_to_invoice/ingesttoinvoice/rating/Tax$Totals" = some m.cls := findClass_of_methodNamed Bd.named
  have hnm := (name_of_methodNamed Bd.named Bd.method).1
  have X0 : Stand p l e ({ frames := 0, cells := 0, slots := 0, locals := 0 } : Room) s m #[(.ref a1), .null] below meth c s₁ [] 0 0 := Stand.of_body Bd
  have e0 : s₁.heap = h0 := by rw [← hh, Bd.state]; rfl
  have N0 := Fr.nil n0
  suffices own_main : own_End p e below s (own_pure (.int 0) h0 n0) ({ frames := 0, cells := 0, slots := 0, locals := 0 } : Room).cells ({ frames := 0, cells := 0, slots := 0, locals := 0 } : Room).slots s₁ (mkF m 0 #[.val (.ref a1), .val .null] []) by
    obtain ⟨s₂, o, k1, k2, k3, k4⟩ := own_main
    exact ⟨s₂, o, castTop (ef_rmEN m a1) k1, k2, k3, k4⟩
  show own_End _ _ _ _ _ _ _ s₁ (mkF m 0 #[.val (.ref a1), .val .null] [])
  refine own_go (fun t k => XS.aloadN X0.here hx rfl (hb hby d3_0) rfl rfl k) ?_
  show own_End _ _ _ _ _ _ _ s₁ (mkF m 1 #[.val (.ref a1), .val .null] [.null])
  refine own_go (fun t k => X0.instanceofNull hx (g := (mkF m 1 #[.val (.ref a1), .val .null] [.null])) rfl rfl (hb hby d3_1) t k) ?_
  show own_End _ _ _ _ _ _ _ s₁ (mkF m 4 #[.val (.ref a1), .val .null] [(.int (0 : Int32))])
  refine own_go (fun t k => XS.ifYes X0.here hx rfl (pc0 := 4) (pc' := 56) rfl (hb hby d3_4) rfl ((if0 _ _).trans (teq (by decide : (0 : Int32) = (0 : Int32))).1) (by decide) (by decide) k) ?_
  show own_End _ _ _ _ _ _ _ s₁ (mkF m 56 #[.val (.ref a1), .val .null] [])
  refine own_go (fun t k => XS.iconst X0.here hx rfl (hb hby d3_56) k) ?_
  show own_End _ _ _ _ _ _ _ s₁ (mkF m 57 #[.val (.ref a1), .val .null] [(.int (0 : Int32))])
  exact own_retW X0 hx Bd.returns Bd.notSynchronized rfl (Or.inl ⟨rfl, by simp, _, rfl⟩) (hb hby d3_57) ⟨rfl, N0, e0⟩ (by decide) (by decide)
theorem ef_rmEL (m : MethodId) (x0 : Addr) (x1 : Addr) : entryFrame m #[(.ref x0), (.ref x1)] 2 = mkF m 0 #[.val (.ref x0), .val (.ref x1)] [] := by first | (simp [entryFrame, mkF, argsToLocals, Value.category]; done) | rfl
set_option maxRecDepth 65536 in
set_option maxHeartbeats 40000000 in
theorem rmEL (l : Launch) (Z : State) (a0 : Array Value) (hw : ∀ d ∈ tables_1, d.before a0 Z = true) (ws : List Jvm.Cond) (a1 a2 : Addr) (h0 : Heap) (n0 : Nat) (Z0 : n0 ≤ h0.size) (E2 : Exa Z h0 a2 "java/lang/Long") (hno : ∃ c t, Z.vm.findClass "java/lang/Long" = some c ∧ Z.vm.findClass "com/example/ingest_to_invoice/ingesttoinvoice/rating/Tax$Totals" = some t ∧ Z.vm.assignable c t = false) :
    MetFree l (⟨"com/example/ingest_to_invoice/ingesttoinvoice/rating/Tax$Totals", "equals", "(Ljava/lang/Object;)Z"⟩ : MethodName) (head1 (Jvm.Cond.code (⟨"com/example/ingest_to_invoice/ingesttoinvoice/rating/Tax$Totals", "equals", "(Ljava/lang/Object;)Z"⟩ : MethodName) prog_44_method_6_code 2 (some .boolean) :: ws) ({ frames := 0, cells := 0, slots := 0, locals := 0 } : Room)) (fun a U => a = #[(.ref a1), (.ref a2)] ∧ Z.Warmed39 U.vm ∧ U.heap = h0) (fun _ _ _ _ _ => True) (fun _ U o U' => ∃ v L, o = .returned v ∧ own_pure (.int 0) h0 n0 v U'.heap L ∧ FrameEnd U o U' L ({ frames := 0, cells := 0, slots := 0, locals := 0 } : Room).cells ({ frames := 0, cells := 0, slots := 0, locals := 0 } : Room).slots) := by
  refine MetFree.of_bodySF (plainFor_of_name pn_com_example_ingest_to_invoice_ingesttoinvoice_rating_Tax_Totals) hisR ?_
  intro p e s m args below meth c s₁ Bd hml0 hP hK
  obtain ⟨rfl, hZ, hh⟩ := hP
  have hx := Bd.exec
  have hby := Bd.bytes
  have hml : c.maxLocals = 2 := hml0
  have hown : s.vm.findClass "com/example/ingest_to_invoice/ingesttoinvoice/rating/Tax$Totals" = some m.cls := findClass_of_methodNamed Bd.named
  have hnm := (name_of_methodNamed Bd.named Bd.method).1
  have X0 : Stand p l e ({ frames := 0, cells := 0, slots := 0, locals := 0 } : Room) s m #[(.ref a1), (.ref a2)] below meth c s₁ [] 0 0 := Stand.of_body Bd
  have e0 : s₁.heap = h0 := by rw [← hh, Bd.state]; rfl
  have N0 := Fr.nil n0
  suffices own_main : own_End p e below s (own_pure (.int 0) h0 n0) ({ frames := 0, cells := 0, slots := 0, locals := 0 } : Room).cells ({ frames := 0, cells := 0, slots := 0, locals := 0 } : Room).slots s₁ (mkF m 0 #[.val (.ref a1), .val (.ref a2)] []) by
    obtain ⟨s₂, o, k1, k2, k3, k4⟩ := own_main
    exact ⟨s₂, o, castTop (ef_rmEL m a1 a2) k1, k2, k3, k4⟩
  show own_End _ _ _ _ _ _ _ s₁ (mkF m 0 #[.val (.ref a1), .val (.ref a2)] [])
  refine own_go (fun t k => XS.aloadN X0.here hx rfl (hb hby d3_0) rfl rfl k) ?_
  show own_End _ _ _ _ _ _ _ s₁ (mkF m 1 #[.val (.ref a1), .val (.ref a2)] [(.ref a2)])
  obtain ⟨T8, X8, e8, st8⟩ := instNo X0 hx hZ hown (hw _ (List.mem_of_getElem? (i := 20) rfl)) e0 E2 hno (g := (mkF m 1 #[.val (.ref a1), .val (.ref a2)] [(.ref a2)])) rfl rfl (hb hby d3_1)
  refine own_go st8 ?_
  show own_End _ _ _ _ _ _ _ T8 (mkF m 4 #[.val (.ref a1), .val (.ref a2)] [(.int (0 : Int32))])
  refine own_go (fun t k => XS.ifYes X8.here hx rfl (pc0 := 4) (pc' := 56) rfl (hb hby d3_4) rfl ((if0 _ _).trans (teq (by decide : (0 : Int32) = (0 : Int32))).1) (by decide) (by decide) k) ?_
  show own_End _ _ _ _ _ _ _ T8 (mkF m 56 #[.val (.ref a1), .val (.ref a2)] [])
  refine own_go (fun t k => XS.iconst X8.here hx rfl (hb hby d3_56) k) ?_
  show own_End _ _ _ _ _ _ _ T8 (mkF m 57 #[.val (.ref a1), .val (.ref a2)] [(.int (0 : Int32))])
  exact own_retW X8 hx Bd.returns Bd.notSynchronized rfl (Or.inl ⟨rfl, by simp, _, rfl⟩) (hb hby d3_57) ⟨rfl, N0, e8⟩ (by decide) (by decide)
theorem ef_rmET (m : MethodId) (x0 : Addr) (x1 : Addr) : entryFrame m #[(.ref x0), (.ref x1)] 2 = mkF m 0 #[.val (.ref x0), .val (.ref x1)] [] := by first | (simp [entryFrame, mkF, argsToLocals, Value.category]; done) | rfl
theorem d3_7 : decode prog_44_method_6_code 7 = .ok (.aload_n 0, 1) := by decide +kernel
theorem d3_8 : decode prog_44_method_6_code 8 = .ok (.getfield 7, 3) := by decide +kernel
theorem d3_11 : decode prog_44_method_6_code 11 = .ok (.aload_n 1, 1) := by decide +kernel
theorem d3_12 : decode prog_44_method_6_code 12 = .ok (.checkcast 8, 3) := by decide +kernel
theorem d3_15 : decode prog_44_method_6_code 15 = .ok (.getfield 7, 3) := by decide +kernel
theorem d3_18 : decode prog_44_method_6_code 18 = .ok (.lcmp, 1) := by decide +kernel
theorem d3_19 : decode prog_44_method_6_code 19 = .ok (.ifCond .ne 37, 3) := by decide +kernel
theorem d3_22 : decode prog_44_method_6_code 22 = .ok (.aload_n 0, 1) := by decide +kernel
theorem d3_23 : decode prog_44_method_6_code 23 = .ok (.getfield 13, 3) := by decide +kernel
theorem d3_26 : decode prog_44_method_6_code 26 = .ok (.aload_n 1, 1) := by decide +kernel
theorem d3_27 : decode prog_44_method_6_code 27 = .ok (.checkcast 8, 3) := by decide +kernel
theorem d3_30 : decode prog_44_method_6_code 30 = .ok (.getfield 13, 3) := by decide +kernel
theorem d3_33 : decode prog_44_method_6_code 33 = .ok (.lcmp, 1) := by decide +kernel
theorem d3_34 : decode prog_44_method_6_code 34 = .ok (.ifCond .ne 22, 3) := by decide +kernel
theorem d3_37 : decode prog_44_method_6_code 37 = .ok (.aload_n 0, 1) := by decide +kernel
theorem d3_38 : decode prog_44_method_6_code 38 = .ok (.getfield 16, 3) := by decide +kernel
theorem d3_41 : decode prog_44_method_6_code 41 = .ok (.aload_n 1, 1) := by decide +kernel
theorem d3_42 : decode prog_44_method_6_code 42 = .ok (.checkcast 8, 3) := by decide +kernel
theorem d3_45 : decode prog_44_method_6_code 45 = .ok (.getfield 16, 3) := by decide +kernel
theorem d3_48 : decode prog_44_method_6_code 48 = .ok (.lcmp, 1) := by decide +kernel
theorem d3_49 : decode prog_44_method_6_code 49 = .ok (.ifCond .ne 7, 3) := by decide +kernel
theorem d3_52 : decode prog_44_method_6_code 52 = .ok (.iconst 1, 1) := by decide +kernel
theorem d3_53 : decode prog_44_method_6_code 53 = .ok (.goto 4, 3) := by decide +kernel
set_option maxRecDepth 65536 in
set_option maxHeartbeats 40000000 in
theorem rmET (l : Launch) (Z : State) (a0 : Array Value) (hw : ∀ d ∈ tables_1, d.before a0 Z = true) (ws : List Jvm.Cond) (a1 a2 : Addr) (x1 x2 x3 y1 y2 y3 : Int64) (h0 : Heap) (n0 : Nat) (Z0 : n0 ≤ h0.size) (E2 : Exa Z h0 a2 "com/example/ingest_to_invoice/ingesttoinvoice/rating/Tax$Totals") (F1 : Fld Z h0 a1 "com/example/ingest_to_invoice/ingesttoinvoice/rating/Tax$Totals" "subtotalMinor" "J" (.long x1)) (G1 : Fld Z h0 a2 "com/example/ingest_to_invoice/ingesttoinvoice/rating/Tax$Totals" "subtotalMinor" "J" (.long y1)) (F2 : Fld Z h0 a1 "com/example/ingest_to_invoice/ingesttoinvoice/rating/Tax$Totals" "taxMinor" "J" (.long x2)) (G2 : Fld Z h0 a2 "com/example/ingest_to_invoice/ingesttoinvoice/rating/Tax$Totals" "taxMinor" "J" (.long y2)) (F3 : Fld Z h0 a1 "com/example/ingest_to_invoice/ingesttoinvoice/rating/Tax$Totals" "totalMinor" "J" (.long x3)) (G3 : Fld Z h0 a2 "com/example/ingest_to_invoice/ingesttoinvoice/rating/Tax$Totals" "totalMinor" "J" (.long y3)) :
    MetFree l (⟨"com/example/ingest_to_invoice/ingesttoinvoice/rating/Tax$Totals", "equals", "(Ljava/lang/Object;)Z"⟩ : MethodName) (head1 (Jvm.Cond.code (⟨"com/example/ingest_to_invoice/ingesttoinvoice/rating/Tax$Totals", "equals", "(Ljava/lang/Object;)Z"⟩ : MethodName) prog_44_method_6_code 2 (some .boolean) :: ws) ({ frames := 0, cells := 0, slots := 0, locals := 0 } : Room)) (fun a U => a = #[(.ref a1), (.ref a2)] ∧ Z.Warmed39 U.vm ∧ U.heap = h0) (fun _ _ _ _ _ => True) (fun _ U o U' => ∃ v L, o = .returned v ∧ own_pure (.int (own_eq x1 x2 x3 y1 y2 y3)) h0 n0 v U'.heap L ∧ FrameEnd U o U' L ({ frames := 0, cells := 0, slots := 0, locals := 0 } : Room).cells ({ frames := 0, cells := 0, slots := 0, locals := 0 } : Room).slots) := by
  refine MetFree.of_bodySF (plainFor_of_name pn_com_example_ingest_to_invoice_ingesttoinvoice_rating_Tax_Totals) hisR ?_
  intro p e s m args below meth c s₁ Bd hml0 hP hK
  obtain ⟨rfl, hZ, hh⟩ := hP
  have hx := Bd.exec
  have hby := Bd.bytes
  have hml : c.maxLocals = 2 := hml0
  have hown : s.vm.findClass "com/example/ingest_to_invoice/ingesttoinvoice/rating/Tax$Totals" = some m.cls := findClass_of_methodNamed Bd.named
  have hnm := (name_of_methodNamed Bd.named Bd.method).1
  have X0 : Stand p l e ({ frames := 0, cells := 0, slots := 0, locals := 0 } : Room) s m #[(.ref a1), (.ref a2)] below meth c s₁ [] 0 0 := Stand.of_body Bd
  have e0 : s₁.heap = h0 := by rw [← hh, Bd.state]; rfl
  have N0 := Fr.nil n0
  suffices own_main : own_End p e below s (own_pure (.int (own_eq x1 x2 x3 y1 y2 y3)) h0 n0) ({ frames := 0, cells := 0, slots := 0, locals := 0 } : Room).cells ({ frames := 0, cells := 0, slots := 0, locals := 0 } : Room).slots s₁ (mkF m 0 #[.val (.ref a1), .val (.ref a2)] []) by
    obtain ⟨s₂, o, k1, k2, k3, k4⟩ := own_main
    exact ⟨s₂, o, castTop (ef_rmET m a1 a2) k1, k2, k3, k4⟩
  show own_End _ _ _ _ _ _ _ s₁ (mkF m 0 #[.val (.ref a1), .val (.ref a2)] [])
  refine own_go (fun t k => XS.aloadN X0.here hx rfl (hb hby d3_0) rfl rfl k) ?_
  show own_End _ _ _ _ _ _ _ s₁ (mkF m 1 #[.val (.ref a1), .val (.ref a2)] [(.ref a2)])
  obtain ⟨T9, X9, e9, st9⟩ := instY X0 hx hZ hown (hw _ (List.mem_of_getElem? (i := 20) rfl)) e0 (Ins.self E2) (g := (mkF m 1 #[.val (.ref a1), .val (.ref a2)] [(.ref a2)])) rfl rfl (hb hby d3_1)
  refine own_go st9 ?_
  show own_End _ _ _ _ _ _ _ T9 (mkF m 4 #[.val (.ref a1), .val (.ref a2)] [(.int (1 : Int32))])
  refine own_go (fun t k => XS.ifNo X9.here hx rfl (hb hby d3_4) rfl ((if0 _ _).trans (feq (by decide : ¬ ((1 : Int32) = (0 : Int32)))).1) k) ?_
  show own_End _ _ _ _ _ _ _ T9 (mkF m 7 #[.val (.ref a1), .val (.ref a2)] [])
  refine own_go (fun t k => XS.aloadN X9.here hx rfl (hb hby d3_7) rfl rfl k) ?_
  show own_End _ _ _ _ _ _ _ T9 (mkF m 8 #[.val (.ref a1), .val (.ref a2)] [(.ref a1)])
  obtain ⟨T10, X10, e10, st10⟩ := getF X9 hx hZ hown (host := "") (Or.inl (hw _ (List.mem_of_getElem? (i := 9) rfl))) Via.refl e9 F1 (g := (mkF m 8 #[.val (.ref a1), .val (.ref a2)] [(.ref a1)])) rfl rfl (hb hby d3_8)
  refine own_go st10 ?_
  show own_End _ _ _ _ _ _ _ T10 (mkF m 11 #[.val (.ref a1), .val (.ref a2)] [(.long x1)])
  refine own_go (fun t k => XS.aloadN X10.here hx rfl (hb hby d3_11) rfl rfl k) ?_
  show own_End _ _ _ _ _ _ _ T10 (mkF m 12 #[.val (.ref a1), .val (.ref a2)] [(.ref a2), (.long x1)])
  obtain ⟨T11, X11, e11, st11⟩ := castY X10 hx hZ hown (hw _ (List.mem_of_getElem? (i := 20) rfl)) e10 (Ins.self E2) (g := (mkF m 12 #[.val (.ref a1), .val (.ref a2)] [(.ref a2), (.long x1)])) rfl rfl (hb hby d3_12)
  refine own_go st11 ?_
  show own_End _ _ _ _ _ _ _ T11 (mkF m 15 #[.val (.ref a1), .val (.ref a2)] [(.ref a2), (.long x1)])
  obtain ⟨T12, X12, e12, st12⟩ := getF X11 hx hZ hown (host := "") (Or.inl (hw _ (List.mem_of_getElem? (i := 9) rfl))) Via.refl e11 G1 (g := (mkF m 15 #[.val (.ref a1), .val (.ref a2)] [(.ref a2), (.long x1)])) rfl rfl (hb hby d3_15)
  refine own_go st12 ?_
  show own_End _ _ _ _ _ _ _ T12 (mkF m 18 #[.val (.ref a1), .val (.ref a2)] [(.long y1), (.long x1)])
  refine own_go (fun t k => XS.lcmp X12.here hx rfl (hb hby d3_18) rfl k) ?_
  show own_End _ _ _ _ _ _ _ T12 (mkF m 19 #[.val (.ref a1), .val (.ref a2)] [(.int (lcmpW x1 y1))])
  by_cases hc19 : x1 = y1
  · refine own_go (fun t k => XS.ifNo X12.here hx rfl (hb hby d3_19) rfl ((if0 _ _).trans (teq (own_lceq.mpr hc19)).2) k) ?_
    show own_End _ _ _ _ _ _ _ T12 (mkF m 22 #[.val (.ref a1), .val (.ref a2)] [])
    refine own_go (fun t k => XS.aloadN X12.here hx rfl (hb hby d3_22) rfl rfl k) ?_
    show own_End _ _ _ _ _ _ _ T12 (mkF m 23 #[.val (.ref a1), .val (.ref a2)] [(.ref a1)])
    obtain ⟨T13, X13, e13, st13⟩ := getF X12 hx hZ hown (host := "") (Or.inl (hw _ (List.mem_of_getElem? (i := 11) rfl))) Via.refl e12 F2 (g := (mkF m 23 #[.val (.ref a1), .val (.ref a2)] [(.ref a1)])) rfl rfl (hb hby d3_23)
    refine own_go st13 ?_
    show own_End _ _ _ _ _ _ _ T13 (mkF m 26 #[.val (.ref a1), .val (.ref a2)] [(.long x2)])
    refine own_go (fun t k => XS.aloadN X13.here hx rfl (hb hby d3_26) rfl rfl k) ?_
    show own_End _ _ _ _ _ _ _ T13 (mkF m 27 #[.val (.ref a1), .val (.ref a2)] [(.ref a2), (.long x2)])
    obtain ⟨T14, X14, e14, st14⟩ := castY X13 hx hZ hown (hw _ (List.mem_of_getElem? (i := 20) rfl)) e13 (Ins.self E2) (g := (mkF m 27 #[.val (.ref a1), .val (.ref a2)] [(.ref a2), (.long x2)])) rfl rfl (hb hby d3_27)
    refine own_go st14 ?_
    show own_End _ _ _ _ _ _ _ T14 (mkF m 30 #[.val (.ref a1), .val (.ref a2)] [(.ref a2), (.long x2)])
    obtain ⟨T15, X15, e15, st15⟩ := getF X14 hx hZ hown (host := "") (Or.inl (hw _ (List.mem_of_getElem? (i := 11) rfl))) Via.refl e14 G2 (g := (mkF m 30 #[.val (.ref a1), .val (.ref a2)] [(.ref a2), (.long x2)])) rfl rfl (hb hby d3_30)
    refine own_go st15 ?_
    show own_End _ _ _ _ _ _ _ T15 (mkF m 33 #[.val (.ref a1), .val (.ref a2)] [(.long y2), (.long x2)])
    refine own_go (fun t k => XS.lcmp X15.here hx rfl (hb hby d3_33) rfl k) ?_
    show own_End _ _ _ _ _ _ _ T15 (mkF m 34 #[.val (.ref a1), .val (.ref a2)] [(.int (lcmpW x2 y2))])
    by_cases hc34 : x2 = y2
    · refine own_go (fun t k => XS.ifNo X15.here hx rfl (hb hby d3_34) rfl ((if0 _ _).trans (teq (own_lceq.mpr hc34)).2) k) ?_
      show own_End _ _ _ _ _ _ _ T15 (mkF m 37 #[.val (.ref a1), .val (.ref a2)] [])
      refine own_go (fun t k => XS.aloadN X15.here hx rfl (hb hby d3_37) rfl rfl k) ?_
      show own_End _ _ _ _ _ _ _ T15 (mkF m 38 #[.val (.ref a1), .val (.ref a2)] [(.ref a1)])
      obtain ⟨T16, X16, e16, st16⟩ := getF X15 hx hZ hown (host := "") (Or.inl (hw _ (List.mem_of_getElem? (i := 13) rfl))) Via.refl e15 F3 (g := (mkF m 38 #[.val (.ref a1), .val (.ref a2)] [(.ref a1)])) rfl rfl (hb hby d3_38)
      refine own_go st16 ?_
      show own_End _ _ _ _ _ _ _ T16 (mkF m 41 #[.val (.ref a1), .val (.ref a2)] [(.long x3)])
      refine own_go (fun t k => XS.aloadN X16.here hx rfl (hb hby d3_41) rfl rfl k) ?_
      show own_End _ _ _ _ _ _ _ T16 (mkF m 42 #[.val (.ref a1), .val (.ref a2)] [(.ref a2), (.long x3)])
      obtain ⟨T17, X17, e17, st17⟩ := castY X16 hx hZ hown (hw _ (List.mem_of_getElem? (i := 20) rfl)) e16 (Ins.self E2) (g := (mkF m 42 #[.val (.ref a1), .val (.ref a2)] [(.ref a2), (.long x3)])) rfl rfl (hb hby d3_42)
      refine own_go st17 ?_
      show own_End _ _ _ _ _ _ _ T17 (mkF m 45 #[.val (.ref a1), .val (.ref a2)] [(.ref a2), (.long x3)])
      obtain ⟨T18, X18, e18, st18⟩ := getF X17 hx hZ hown (host := "") (Or.inl (hw _ (List.mem_of_getElem? (i := 13) rfl))) Via.refl e17 G3 (g := (mkF m 45 #[.val (.ref a1), .val (.ref a2)] [(.ref a2), (.long x3)])) rfl rfl (hb hby d3_45)
      refine own_go st18 ?_
      show own_End _ _ _ _ _ _ _ T18 (mkF m 48 #[.val (.ref a1), .val (.ref a2)] [(.long y3), (.long x3)])
      refine own_go (fun t k => XS.lcmp X18.here hx rfl (hb hby d3_48) rfl k) ?_
      show own_End _ _ _ _ _ _ _ T18 (mkF m 49 #[.val (.ref a1), .val (.ref a2)] [(.int (lcmpW x3 y3))])
      by_cases hc49 : x3 = y3
      · refine own_go (fun t k => XS.ifNo X18.here hx rfl (hb hby d3_49) rfl ((if0 _ _).trans (teq (own_lceq.mpr hc49)).2) k) ?_
        show own_End _ _ _ _ _ _ _ T18 (mkF m 52 #[.val (.ref a1), .val (.ref a2)] [])
        refine own_go (fun t k => XS.iconst X18.here hx rfl (hb hby d3_52) k) ?_
        show own_End _ _ _ _ _ _ _ T18 (mkF m 53 #[.val (.ref a1), .val (.ref a2)] [(.int (1 : Int32))])
        refine own_go (fun t k => XS.goto X18.here hx rfl (pc0 := 53) (pc' := 57) rfl (hb hby d3_53) (by decide) (by decide) k) ?_
        show own_End _ _ _ _ _ _ _ T18 (mkF m 57 #[.val (.ref a1), .val (.ref a2)] [(.int (1 : Int32))])
        exact own_retW X18 hx Bd.returns Bd.notSynchronized rfl (Or.inl ⟨rfl, by simp, _, rfl⟩) (hb hby d3_57) ⟨by simp [own_eq, hc19, hc34, hc49], N0, e18⟩ (by decide) (by decide)
      · refine own_go (fun t k => XS.ifYes X18.here hx rfl (pc0 := 49) (pc' := 56) rfl (hb hby d3_49) rfl ((if0 _ _).trans (feq (fun q => hc49 (own_lceq.mp q))).2) (by decide) (by decide) k) ?_
        show own_End _ _ _ _ _ _ _ T18 (mkF m 56 #[.val (.ref a1), .val (.ref a2)] [])
        refine own_go (fun t k => XS.iconst X18.here hx rfl (hb hby d3_56) k) ?_
        show own_End _ _ _ _ _ _ _ T18 (mkF m 57 #[.val (.ref a1), .val (.ref a2)] [(.int (0 : Int32))])
        exact own_retW X18 hx Bd.returns Bd.notSynchronized rfl (Or.inl ⟨rfl, by simp, _, rfl⟩) (hb hby d3_57) ⟨by simp [own_eq, hc19, hc34, hc49], N0, e18⟩ (by decide) (by decide)
    · refine own_go (fun t k => XS.ifYes X15.here hx rfl (pc0 := 34) (pc' := 56) rfl (hb hby d3_34) rfl ((if0 _ _).trans (feq (fun q => hc34 (own_lceq.mp q))).2) (by decide) (by decide) k) ?_
      show own_End _ _ _ _ _ _ _ T15 (mkF m 56 #[.val (.ref a1), .val (.ref a2)] [])
      refine own_go (fun t k => XS.iconst X15.here hx rfl (hb hby d3_56) k) ?_
      show own_End _ _ _ _ _ _ _ T15 (mkF m 57 #[.val (.ref a1), .val (.ref a2)] [(.int (0 : Int32))])
      exact own_retW X15 hx Bd.returns Bd.notSynchronized rfl (Or.inl ⟨rfl, by simp, _, rfl⟩) (hb hby d3_57) ⟨by simp [own_eq, hc19, hc34], N0, e15⟩ (by decide) (by decide)
  · refine own_go (fun t k => XS.ifYes X12.here hx rfl (pc0 := 19) (pc' := 56) rfl (hb hby d3_19) rfl ((if0 _ _).trans (feq (fun q => hc19 (own_lceq.mp q))).2) (by decide) (by decide) k) ?_
    show own_End _ _ _ _ _ _ _ T12 (mkF m 56 #[.val (.ref a1), .val (.ref a2)] [])
    refine own_go (fun t k => XS.iconst X12.here hx rfl (hb hby d3_56) k) ?_
    show own_End _ _ _ _ _ _ _ T12 (mkF m 57 #[.val (.ref a1), .val (.ref a2)] [(.int (0 : Int32))])
    exact own_retW X12 hx Bd.returns Bd.notSynchronized rfl (Or.inl ⟨rfl, by simp, _, rfl⟩) (hb hby d3_57) ⟨by simp [own_eq, hc19], N0, e12⟩ (by decide) (by decide)
def Q_rmN (Z : State) (a1 : Addr) (h0 : Heap) (n0 : Nat) (v : Option Value) (h : Heap) (L : List Loc) : Prop := v = none ∧ Fr n0 L ∧ h = h0
theorem ef_rmN (m : MethodId) (x0 : Addr) : entryFrame m #[(.ref x0)] 1 = mkF m 0 #[.val (.ref x0)] [] := by first | (simp [entryFrame, mkF, argsToLocals, Value.category]; done) | rfl
theorem pn_java_lang_Number : plainName "java/lang/Number" = true := by first | (simp [plainName, overriddenIn]; done) | decide +kernel
theorem d6_0 : decode jdk_18_method_1_code 0 = .ok (.aload_n 0, 1) := by decide +kernel
theorem d6_1 : decode jdk_18_method_1_code 1 = .ok (.invokespecial 1, 3) := by decide +kernel
theorem d6_4 : decode jdk_18_method_1_code 4 = .ok (.return_, 1) := by decide +kernel
set_option maxRecDepth 65536 in
set_option maxHeartbeats 40000000 in
theorem rmN (l : Launch) (Z : State) (a0 : Array Value) (hw : ∀ d ∈ tables_1, d.before a0 Z = true) (ws : List Jvm.Cond) (a1 : Addr) (h0 : Heap) (n0 : Nat) (Z0 : n0 ≤ h0.size)  :
    MetFree l (⟨"java/lang/Number", "<init>", "()V"⟩ : MethodName) (head1 (Jvm.Cond.code (⟨"java/lang/Number", "<init>", "()V"⟩ : MethodName) jdk_18_method_1_code 1 none :: ws) ({ frames := 1, cells := 0, slots := 0, locals := 12 } : Room)) (fun a U => a = #[(.ref a1)] ∧ Z.Warmed39 U.vm ∧ U.heap = h0) (fun _ _ _ _ _ => True) (fun _ U o U' => ∃ v L, o = .returned v ∧ Q_rmN Z a1 h0 n0 v U'.heap L ∧ FrameEnd U o U' L ({ frames := 1, cells := 0, slots := 0, locals := 12 } : Room).cells ({ frames := 1, cells := 0, slots := 0, locals := 12 } : Room).slots) := by
  refine MetFree.of_bodySF (plainFor_of_name pn_java_lang_Number) hisR ?_
  intro p e s m args below meth c s₁ Bd hml0 hP hK
  obtain ⟨rfl, hZ, hh⟩ := hP
  have hx := Bd.exec
  have hby := Bd.bytes
  have hml : c.maxLocals = 1 := hml0
  have hown : s.vm.findClass "java/lang/Number" = some m.cls := findClass_of_methodNamed Bd.named
  have hnm := (name_of_methodNamed Bd.named Bd.method).1
  have X0 : Stand p l e ({ frames := 1, cells := 0, slots := 0, locals := 12 } : Room) s m #[(.ref a1)] below meth c s₁ [] 0 0 := Stand.of_body Bd
  have e0 : s₁.heap = h0 := by rw [← hh, Bd.state]; rfl
  have N0 := Fr.nil n0
  suffices own_main : own_End p e below s (Q_rmN Z a1 h0 n0) ({ frames := 1, cells := 0, slots := 0, locals := 12 } : Room).cells ({ frames := 1, cells := 0, slots := 0, locals := 12 } : Room).slots s₁ (mkF m 0 #[.val (.ref a1)] []) by
    obtain ⟨s₂, o, k1, k2, k3, k4⟩ := own_main
    exact ⟨s₂, o, castTop (ef_rmN m a1) k1, k2, k3, k4⟩
  show own_End _ _ _ _ _ _ _ s₁ (mkF m 0 #[.val (.ref a1)] [])
  refine own_go (fun t k => XS.aloadN X0.here hx rfl (hb hby d6_0) rfl rfl k) ?_
  show own_End _ _ _ _ _ _ _ s₁ (mkF m 1 #[.val (.ref a1)] [(.ref a1)])
  obtain ⟨T19, X19, e19, st19⟩ := initO X0 hx hZ hown (hw _ (List.mem_of_getElem? (i := 39) rfl)) (hw _ (List.mem_of_getElem? (i := 7) rfl)) (hw _ (List.mem_of_getElem? (i := 8) rfl)) e0 (g := (mkF m 1 #[.val (.ref a1)] [(.ref a1)])) rfl (by rw [hml]; rfl) rfl (hb hby d6_1) (by decide) (W := 0) (by show 2 * 0 + _ ≤ _; exact Nat.le_of_eq rfl) (by decide)
  refine own_go st19 ?_
  show own_End _ _ _ _ _ _ _ T19 (mkF m 4 #[.val (.ref a1)] [])
  exact own_retV X19 hx Bd.returns Bd.notSynchronized (hb hby d6_4) ⟨rfl, N0, e19⟩ (by decide) (by decide)
def Q_rmL (Z : State) (a1 : Addr) (q1 : Int64) (h0 : Heap) (n0 : Nat) (v : Option Value) (h : Heap) (L : List Loc) : Prop := v = none ∧ Fr n0 L ∧ Keep h0 h [a1] ∧ Exa Z h a1 "java/lang/Long"
theorem ef_rmL (m : MethodId) (x0 : Addr) (x1 : Int64) : entryFrame m #[(.ref x0), (.long x1)] 3 = mkF m 0 #[.val (.ref x0), .val (.long x1), .second] [] := by first | (simp [entryFrame, mkF, argsToLocals, Value.category]; done) | rfl
theorem pn_java_lang_Long : plainName "java/lang/Long" = true := by first | (simp [plainName, overriddenIn]; done) | decide +kernel
theorem d5_0 : decode jdk_35_method_26_code 0 = .ok (.aload_n 0, 1) := by decide +kernel
theorem d5_1 : decode jdk_35_method_26_code 1 = .ok (.invokespecial 270, 3) := by decide +kernel
theorem pd___V : parseMethodDescriptor "()V" = some ⟨[], none⟩ := by decide +kernel
theorem d5_4 : decode jdk_35_method_26_code 4 = .ok (.aload_n 0, 1) := by decide +kernel
theorem d5_5 : decode jdk_35_method_26_code 5 = .ok (.lload_n 1, 1) := by decide +kernel
theorem d5_6 : decode jdk_35_method_26_code 6 = .ok (.putfield 273, 3) := by decide +kernel
theorem d5_9 : decode jdk_35_method_26_code 9 = .ok (.return_, 1) := by decide +kernel
set_option maxRecDepth 65536 in
set_option maxHeartbeats 40000000 in
theorem rmL (l : Launch) (Z : State) (a0 : Array Value) (hw : ∀ d ∈ tables_1, d.before a0 Z = true) (ws : List Jvm.Cond) (a1 : Addr) (q1 : Int64) (h0 : Heap) (n0 : Nat) (Z0 : n0 ≤ h0.size) (E1 : Exa Z h0 a1 "java/lang/Long") (g1 : n0 ≤ a1) (F1 : Fld Z h0 a1 "java/lang/Long" "value" "J" (.long (0 : Int64))) :
    MetFree l (⟨"java/lang/Long", "<init>", "(J)V"⟩ : MethodName) (head1 (Jvm.Cond.code (⟨"java/lang/Long", "<init>", "(J)V"⟩ : MethodName) jdk_35_method_26_code 3 none :: ws) ({ frames := 2, cells := 0, slots := 0, locals := 24 } : Room)) (fun a U => a = #[(.ref a1), (.long q1)] ∧ Z.Warmed39 U.vm ∧ U.heap = h0) (fun _ _ _ _ _ => True) (fun _ U o U' => ∃ v L, o = .returned v ∧ Q_rmL Z a1 q1 h0 n0 v U'.heap L ∧ FrameEnd U o U' L ({ frames := 2, cells := 0, slots := 0, locals := 24 } : Room).cells ({ frames := 2, cells := 0, slots := 0, locals := 24 } : Room).slots) := by
  refine MetFree.of_bodySF (plainFor_of_name pn_java_lang_Long) hisR ?_
  intro p e s m args below meth c s₁ Bd hml0 hP hK
  obtain ⟨rfl, hZ, hh⟩ := hP
  have hx := Bd.exec
  have hby := Bd.bytes
  have hml : c.maxLocals = 3 := hml0
  have hown : s.vm.findClass "java/lang/Long" = some m.cls := findClass_of_methodNamed Bd.named
  have hnm := (name_of_methodNamed Bd.named Bd.method).1
  have X0 : Stand p l e ({ frames := 2, cells := 0, slots := 0, locals := 24 } : Room) s m #[(.ref a1), (.long q1)] below meth c s₁ [] 0 0 := Stand.of_body Bd
  have e0 : s₁.heap = h0 := by rw [← hh, Bd.state]; rfl
  have N0 := Fr.nil n0
  suffices own_main : own_End p e below s (Q_rmL Z a1 q1 h0 n0) ({ frames := 2, cells := 0, slots := 0, locals := 24 } : Room).cells ({ frames := 2, cells := 0, slots := 0, locals := 24 } : Room).slots s₁ (mkF m 0 #[.val (.ref a1), .val (.long q1), .second] []) by
    obtain ⟨s₂, o, k1, k2, k3, k4⟩ := own_main
    exact ⟨s₂, o, castTop (ef_rmL m a1 q1) k1, k2, k3, k4⟩
  show own_End _ _ _ _ _ _ _ s₁ (mkF m 0 #[.val (.ref a1), .val (.long q1), .second] [])
  refine own_go (fun t k => XS.aloadN X0.here hx rfl (hb hby d5_0) rfl rfl k) ?_
  show own_End _ _ _ _ _ _ _ s₁ (mkF m 1 #[.val (.ref a1), .val (.long q1), .second] [(.ref a1)])
  obtain ⟨v20, T20, L20, X20, hQ20, st20⟩ := own_callN (y := (⟨"java/lang/Number", "<init>", "()V"⟩ : MethodName)) X0 hx hZ hown (hw _ (List.mem_of_getElem? (i := 33) rfl)) (hw _ (List.mem_of_getElem? (i := 34) rfl)) (hw _ (List.mem_of_getElem? (i := 38) rfl)) (by decide) (hw _ (List.mem_of_getElem? (i := 37) rfl)) (rmN l Z a0 hw [] a1 h0 n0 Z0) e0 (W := 0) (by decide) (by decide) (g := (mkF m 1 #[.val (.ref a1), .val (.long q1), .second] [(.ref a1)])) rfl (by rw [hml]; rfl) (argsL := []) (rest := []) (a := a1) rfl rfl (lenOf pd___V rfl) rfl (by show 2 * 0 + _ ≤ _; exact Nat.le_of_eq rfl) (hb hby d5_1) (by decide) (by decide)
  obtain ⟨rfl, N20q, e20⟩ := hQ20
  have N20 := Fr.app N0 N20q
  refine own_go st20 ?_
  show own_End _ _ _ _ _ _ _ T20 (mkF m 4 #[.val (.ref a1), .val (.long q1), .second] [])
  refine own_go (fun t k => XS.aloadN X20.here hx rfl (hb hby d5_4) rfl rfl k) ?_
  show own_End _ _ _ _ _ _ _ T20 (mkF m 5 #[.val (.ref a1), .val (.long q1), .second] [(.ref a1)])
  refine own_go (fun t k => XS.lloadN X20.here hx rfl (hb hby d5_5) rfl k) ?_
  show own_End _ _ _ _ _ _ _ T20 (mkF m 6 #[.val (.ref a1), .val (.long q1), .second] [(.long q1), (.ref a1)])
  obtain ⟨T21, h21, X21, e21, W21, st21⟩ := putF X20 hx hZ hown (host := "") (Or.inl (hw _ (List.mem_of_getElem? (i := 40) rfl))) Via.refl e20 F1 E1 (Or.inr ⟨(hw _ (List.mem_of_getElem? (i := 41) rfl)), rfl, hnm⟩) (hw _ (List.mem_of_getElem? (i := 28) rfl)) (ty := .long) (by decide) rfl rfl (g := (mkF m 6 #[.val (.ref a1), .val (.long q1), .second] [(.long q1), (.ref a1)])) rfl rfl (hb hby d5_6)
  have Fw21 := F1.same W21
  have K22 : Keep h0 h21 [a1] := (Keep.refl h0 [a1]).wr W21 (Or.inl (by simp))
  have N21 := Fr.snoc X21 N20 g1
  refine own_go st21 ?_
  show own_End _ _ _ _ _ _ _ T21 (mkF m 9 #[.val (.ref a1), .val (.long q1), .second] [])
  exact own_retV X21 hx Bd.returns Bd.notSynchronized (hb hby d5_9) (by rw [e21]; exact ⟨rfl, N21, K22, (E1.wr W21)⟩) (by decide) (by decide)
theorem own_cache {q : Int64} (h1 : ¬ q < (-128 : Int64)) (h2 : ¬ (127 : Int64) < q) : ¬ (q.toInt32 + (128 : Int32)) < 0 ∧ (q.toInt32 + (128 : Int32)) < 256 := by
  have e1 : (-128 : Int64).toInt = -128 := rfl
  have e2 : (127 : Int64).toInt = 127 := rfl
  rw [Int64.lt_iff_toInt_lt] at h1 h2
  have e3 : q.toInt32.toInt = q.toInt := by rw [Int64.toInt_toInt32, Int.bmod_eq_of_le (by omega) (by omega)]
  have e4 : (128 : Int32).toInt = 128 := rfl
  have e5 : (256 : Int32).toInt = 256 := rfl
  have e6 : (0 : Int32).toInt = 0 := rfl
  have e7 : (q.toInt32 + (128 : Int32)).toInt = q.toInt + 128 := by rw [Int32.toInt_add, e3, e4, Int.bmod_eq_of_le (by omega) (by omega)]
  rw [Int32.lt_iff_toInt_lt, Int32.lt_iff_toInt_lt, e7]
  omega
def Q_rmV (Z : State) (q1 : Int64) (wc : Addr) (cl : Cell) (h0 : Heap) (n0 : Nat) (v : Option Value) (h : Heap) (L : List Loc) : Prop := ∃ bx : Addr, v = some (.ref bx) ∧ Fr n0 L ∧ Keep h0 h [] ∧ Exa Z h bx "java/lang/Long"
theorem ef_rmV (m : MethodId) (x0 : Int64) : entryFrame m #[(.long x0)] 3 = mkF m 0 #[.val (.long x0), .second, .unset] [] := by first | (simp [entryFrame, mkF, argsToLocals, Value.category]; done) | rfl
theorem d4_0 : decode jdk_35_method_24_code 0 = .ok (.sipush 128, 3) := by decide +kernel
theorem d4_3 : decode jdk_35_method_24_code 3 = .ok (.istore_n 2, 1) := by decide +kernel
theorem d4_4 : decode jdk_35_method_24_code 4 = .ok (.lload_n 0, 1) := by decide +kernel
theorem d4_5 : decode jdk_35_method_24_code 5 = .ok (.ldc2_w 230, 3) := by decide +kernel
theorem d4_8 : decode jdk_35_method_24_code 8 = .ok (.lcmp, 1) := by decide +kernel
theorem d4_9 : decode jdk_35_method_24_code 9 = .ok (.ifCond .lt 22, 3) := by decide +kernel
theorem d4_31 : decode jdk_35_method_24_code 31 = .ok (.new 1, 3) := by decide +kernel
theorem d4_34 : decode jdk_35_method_24_code 34 = .ok (.dup, 1) := by decide +kernel
theorem d4_35 : decode jdk_35_method_24_code 35 = .ok (.lload_n 0, 1) := by decide +kernel
theorem d4_36 : decode jdk_35_method_24_code 36 = .ok (.invokespecial 240, 3) := by decide +kernel
theorem pd__J_V : parseMethodDescriptor "(J)V" = some ⟨[.long], none⟩ := by decide +kernel
theorem d4_39 : decode jdk_35_method_24_code 39 = .ok (.areturn, 1) := by decide +kernel
theorem d4_12 : decode jdk_35_method_24_code 12 = .ok (.lload_n 0, 1) := by decide +kernel
theorem d4_13 : decode jdk_35_method_24_code 13 = .ok (.ldc2_w 232, 3) := by decide +kernel
theorem d4_16 : decode jdk_35_method_24_code 16 = .ok (.lcmp, 1) := by decide +kernel
theorem d4_17 : decode jdk_35_method_24_code 17 = .ok (.ifCond .gt 14, 3) := by decide +kernel
theorem d4_20 : decode jdk_35_method_24_code 20 = .ok (.getstatic 234, 3) := by decide +kernel
theorem d4_23 : decode jdk_35_method_24_code 23 = .ok (.lload_n 0, 1) := by decide +kernel
theorem d4_24 : decode jdk_35_method_24_code 24 = .ok (.l2i, 1) := by decide +kernel
theorem d4_25 : decode jdk_35_method_24_code 25 = .ok (.sipush 128, 3) := by decide +kernel
theorem d4_28 : decode jdk_35_method_24_code 28 = .ok (.iadd, 1) := by decide +kernel
theorem d4_29 : decode jdk_35_method_24_code 29 = .ok (.aaload, 1) := by decide +kernel
theorem d4_30 : decode jdk_35_method_24_code 30 = .ok (.areturn, 1) := by decide +kernel
set_option maxRecDepth 65536 in
set_option maxHeartbeats 40000000 in
theorem rmV (l : Launch) (Z : State) (a0 : Array Value) (hw : ∀ d ∈ tables_1, d.before a0 Z = true) (ws : List Jvm.Cond) (q1 : Int64) (wc : Addr) (cl : Cell) (h0 : Heap) (n0 : Nat) (Z0 : n0 ≤ h0.size) (SC : Sta Z h0 "java/lang/Long$LongCache" "cache" "[Ljava/lang/Long;" (.ref wc)) (Ar : Arr Z h0 wc cl (.object "java/lang/Long")) (Sz : cl.slots.size = (256 : Int32).toNatClampNeg) (hB : ∀ j : Int32, ¬ (j < 0 ∨ cl.slots.size ≤ j.toNatClampNeg) → ∃ bx : Addr, cl.slots[j.toNatClampNeg]? = some (.ref bx) ∧ Exa Z h0 bx "java/lang/Long") :
    MetFree l (⟨"java/lang/Long", "valueOf", "(J)Ljava/lang/Long;"⟩ : MethodName) (head1 (Jvm.Cond.code (⟨"java/lang/Long", "valueOf", "(J)Ljava/lang/Long;"⟩ : MethodName) jdk_35_method_24_code 3 (some (.object "java/lang/Long")) :: ws) ({ frames := 3, cells := 1, slots := 1, locals := 39 } : Room)) (fun a U => a = #[(.long q1)] ∧ Z.Warmed39 U.vm ∧ U.heap = h0) (fun _ _ _ _ _ => True) (fun _ U o U' => ∃ v L, o = .returned v ∧ Q_rmV Z q1 wc cl h0 n0 v U'.heap L ∧ FrameEnd U o U' L ({ frames := 3, cells := 1, slots := 1, locals := 39 } : Room).cells ({ frames := 3, cells := 1, slots := 1, locals := 39 } : Room).slots) := by
  refine MetFree.of_bodySF (plainFor_of_name pn_java_lang_Long) hisR ?_
  intro p e s m args below meth c s₁ Bd hml0 hP hK
  obtain ⟨rfl, hZ, hh⟩ := hP
  have hx := Bd.exec
  have hby := Bd.bytes
  have hml : c.maxLocals = 3 := hml0
  have hown : s.vm.findClass "java/lang/Long" = some m.cls := findClass_of_methodNamed Bd.named
  have hnm := (name_of_methodNamed Bd.named Bd.method).1
  have X0 : Stand p l e ({ frames := 3, cells := 1, slots := 1, locals := 39 } : Room) s m #[(.long q1)] below meth c s₁ [] 0 0 := Stand.of_body Bd
  have e0 : s₁.heap = h0 := by rw [← hh, Bd.state]; rfl
  have N0 := Fr.nil n0
  suffices own_main : own_End p e below s (Q_rmV Z q1 wc cl h0 n0) ({ frames := 3, cells := 1, slots := 1, locals := 39 } : Room).cells ({ frames := 3, cells := 1, slots := 1, locals := 39 } : Room).slots s₁ (mkF m 0 #[.val (.long q1), .second, .unset] []) by
    obtain ⟨s₂, o, k1, k2, k3, k4⟩ := own_main
    exact ⟨s₂, o, castTop (ef_rmV m q1) k1, k2, k3, k4⟩
  show own_End _ _ _ _ _ _ _ s₁ (mkF m 0 #[.val (.long q1), .second, .unset] [])
  refine own_go (fun t k => XS.sipush X0.here hx rfl (hb hby d4_0) k) ?_
  show own_End _ _ _ _ _ _ _ s₁ (mkF m 3 #[.val (.long q1), .second, .unset] [(.int (128 : Int32))])
  refine own_go (fun t k => XS.istoreN X0.here hx rfl (hb hby d4_3) rfl (l' := #[.val (.long q1), .second, .val (.int (128 : Int32))]) rfl k) ?_
  show own_End _ _ _ _ _ _ _ s₁ (mkF m 4 #[.val (.long q1), .second, .val (.int (128 : Int32))] [])
  refine own_go (fun t k => XS.lloadN X0.here hx rfl (hb hby d4_4) rfl k) ?_
  show own_End _ _ _ _ _ _ _ s₁ (mkF m 5 #[.val (.long q1), .second, .val (.int (128 : Int32))] [(.long q1)])
  refine own_go (fun t k => X0.ldc2Long hx hown (mvT hZ (hw _ (List.mem_of_getElem? (i := 26) rfl))) (g := (mkF m 5 #[.val (.long q1), .second, .val (.int (128 : Int32))] [(.long q1)])) rfl (hb hby d4_5) t k) ?_
  show own_End _ _ _ _ _ _ _ s₁ (mkF m 8 #[.val (.long q1), .second, .val (.int (128 : Int32))] [(.long (-128 : Int64)), (.long q1)])
  refine own_go (fun t k => XS.lcmp X0.here hx rfl (hb hby d4_8) rfl k) ?_
  show own_End _ _ _ _ _ _ _ s₁ (mkF m 9 #[.val (.long q1), .second, .val (.int (128 : Int32))] [(.int (lcmpW q1 (-128 : Int64)))])
  by_cases hc9 : q1 < (-128 : Int64)
  · refine own_go (fun t k => XS.ifYes X0.here hx rfl (pc0 := 9) (pc' := 31) rfl (hb hby d4_9) rfl ((if0 _ _).trans (tlt (own_lclt.mpr hc9)).1) (by decide) (by decide) k) ?_
    show own_End _ _ _ _ _ _ _ s₁ (mkF m 31 #[.val (.long q1), .second, .val (.int (128 : Int32))] [])
    obtain ⟨T23, h23, X23, e23, E23, A23, D23, -, st23⟩ := newO X0 hx hZ hown (hw _ (List.mem_of_getElem? (i := 27) rfl)) (hw _ (List.mem_of_getElem? (i := 28) rfl)) (hw _ (List.mem_of_getElem? (i := 24) rfl)) e0 (g := (mkF m 31 #[.val (.long q1), .second, .val (.int (128 : Int32))] [])) rfl (hb hby d4_31) (by decide) (by decide)
    obtain ⟨b23, g23⟩ : ∃ z, z = h0.size := ⟨_, rfl⟩
    rw [← g23] at A23 D23 st23
    have g_b23 : n0 ≤ b23 := Nat.le_trans Z0 (Nat.le_of_eq g23.symm)
    have sz_b23 : h0.size ≤ b23 := Nat.le_trans (Keep.refl h0 []).1 (Nat.le_of_eq g23.symm)
    have F23_value : Fld Z h23 b23 "java/lang/Long" "value" "J" (.long (0 : Int64)) := D23 (Or.inr (hw _ (List.mem_of_getElem? (i := 41) rfl))) (ty := .long) (by decide)
    have K24 : Keep h0 h23 [] := (Keep.refl h0 []).ext E23
    refine own_go st23 ?_
    show own_End _ _ _ _ _ _ _ T23 (mkF m 34 #[.val (.long q1), .second, .val (.int (128 : Int32))] [(.ref b23)])
    refine own_go (fun t k => XS.dup X23.here hx rfl (hb hby d4_34) rfl rfl k) ?_
    show own_End _ _ _ _ _ _ _ T23 (mkF m 35 #[.val (.long q1), .second, .val (.int (128 : Int32))] [(.ref b23), (.ref b23)])
    refine own_go (fun t k => XS.lloadN X23.here hx rfl (hb hby d4_35) rfl k) ?_
    show own_End _ _ _ _ _ _ _ T23 (mkF m 36 #[.val (.long q1), .second, .val (.int (128 : Int32))] [(.long q1), (.ref b23), (.ref b23)])
    obtain ⟨v25, T25, L25, X25, hQ25, st25⟩ := own_callN (y := (⟨"java/lang/Long", "<init>", "(J)V"⟩ : MethodName)) X23 hx hZ hown (hw _ (List.mem_of_getElem? (i := 29) rfl)) (hw _ (List.mem_of_getElem? (i := 30) rfl)) (hw _ (List.mem_of_getElem? (i := 32) rfl)) (by decide) (hw _ (List.mem_of_getElem? (i := 24) rfl)) (rmL l Z a0 hw [] b23 q1 h23 n0 (Nat.le_trans Z0 E23.1) A23 g_b23 F23_value) e23 (W := 1) (by decide) (by decide) (g := (mkF m 36 #[.val (.long q1), .second, .val (.int (128 : Int32))] [(.long q1), (.ref b23), (.ref b23)])) rfl (by rw [hml]; rfl) (argsL := [(.long q1)]) (rest := [(.ref b23)]) (a := b23) rfl rfl (lenOf pd__J_V rfl) rfl (by show 2 * 0 + _ ≤ _; exact Nat.le_of_eq rfl) (hb hby d4_36) (by decide) (by decide)
    obtain ⟨rfl, N25q, Kc25, Ec25⟩ := hQ25
    have N25 := Fr.app N0 N25q
    refine own_go st25 ?_
    have K25 : Keep h0 T25.heap [] := K24.trans Kc25 (fun x hx => by cases List.mem_singleton.mp hx; exact Or.inr sz_b23)
    show own_End _ _ _ _ _ _ _ T25 (mkF m 39 #[.val (.long q1), .second, .val (.int (128 : Int32))] [(.ref b23)])
    exact own_retW X25 hx Bd.returns Bd.notSynchronized rfl (Or.inr (Or.inr (Or.inr (Or.inr ⟨rfl, rfl, rfl⟩)))) (hb hby d4_39) ⟨b23, rfl, N25, K25, Ec25⟩ (by decide) (by decide)
  · refine own_go (fun t k => XS.ifNo X0.here hx rfl (hb hby d4_9) rfl ((if0 _ _).trans (flt (fun q => hc9 (own_lclt.mp q))).1) k) ?_
    show own_End _ _ _ _ _ _ _ s₁ (mkF m 12 #[.val (.long q1), .second, .val (.int (128 : Int32))] [])
    refine own_go (fun t k => XS.lloadN X0.here hx rfl (hb hby d4_12) rfl k) ?_
    show own_End _ _ _ _ _ _ _ s₁ (mkF m 13 #[.val (.long q1), .second, .val (.int (128 : Int32))] [(.long q1)])
    refine own_go (fun t k => X0.ldc2Long hx hown (mvT hZ (hw _ (List.mem_of_getElem? (i := 45) rfl))) (g := (mkF m 13 #[.val (.long q1), .second, .val (.int (128 : Int32))] [(.long q1)])) rfl (hb hby d4_13) t k) ?_
    show own_End _ _ _ _ _ _ _ s₁ (mkF m 16 #[.val (.long q1), .second, .val (.int (128 : Int32))] [(.long (127 : Int64)), (.long q1)])
    refine own_go (fun t k => XS.lcmp X0.here hx rfl (hb hby d4_16) rfl k) ?_
    show own_End _ _ _ _ _ _ _ s₁ (mkF m 17 #[.val (.long q1), .second, .val (.int (128 : Int32))] [(.int (lcmpW q1 (127 : Int64)))])
    by_cases hc17 : (127 : Int64) < q1
    · refine own_go (fun t k => XS.ifYes X0.here hx rfl (pc0 := 17) (pc' := 31) rfl (hb hby d4_17) rfl ((if0 _ _).trans (tlt (own_lcgt.mpr hc17)).2.2.1) (by decide) (by decide) k) ?_
      show own_End _ _ _ _ _ _ _ s₁ (mkF m 31 #[.val (.long q1), .second, .val (.int (128 : Int32))] [])
      obtain ⟨T26, h26, X26, e26, E26, A26, D26, -, st26⟩ := newO X0 hx hZ hown (hw _ (List.mem_of_getElem? (i := 27) rfl)) (hw _ (List.mem_of_getElem? (i := 28) rfl)) (hw _ (List.mem_of_getElem? (i := 24) rfl)) e0 (g := (mkF m 31 #[.val (.long q1), .second, .val (.int (128 : Int32))] [])) rfl (hb hby d4_31) (by decide) (by decide)
      obtain ⟨b26, g26⟩ : ∃ z, z = h0.size := ⟨_, rfl⟩
      rw [← g26] at A26 D26 st26
      have g_b26 : n0 ≤ b26 := Nat.le_trans Z0 (Nat.le_of_eq g26.symm)
      have sz_b26 : h0.size ≤ b26 := Nat.le_trans (Keep.refl h0 []).1 (Nat.le_of_eq g26.symm)
      have F26_value : Fld Z h26 b26 "java/lang/Long" "value" "J" (.long (0 : Int64)) := D26 (Or.inr (hw _ (List.mem_of_getElem? (i := 41) rfl))) (ty := .long) (by decide)
      have K27 : Keep h0 h26 [] := (Keep.refl h0 []).ext E26
      refine own_go st26 ?_
      show own_End _ _ _ _ _ _ _ T26 (mkF m 34 #[.val (.long q1), .second, .val (.int (128 : Int32))] [(.ref b26)])
      refine own_go (fun t k => XS.dup X26.here hx rfl (hb hby d4_34) rfl rfl k) ?_
      show own_End _ _ _ _ _ _ _ T26 (mkF m 35 #[.val (.long q1), .second, .val (.int (128 : Int32))] [(.ref b26), (.ref b26)])
      refine own_go (fun t k => XS.lloadN X26.here hx rfl (hb hby d4_35) rfl k) ?_
      show own_End _ _ _ _ _ _ _ T26 (mkF m 36 #[.val (.long q1), .second, .val (.int (128 : Int32))] [(.long q1), (.ref b26), (.ref b26)])
      obtain ⟨v28, T28, L28, X28, hQ28, st28⟩ := own_callN (y := (⟨"java/lang/Long", "<init>", "(J)V"⟩ : MethodName)) X26 hx hZ hown (hw _ (List.mem_of_getElem? (i := 29) rfl)) (hw _ (List.mem_of_getElem? (i := 30) rfl)) (hw _ (List.mem_of_getElem? (i := 32) rfl)) (by decide) (hw _ (List.mem_of_getElem? (i := 24) rfl)) (rmL l Z a0 hw [] b26 q1 h26 n0 (Nat.le_trans Z0 E26.1) A26 g_b26 F26_value) e26 (W := 1) (by decide) (by decide) (g := (mkF m 36 #[.val (.long q1), .second, .val (.int (128 : Int32))] [(.long q1), (.ref b26), (.ref b26)])) rfl (by rw [hml]; rfl) (argsL := [(.long q1)]) (rest := [(.ref b26)]) (a := b26) rfl rfl (lenOf pd__J_V rfl) rfl (by show 2 * 0 + _ ≤ _; exact Nat.le_of_eq rfl) (hb hby d4_36) (by decide) (by decide)
      obtain ⟨rfl, N28q, Kc28, Ec28⟩ := hQ28
      have N28 := Fr.app N0 N28q
      refine own_go st28 ?_
      have K28 : Keep h0 T28.heap [] := K27.trans Kc28 (fun x hx => by cases List.mem_singleton.mp hx; exact Or.inr sz_b26)
      show own_End _ _ _ _ _ _ _ T28 (mkF m 39 #[.val (.long q1), .second, .val (.int (128 : Int32))] [(.ref b26)])
      exact own_retW X28 hx Bd.returns Bd.notSynchronized rfl (Or.inr (Or.inr (Or.inr (Or.inr ⟨rfl, rfl, rfl⟩)))) (hb hby d4_39) ⟨b26, rfl, N28, K28, Ec28⟩ (by decide) (by decide)
    · refine own_go (fun t k => XS.ifNo X0.here hx rfl (hb hby d4_17) rfl ((if0 _ _).trans (flt (fun q => hc17 (own_lcgt.mp q))).2.2.1) k) ?_
      show own_End _ _ _ _ _ _ _ s₁ (mkF m 20 #[.val (.long q1), .second, .val (.int (128 : Int32))] [])
      obtain ⟨T29, X29, e29, st29⟩ := getS2 X0 hx hZ hown (host := "") (Or.inl (hw _ (List.mem_of_getElem? (i := 46) rfl))) Via.refl e0 SC (g := (mkF m 20 #[.val (.long q1), .second, .val (.int (128 : Int32))] [])) rfl (hb hby d4_20)
      refine own_go st29 ?_
      show own_End _ _ _ _ _ _ _ T29 (mkF m 23 #[.val (.long q1), .second, .val (.int (128 : Int32))] [(.ref wc)])
      refine own_go (fun t k => XS.lloadN X29.here hx rfl (hb hby d4_23) rfl k) ?_
      show own_End _ _ _ _ _ _ _ T29 (mkF m 24 #[.val (.long q1), .second, .val (.int (128 : Int32))] [(.long q1), (.ref wc)])
      refine own_go (fun t k => XS.l2i X29.here hx rfl (hb hby d4_24) rfl k) ?_
      show own_End _ _ _ _ _ _ _ T29 (mkF m 25 #[.val (.long q1), .second, .val (.int (128 : Int32))] [(.int (q1.toInt32)), (.ref wc)])
      refine own_go (fun t k => XS.sipush X29.here hx rfl (hb hby d4_25) k) ?_
      show own_End _ _ _ _ _ _ _ T29 (mkF m 28 #[.val (.long q1), .second, .val (.int (128 : Int32))] [(.int (128 : Int32)), (.int (q1.toInt32)), (.ref wc)])
      refine own_go (fun t k => XS.iadd X29.here hx rfl (hb hby d4_28) rfl k) ?_
      show own_End _ _ _ _ _ _ _ T29 (mkF m 29 #[.val (.long q1), .second, .val (.int (128 : Int32))] [(.int ((q1.toInt32) + (128 : Int32))), (.ref wc)])
      have hin : ¬ ((q1.toInt32 + (128 : Int32)) < 0 ∨ cl.slots.size ≤ (q1.toInt32 + (128 : Int32)).toNatClampNeg) := inb_of Sz (own_cache hc9 hc17)
      obtain ⟨bx, hat, hbE⟩ := hB _ hin
      refine own_go (fun t k => X29.aaload hx (j := ((q1.toInt32) + (128 : Int32))) (v := (.ref bx)) (by rw [e29]; exact Ar.1) (State.isArrayOf_alike hZ.alike Ar.2.1) rfl Ar.2.2 hin hat (g := (mkF m 29 #[.val (.long q1), .second, .val (.int (128 : Int32))] [(.int ((q1.toInt32) + (128 : Int32))), (.ref wc)])) rfl rfl (hb hby d4_29) t k) ?_
      show own_End _ _ _ _ _ _ _ T29 (mkF m 30 #[.val (.long q1), .second, .val (.int (128 : Int32))] [(.ref bx)])
      exact own_retW X29 hx Bd.returns Bd.notSynchronized rfl (Or.inr (Or.inr (Or.inr (Or.inr ⟨rfl, rfl, rfl⟩)))) (hb hby d4_30) ⟨bx, rfl, N0, (by rw [e29]; exact Keep.refl _ _), (by rw [e29]; exact hbE)⟩ (by decide) (by decide)
theorem own_StaK {Z : State} {h h' : Heap} {C n d : String} {v : Value} (F : Sta Z h C n d v) (K : Keep h h' []) : Sta Z h' C n d v := by
  obtain ⟨cf, i, k, f, st, cell, h1, h2, h3, h4, h5, r⟩ := F
  exact ⟨cf, i, k, f, st, cell, h1, h2, h3, h4, K.2.1 _ _ h5 nin0, r⟩
theorem own_ArrK {Z : State} {h h' : Heap} {a : Addr} {c : Cell} {ty : FieldType} (F : Arr Z h a c ty) (K : Keep h h' []) : Arr Z h' a c ty := ⟨K.2.1 _ _ F.1 nin0, F.2⟩
theorem ef_rm0 (m : MethodId) (x0 : Int64) (x1 : Int64) (x2 : Int64) (x3 : Int64) (x4 : Int64) (x5 : Int32) : entryFrame m #[(.long x0), (.long x1), (.long x2), (.long x3), (.long x4), (.int x5)] maxLocals = mkF m 0 #[.val (.long x0), .second, .val (.long x1), .second, .val (.long x2), .second, .val (.long x3), .second, .val (.long x4), .second, .val (.int x5), .unset, .unset, .unset, .unset, .unset, .unset, .unset, .unset, .unset, .unset, .unset, .unset] [] := by first | (simp [entryFrame, mkF, argsToLocals, Value.category, maxLocals]; done) | rfl
theorem pn_com_example_ingest_to_invoice_ingesttoinvoice_rating_TotalsEqualsPinLaw : plainName "com/example/ingest_to_invoice/ingesttoinvoice/rating/TotalsEqualsPinLaw" = true := by first | (simp [plainName, overriddenIn]; done) | decide +kernel
theorem pd__JJJ_V : parseMethodDescriptor "(JJJ)V" = some ⟨[.long, .long, .long], none⟩ := by decide +kernel
theorem pd__Ljava_lang_Object__Z : parseMethodDescriptor "(Ljava/lang/Object;)Z" = some ⟨[(.object "java/lang/Object")], some .boolean⟩ := by decide +kernel
theorem pd__J_Ljava_lang_Long_ : parseMethodDescriptor "(J)Ljava/lang/Long;" = some ⟨[.long], some (.object "java/lang/Long")⟩ := by decide +kernel
set_option maxRecDepth 65536 in
set_option maxHeartbeats 40000000 in
theorem rm0 (l : Launch) (Z : State) (a0 : Array Value) (hw : ∀ d ∈ tables_1, d.before a0 Z = true) (ws : List Jvm.Cond) (p1 p2 p3 p4 p5 : Int64) (p6 : Int32) (wc : Addr) (cl : Cell) (h0 : Heap) (n0 : Nat) (Z0 : n0 ≤ h0.size) (SC : Sta Z h0 "java/lang/Long$LongCache" "cache" "[Ljava/lang/Long;" (.ref wc)) (Ar : Arr Z h0 wc cl (.object "java/lang/Long")) (Sz : cl.slots.size = (256 : Int32).toNatClampNeg) (hB : ∀ j : Int32, ¬ (j < 0 ∨ cl.slots.size ≤ j.toNatClampNeg) → ∃ bx : Addr, cl.slots[j.toNatClampNeg]? = some (.ref bx) ∧ Exa Z h0 bx "java/lang/Long") (hno : ∃ c t, Z.vm.findClass "java/lang/Long" = some c ∧ Z.vm.findClass "com/example/ingest_to_invoice/ingesttoinvoice/rating/Tax$Totals" = some t ∧ Z.vm.assignable c t = false) :
    MetFree l x (head1 (Jvm.Cond.code x code maxLocals ret :: ws) room_1) (fun a U => a = #[(.long p1), (.long p2), (.long p3), (.long p4), (.long p5), (.int p6)] ∧ Z.Warmed39 U.vm ∧ U.heap = h0) (fun _ _ _ _ _ => True) (fun _ U o U' => ∃ v L, o = .returned v ∧ own_law n0 v U'.heap L ∧ FrameEnd U o U' L room_1.cells room_1.slots) := by
  refine MetFree.of_bodySF (plainFor_of_name pn_com_example_ingest_to_invoice_ingesttoinvoice_rating_TotalsEqualsPinLaw) hisR ?_
  intro p e s m args below meth c s₁ Bd hml0 hP hK
  obtain ⟨rfl, hZ, hh⟩ := hP
  have hx := Bd.exec
  have hby := Bd.bytes
  have hml : c.maxLocals = 23 := hml0
  have hown : s.vm.findClass "com/example/ingest_to_invoice/ingesttoinvoice/rating/TotalsEqualsPinLaw" = some m.cls := findClass_of_methodNamed Bd.named
  have hnm := (name_of_methodNamed Bd.named Bd.method).1
  have X0 : Stand p l e room_1 s m #[(.long p1), (.long p2), (.long p3), (.long p4), (.long p5), (.int p6)] below meth c s₁ [] 0 0 := Stand.of_body Bd
  have e0 : s₁.heap = h0 := by rw [← hh, Bd.state]; rfl
  have N0 := Fr.nil n0
  suffices own_main : own_End p e below s (own_law n0) room_1.cells room_1.slots s₁ (mkF m 0 #[.val (.long p1), .second, .val (.long p2), .second, .val (.long p3), .second, .val (.long p4), .second, .val (.long p5), .second, .val (.int p6), .unset, .unset, .unset, .unset, .unset, .unset, .unset, .unset, .unset, .unset, .unset, .unset] []) by
    obtain ⟨s₂, o, k1, k2, k3, k4⟩ := own_main
    exact ⟨s₂, o, castTop (ef_rm0 m p1 p2 p3 p4 p5 p6) k1, k2, k3, k4⟩
  have j49 : ∀ (d e_ f : Int64),  own_End p e below s (own_law n0) room_1.cells room_1.slots s₁ (mkF m 49 #[.val (.long p1), .second, .val (.long p2), .second, .val (.long p3), .second, .val (.long p4), .second, .val (.long p5), .second, .val (.int p6), .val (.long d), .second, .val (.long e_), .second, .val (.long f), .second, .unset, .unset, .unset, .unset, .unset, .unset] []) := by
    intro d e_ f
    show own_End _ _ _ _ _ _ _ s₁ (mkF m 49 #[.val (.long p1), .second, .val (.long p2), .second, .val (.long p3), .second, .val (.long p4), .second, .val (.long p5), .second, .val (.int p6), .val (.long d), .second, .val (.long e_), .second, .val (.long f), .second, .unset, .unset, .unset, .unset, .unset, .unset] [])
    refine own_go (fun t k => XS.iload X0.here hx rfl (hb hby at_49) rfl k) ?_
    show own_End _ _ _ _ _ _ _ s₁ (mkF m 51 #[.val (.long p1), .second, .val (.long p2), .second, .val (.long p3), .second, .val (.long p4), .second, .val (.long p5), .second, .val (.int p6), .val (.long d), .second, .val (.long e_), .second, .val (.long f), .second, .unset, .unset, .unset, .unset, .unset, .unset] [(.int p6)])
    refine own_go (fun t k => XS.iconst X0.here hx rfl (hb hby at_51) k) ?_
    show own_End _ _ _ _ _ _ _ s₁ (mkF m 52 #[.val (.long p1), .second, .val (.long p2), .second, .val (.long p3), .second, .val (.long p4), .second, .val (.long p5), .second, .val (.int p6), .val (.long d), .second, .val (.long e_), .second, .val (.long f), .second, .unset, .unset, .unset, .unset, .unset, .unset] [(.int (3 : Int32)), (.int p6)])
    refine own_go (fun t k => XS.iushr X0.here hx rfl (hb hby at_52) rfl k) ?_
    show own_End _ _ _ _ _ _ _ s₁ (mkF m 53 #[.val (.long p1), .second, .val (.long p2), .second, .val (.long p3), .second, .val (.long p4), .second, .val (.long p5), .second, .val (.int p6), .val (.long d), .second, .val (.long e_), .second, .val (.long f), .second, .unset, .unset, .unset, .unset, .unset, .unset] [(.int ((p6.toUInt32 >>> ((3 : Int32) &&& 31).toUInt32).toInt32))])
    refine own_go (fun t k => XS.iconst X0.here hx rfl (hb hby at_53) k) ?_
    show own_End _ _ _ _ _ _ _ s₁ (mkF m 54 #[.val (.long p1), .second, .val (.long p2), .second, .val (.long p3), .second, .val (.long p4), .second, .val (.long p5), .second, .val (.int p6), .val (.long d), .second, .val (.long e_), .second, .val (.long f), .second, .unset, .unset, .unset, .unset, .unset, .unset] [(.int (3 : Int32)), (.int ((p6.toUInt32 >>> ((3 : Int32) &&& 31).toUInt32).toInt32))])
    refine own_go (fun t k => XS.iand X0.here hx rfl (hb hby at_54) rfl k) ?_
    show own_End _ _ _ _ _ _ _ s₁ (mkF m 55 #[.val (.long p1), .second, .val (.long p2), .second, .val (.long p3), .second, .val (.long p4), .second, .val (.long p5), .second, .val (.int p6), .val (.long d), .second, .val (.long e_), .second, .val (.long f), .second, .unset, .unset, .unset, .unset, .unset, .unset] [(.int (((p6.toUInt32 >>> ((3 : Int32) &&& 31).toUInt32).toInt32) &&& (3 : Int32)))])
    refine own_go (fun t k => XS.istore X0.here hx rfl (hb hby at_55) rfl (l' := #[.val (.long p1), .second, .val (.long p2), .second, .val (.long p3), .second, .val (.long p4), .second, .val (.long p5), .second, .val (.int p6), .val (.long d), .second, .val (.long e_), .second, .val (.long f), .second, .val (.int (((p6.toUInt32 >>> ((3 : Int32) &&& 31).toUInt32).toInt32) &&& (3 : Int32))), .unset, .unset, .unset, .unset, .unset]) rfl k) ?_
    show own_End _ _ _ _ _ _ _ s₁ (mkF m 57 #[.val (.long p1), .second, .val (.long p2), .second, .val (.long p3), .second, .val (.long p4), .second, .val (.long p5), .second, .val (.int p6), .val (.long d), .second, .val (.long e_), .second, .val (.long f), .second, .val (.int (((p6.toUInt32 >>> ((3 : Int32) &&& 31).toUInt32).toInt32) &&& (3 : Int32))), .unset, .unset, .unset, .unset, .unset] [])
    obtain ⟨T31, h31, X31, e31, E31, A31, D31, -, st31⟩ := newO X0 hx hZ hown (hw _ (List.mem_of_getElem? (i := 0) rfl)) (hw _ (List.mem_of_getElem? (i := 1) rfl)) (hw _ (List.mem_of_getElem? (i := 2) rfl)) e0 (g := (mkF m 57 #[.val (.long p1), .second, .val (.long p2), .second, .val (.long p3), .second, .val (.long p4), .second, .val (.long p5), .second, .val (.int p6), .val (.long d), .second, .val (.long e_), .second, .val (.long f), .second, .val (.int (((p6.toUInt32 >>> ((3 : Int32) &&& 31).toUInt32).toInt32) &&& (3 : Int32))), .unset, .unset, .unset, .unset, .unset] [])) rfl (hb hby at_57) (by decide) (by decide)
    obtain ⟨b31, g31⟩ : ∃ z, z = h0.size := ⟨_, rfl⟩
    rw [← g31] at A31 D31 st31
    have g_b31 : n0 ≤ b31 := Nat.le_trans Z0 (Nat.le_of_eq g31.symm)
    have sz_b31 : h0.size ≤ b31 := Nat.le_trans (Keep.refl h0 []).1 (Nat.le_of_eq g31.symm)
    have F31_subtotalMinor : Fld Z h31 b31 "com/example/ingest_to_invoice/ingesttoinvoice/rating/Tax$Totals" "subtotalMinor" "J" (.long (0 : Int64)) := D31 (Or.inr (hw _ (List.mem_of_getElem? (i := 10) rfl))) (ty := .long) (by decide)
    have F31_taxMinor : Fld Z h31 b31 "com/example/ingest_to_invoice/ingesttoinvoice/rating/Tax$Totals" "taxMinor" "J" (.long (0 : Int64)) := D31 (Or.inr (hw _ (List.mem_of_getElem? (i := 12) rfl))) (ty := .long) (by decide)
    have F31_totalMinor : Fld Z h31 b31 "com/example/ingest_to_invoice/ingesttoinvoice/rating/Tax$Totals" "totalMinor" "J" (.long (0 : Int64)) := D31 (Or.inr (hw _ (List.mem_of_getElem? (i := 14) rfl))) (ty := .long) (by decide)
    have K32 : Keep h0 h31 [] := (Keep.refl h0 []).ext E31
    refine own_go st31 ?_
    show own_End _ _ _ _ _ _ _ T31 (mkF m 60 #[.val (.long p1), .second, .val (.long p2), .second, .val (.long p3), .second, .val (.long p4), .second, .val (.long p5), .second, .val (.int p6), .val (.long d), .second, .val (.long e_), .second, .val (.long f), .second, .val (.int (((p6.toUInt32 >>> ((3 : Int32) &&& 31).toUInt32).toInt32) &&& (3 : Int32))), .unset, .unset, .unset, .unset, .unset] [(.ref b31)])
    refine own_go (fun t k => XS.dup X31.here hx rfl (hb hby at_60) rfl rfl k) ?_
    show own_End _ _ _ _ _ _ _ T31 (mkF m 61 #[.val (.long p1), .second, .val (.long p2), .second, .val (.long p3), .second, .val (.long p4), .second, .val (.long p5), .second, .val (.int p6), .val (.long d), .second, .val (.long e_), .second, .val (.long f), .second, .val (.int (((p6.toUInt32 >>> ((3 : Int32) &&& 31).toUInt32).toInt32) &&& (3 : Int32))), .unset, .unset, .unset, .unset, .unset] [(.ref b31), (.ref b31)])
    refine own_go (fun t k => XS.lloadN X31.here hx rfl (hb hby at_61) rfl k) ?_
    show own_End _ _ _ _ _ _ _ T31 (mkF m 62 #[.val (.long p1), .second, .val (.long p2), .second, .val (.long p3), .second, .val (.long p4), .second, .val (.long p5), .second, .val (.int p6), .val (.long d), .second, .val (.long e_), .second, .val (.long f), .second, .val (.int (((p6.toUInt32 >>> ((3 : Int32) &&& 31).toUInt32).toInt32) &&& (3 : Int32))), .unset, .unset, .unset, .unset, .unset] [(.long p1), (.ref b31), (.ref b31)])
    refine own_go (fun t k => XS.lloadN X31.here hx rfl (hb hby at_62) rfl k) ?_
    show own_End _ _ _ _ _ _ _ T31 (mkF m 63 #[.val (.long p1), .second, .val (.long p2), .second, .val (.long p3), .second, .val (.long p4), .second, .val (.long p5), .second, .val (.int p6), .val (.long d), .second, .val (.long e_), .second, .val (.long f), .second, .val (.int (((p6.toUInt32 >>> ((3 : Int32) &&& 31).toUInt32).toInt32) &&& (3 : Int32))), .unset, .unset, .unset, .unset, .unset] [(.long p2), (.long p1), (.ref b31), (.ref b31)])
    refine own_go (fun t k => XS.lload X31.here hx rfl (hb hby at_63) rfl k) ?_
    show own_End _ _ _ _ _ _ _ T31 (mkF m 65 #[.val (.long p1), .second, .val (.long p2), .second, .val (.long p3), .second, .val (.long p4), .second, .val (.long p5), .second, .val (.int p6), .val (.long d), .second, .val (.long e_), .second, .val (.long f), .second, .val (.int (((p6.toUInt32 >>> ((3 : Int32) &&& 31).toUInt32).toInt32) &&& (3 : Int32))), .unset, .unset, .unset, .unset, .unset] [(.long p3), (.long p2), (.long p1), (.ref b31), (.ref b31)])
    obtain ⟨v33, T33, L33, X33, hQ33, st33⟩ := own_callN (y := (⟨"com/example/ingest_to_invoice/ingesttoinvoice/rating/Tax$Totals", "<init>", "(JJJ)V"⟩ : MethodName)) X31 hx hZ hown (hw _ (List.mem_of_getElem? (i := 3) rfl)) (hw _ (List.mem_of_getElem? (i := 4) rfl)) (hw _ (List.mem_of_getElem? (i := 5) rfl)) (by decide) (hw _ (List.mem_of_getElem? (i := 2) rfl)) (rmI l Z a0 hw [] b31 p1 p2 p3 h31 n0 (Nat.le_trans Z0 E31.1) A31 g_b31 F31_subtotalMinor F31_taxMinor F31_totalMinor) e31 (W := 1) (by decide) (by decide) (g := (mkF m 65 #[.val (.long p1), .second, .val (.long p2), .second, .val (.long p3), .second, .val (.long p4), .second, .val (.long p5), .second, .val (.int p6), .val (.long d), .second, .val (.long e_), .second, .val (.long f), .second, .val (.int (((p6.toUInt32 >>> ((3 : Int32) &&& 31).toUInt32).toInt32) &&& (3 : Int32))), .unset, .unset, .unset, .unset, .unset] [(.long p3), (.long p2), (.long p1), (.ref b31), (.ref b31)])) rfl (by rw [hml]; rfl) (argsL := [(.long p1), (.long p2), (.long p3)]) (rest := [(.ref b31)]) (a := b31) rfl rfl (lenOf pd__JJJ_V rfl) rfl (by show 2 * 0 + _ ≤ _; exact Nat.le_of_eq rfl) (hb hby at_65) (by decide) (by decide)
    obtain ⟨rfl, N33q, Kc33, Ec33, G0_33, G1_33, G2_33⟩ := hQ33
    have N33 := Fr.app N0 N33q
    refine own_go st33 ?_
    have K33 : Keep h0 T33.heap [] := K32.trans Kc33 (fun x hx => by cases List.mem_singleton.mp hx; exact Or.inr sz_b31)
    show own_End _ _ _ _ _ _ _ T33 (mkF m 68 #[.val (.long p1), .second, .val (.long p2), .second, .val (.long p3), .second, .val (.long p4), .second, .val (.long p5), .second, .val (.int p6), .val (.long d), .second, .val (.long e_), .second, .val (.long f), .second, .val (.int (((p6.toUInt32 >>> ((3 : Int32) &&& 31).toUInt32).toInt32) &&& (3 : Int32))), .unset, .unset, .unset, .unset, .unset] [(.ref b31)])
    refine own_go (fun t k => XS.astore X33.here hx rfl (hb hby at_68) rfl rfl (l' := #[.val (.long p1), .second, .val (.long p2), .second, .val (.long p3), .second, .val (.long p4), .second, .val (.long p5), .second, .val (.int p6), .val (.long d), .second, .val (.long e_), .second, .val (.long f), .second, .val (.int (((p6.toUInt32 >>> ((3 : Int32) &&& 31).toUInt32).toInt32) &&& (3 : Int32))), .val (.ref b31), .unset, .unset, .unset, .unset]) rfl k) ?_
    show own_End _ _ _ _ _ _ _ T33 (mkF m 70 #[.val (.long p1), .second, .val (.long p2), .second, .val (.long p3), .second, .val (.long p4), .second, .val (.long p5), .second, .val (.int p6), .val (.long d), .second, .val (.long e_), .second, .val (.long f), .second, .val (.int (((p6.toUInt32 >>> ((3 : Int32) &&& 31).toUInt32).toInt32) &&& (3 : Int32))), .val (.ref b31), .unset, .unset, .unset, .unset] [])
    obtain ⟨T34, h34, X34, e34, E34, A34, D34, -, st34⟩ := newO X33 hx hZ hown (hw _ (List.mem_of_getElem? (i := 0) rfl)) (hw _ (List.mem_of_getElem? (i := 1) rfl)) (hw _ (List.mem_of_getElem? (i := 2) rfl)) rfl (g := (mkF m 70 #[.val (.long p1), .second, .val (.long p2), .second, .val (.long p3), .second, .val (.long p4), .second, .val (.long p5), .second, .val (.int p6), .val (.long d), .second, .val (.long e_), .second, .val (.long f), .second, .val (.int (((p6.toUInt32 >>> ((3 : Int32) &&& 31).toUInt32).toInt32) &&& (3 : Int32))), .val (.ref b31), .unset, .unset, .unset, .unset] [])) rfl (hb hby at_70) (by decide) (by decide)
    obtain ⟨b34, g34⟩ : ∃ z, z = T33.heap.size := ⟨_, rfl⟩
    rw [← g34] at A34 D34 st34
    have ne_b31_b34 : b31 ≠ b34 := Nat.ne_of_lt (Nat.lt_of_lt_of_le Ec33.lt (Nat.le_of_eq g34.symm))
    have g_b34 : n0 ≤ b34 := Nat.le_trans (Nat.le_trans (Nat.le_trans Z0 E31.1) Kc33.1) (Nat.le_of_eq g34.symm)
    have sz_b34 : h0.size ≤ b34 := Nat.le_trans K33.1 (Nat.le_of_eq g34.symm)
    have F34_subtotalMinor : Fld Z h34 b34 "com/example/ingest_to_invoice/ingesttoinvoice/rating/Tax$Totals" "subtotalMinor" "J" (.long (0 : Int64)) := D34 (Or.inr (hw _ (List.mem_of_getElem? (i := 10) rfl))) (ty := .long) (by decide)
    have F34_taxMinor : Fld Z h34 b34 "com/example/ingest_to_invoice/ingesttoinvoice/rating/Tax$Totals" "taxMinor" "J" (.long (0 : Int64)) := D34 (Or.inr (hw _ (List.mem_of_getElem? (i := 12) rfl))) (ty := .long) (by decide)
    have F34_totalMinor : Fld Z h34 b34 "com/example/ingest_to_invoice/ingesttoinvoice/rating/Tax$Totals" "totalMinor" "J" (.long (0 : Int64)) := D34 (Or.inr (hw _ (List.mem_of_getElem? (i := 14) rfl))) (ty := .long) (by decide)
    have K35 : Keep h0 h34 [] := K33.ext E34
    refine own_go st34 ?_
    show own_End _ _ _ _ _ _ _ T34 (mkF m 73 #[.val (.long p1), .second, .val (.long p2), .second, .val (.long p3), .second, .val (.long p4), .second, .val (.long p5), .second, .val (.int p6), .val (.long d), .second, .val (.long e_), .second, .val (.long f), .second, .val (.int (((p6.toUInt32 >>> ((3 : Int32) &&& 31).toUInt32).toInt32) &&& (3 : Int32))), .val (.ref b31), .unset, .unset, .unset, .unset] [(.ref b34)])
    refine own_go (fun t k => XS.dup X34.here hx rfl (hb hby at_73) rfl rfl k) ?_
    show own_End _ _ _ _ _ _ _ T34 (mkF m 74 #[.val (.long p1), .second, .val (.long p2), .second, .val (.long p3), .second, .val (.long p4), .second, .val (.long p5), .second, .val (.int p6), .val (.long d), .second, .val (.long e_), .second, .val (.long f), .second, .val (.int (((p6.toUInt32 >>> ((3 : Int32) &&& 31).toUInt32).toInt32) &&& (3 : Int32))), .val (.ref b31), .unset, .unset, .unset, .unset] [(.ref b34), (.ref b34)])
    refine own_go (fun t k => XS.lload X34.here hx rfl (hb hby at_74) rfl k) ?_
    show own_End _ _ _ _ _ _ _ T34 (mkF m 76 #[.val (.long p1), .second, .val (.long p2), .second, .val (.long p3), .second, .val (.long p4), .second, .val (.long p5), .second, .val (.int p6), .val (.long d), .second, .val (.long e_), .second, .val (.long f), .second, .val (.int (((p6.toUInt32 >>> ((3 : Int32) &&& 31).toUInt32).toInt32) &&& (3 : Int32))), .val (.ref b31), .unset, .unset, .unset, .unset] [(.long d), (.ref b34), (.ref b34)])
    refine own_go (fun t k => XS.lload X34.here hx rfl (hb hby at_76) rfl k) ?_
    show own_End _ _ _ _ _ _ _ T34 (mkF m 78 #[.val (.long p1), .second, .val (.long p2), .second, .val (.long p3), .second, .val (.long p4), .second, .val (.long p5), .second, .val (.int p6), .val (.long d), .second, .val (.long e_), .second, .val (.long f), .second, .val (.int (((p6.toUInt32 >>> ((3 : Int32) &&& 31).toUInt32).toInt32) &&& (3 : Int32))), .val (.ref b31), .unset, .unset, .unset, .unset] [(.long e_), (.long d), (.ref b34), (.ref b34)])
    refine own_go (fun t k => XS.lload X34.here hx rfl (hb hby at_78) rfl k) ?_
    show own_End _ _ _ _ _ _ _ T34 (mkF m 80 #[.val (.long p1), .second, .val (.long p2), .second, .val (.long p3), .second, .val (.long p4), .second, .val (.long p5), .second, .val (.int p6), .val (.long d), .second, .val (.long e_), .second, .val (.long f), .second, .val (.int (((p6.toUInt32 >>> ((3 : Int32) &&& 31).toUInt32).toInt32) &&& (3 : Int32))), .val (.ref b31), .unset, .unset, .unset, .unset] [(.long f), (.long e_), (.long d), (.ref b34), (.ref b34)])
    obtain ⟨v36, T36, L36, X36, hQ36, st36⟩ := own_callN (y := (⟨"com/example/ingest_to_invoice/ingesttoinvoice/rating/Tax$Totals", "<init>", "(JJJ)V"⟩ : MethodName)) X34 hx hZ hown (hw _ (List.mem_of_getElem? (i := 3) rfl)) (hw _ (List.mem_of_getElem? (i := 4) rfl)) (hw _ (List.mem_of_getElem? (i := 5) rfl)) (by decide) (hw _ (List.mem_of_getElem? (i := 2) rfl)) (rmI l Z a0 hw [] b34 d e_ f h34 n0 (Nat.le_trans (Nat.le_trans (Nat.le_trans Z0 E31.1) Kc33.1) E34.1) A34 g_b34 F34_subtotalMinor F34_taxMinor F34_totalMinor) e34 (W := 1) (by decide) (by decide) (g := (mkF m 80 #[.val (.long p1), .second, .val (.long p2), .second, .val (.long p3), .second, .val (.long p4), .second, .val (.long p5), .second, .val (.int p6), .val (.long d), .second, .val (.long e_), .second, .val (.long f), .second, .val (.int (((p6.toUInt32 >>> ((3 : Int32) &&& 31).toUInt32).toInt32) &&& (3 : Int32))), .val (.ref b31), .unset, .unset, .unset, .unset] [(.long f), (.long e_), (.long d), (.ref b34), (.ref b34)])) rfl (by rw [hml]; rfl) (argsL := [(.long d), (.long e_), (.long f)]) (rest := [(.ref b34)]) (a := b34) rfl rfl (lenOf pd__JJJ_V rfl) rfl (by show 2 * 0 + _ ≤ _; exact Nat.le_of_eq rfl) (hb hby at_80) (by decide) (by decide)
    obtain ⟨rfl, N36q, Kc36, Ec36, G0_36, G1_36, G2_36⟩ := hQ36
    have N36 := Fr.app N33 N36q
    refine own_go st36 ?_
    have K36 : Keep h0 T36.heap [] := K35.trans Kc36 (fun x hx => by cases List.mem_singleton.mp hx; exact Or.inr sz_b34)
    show own_End _ _ _ _ _ _ _ T36 (mkF m 83 #[.val (.long p1), .second, .val (.long p2), .second, .val (.long p3), .second, .val (.long p4), .second, .val (.long p5), .second, .val (.int p6), .val (.long d), .second, .val (.long e_), .second, .val (.long f), .second, .val (.int (((p6.toUInt32 >>> ((3 : Int32) &&& 31).toUInt32).toInt32) &&& (3 : Int32))), .val (.ref b31), .unset, .unset, .unset, .unset] [(.ref b34)])
    refine own_go (fun t k => XS.astore X36.here hx rfl (hb hby at_83) rfl rfl (l' := #[.val (.long p1), .second, .val (.long p2), .second, .val (.long p3), .second, .val (.long p4), .second, .val (.long p5), .second, .val (.int p6), .val (.long d), .second, .val (.long e_), .second, .val (.long f), .second, .val (.int (((p6.toUInt32 >>> ((3 : Int32) &&& 31).toUInt32).toInt32) &&& (3 : Int32))), .val (.ref b31), .val (.ref b34), .unset, .unset, .unset]) rfl k) ?_
    show own_End _ _ _ _ _ _ _ T36 (mkF m 85 #[.val (.long p1), .second, .val (.long p2), .second, .val (.long p3), .second, .val (.long p4), .second, .val (.long p5), .second, .val (.int p6), .val (.long d), .second, .val (.long e_), .second, .val (.long f), .second, .val (.int (((p6.toUInt32 >>> ((3 : Int32) &&& 31).toUInt32).toInt32) &&& (3 : Int32))), .val (.ref b31), .val (.ref b34), .unset, .unset, .unset] [])
    have j151 : ∀ (ex : Int32), (¬ (((p6.toUInt32 >>> ((3 : Int32) &&& 31).toUInt32).toInt32) &&& (3 : Int32)) = (1 : Int32)) → (¬ (((p6.toUInt32 >>> ((3 : Int32) &&& 31).toUInt32).toInt32) &&& (3 : Int32)) = (2 : Int32)) → own_eq p1 p2 p3 d e_ f = ex → own_End p e below s (own_law n0) room_1.cells room_1.slots T36 (mkF m 151 #[.val (.long p1), .second, .val (.long p2), .second, .val (.long p3), .second, .val (.long p4), .second, .val (.long p5), .second, .val (.int p6), .val (.long d), .second, .val (.long e_), .second, .val (.long f), .second, .val (.int (((p6.toUInt32 >>> ((3 : Int32) &&& 31).toUInt32).toInt32) &&& (3 : Int32))), .val (.ref b31), .val (.ref b34), .val (.ref b34), .val (.int ex), .unset] []) := by
      intro ex hk1 hk2 hex
      show own_End _ _ _ _ _ _ _ T36 (mkF m 151 #[.val (.long p1), .second, .val (.long p2), .second, .val (.long p3), .second, .val (.long p4), .second, .val (.long p5), .second, .val (.int p6), .val (.long d), .second, .val (.long e_), .second, .val (.long f), .second, .val (.int (((p6.toUInt32 >>> ((3 : Int32) &&& 31).toUInt32).toInt32) &&& (3 : Int32))), .val (.ref b31), .val (.ref b34), .val (.ref b34), .val (.int ex), .unset] [])
      refine own_go (fun t k => XS.aload X36.here hx rfl (hb hby at_151) rfl rfl k) ?_
      show own_End _ _ _ _ _ _ _ T36 (mkF m 153 #[.val (.long p1), .second, .val (.long p2), .second, .val (.long p3), .second, .val (.long p4), .second, .val (.long p5), .second, .val (.int p6), .val (.long d), .second, .val (.long e_), .second, .val (.long f), .second, .val (.int (((p6.toUInt32 >>> ((3 : Int32) &&& 31).toUInt32).toInt32) &&& (3 : Int32))), .val (.ref b31), .val (.ref b34), .val (.ref b34), .val (.int ex), .unset] [(.ref b31)])
      refine own_go (fun t k => XS.aload X36.here hx rfl (hb hby at_153) rfl rfl k) ?_
      show own_End _ _ _ _ _ _ _ T36 (mkF m 155 #[.val (.long p1), .second, .val (.long p2), .second, .val (.long p3), .second, .val (.long p4), .second, .val (.long p5), .second, .val (.int p6), .val (.long d), .second, .val (.long e_), .second, .val (.long f), .second, .val (.int (((p6.toUInt32 >>> ((3 : Int32) &&& 31).toUInt32).toInt32) &&& (3 : Int32))), .val (.ref b31), .val (.ref b34), .val (.ref b34), .val (.int ex), .unset] [(.ref b34), (.ref b31)])
      obtain ⟨v37, T37, L37, X37, hQ37, st37⟩ := own_callV (y := (⟨"com/example/ingest_to_invoice/ingesttoinvoice/rating/Tax$Totals", "equals", "(Ljava/lang/Object;)Z"⟩ : MethodName)) (z := (⟨"com/example/ingest_to_invoice/ingesttoinvoice/rating/Tax$Totals", "equals", "(Ljava/lang/Object;)Z"⟩ : MethodName)) X36 hx hZ hown (hw _ (List.mem_of_getElem? (i := 15) rfl)) (hw _ (List.mem_of_getElem? (i := 16) rfl)) (hw _ (List.mem_of_getElem? (i := 18) rfl)) (hw _ (List.mem_of_getElem? (i := 17) rfl)) ((Ec33.ext E34).keep Kc36) (hw _ (List.mem_of_getElem? (i := 19) rfl)) (by decide) (hw _ (List.mem_of_getElem? (i := 2) rfl)) (rmET l Z a0 hw [] b31 b34 p1 p2 p3 d e_ f T36.heap n0 (Nat.le_trans (Nat.le_trans (Nat.le_trans (Nat.le_trans Z0 E31.1) Kc33.1) E34.1) Kc36.1) Ec36 ((G0_33.ext E34).keep Kc36 (ninS ne_b31_b34 nin0)) G0_36 ((G1_33.ext E34).keep Kc36 (ninS ne_b31_b34 nin0)) G1_36 ((G2_33.ext E34).keep Kc36 (ninS ne_b31_b34 nin0)) G2_36) rfl (W := 0) (by decide) (by decide) (g := (mkF m 155 #[.val (.long p1), .second, .val (.long p2), .second, .val (.long p3), .second, .val (.long p4), .second, .val (.long p5), .second, .val (.int p6), .val (.long d), .second, .val (.long e_), .second, .val (.long f), .second, .val (.int (((p6.toUInt32 >>> ((3 : Int32) &&& 31).toUInt32).toInt32) &&& (3 : Int32))), .val (.ref b31), .val (.ref b34), .val (.ref b34), .val (.int ex), .unset] [(.ref b34), (.ref b31)])) rfl (by rw [hml]; rfl) (argsL := [(.ref b34)]) (rest := []) (b := b31) rfl (notFace_of_selects (args := #[]) (mvT hZ (hw _ (List.mem_of_getElem? (i := 18) rfl)))) (lenOf pd__Ljava_lang_Object__Z rfl) rfl (by show 2 * 0 + _ ≤ _; exact Nat.le_of_eq rfl) (hb hby at_155) (by decide) (by decide)
      obtain ⟨rfl, N37q, e37⟩ := hQ37
      have N37 := Fr.app N36 N37q
      refine own_go st37 ?_
      show own_End _ _ _ _ _ _ _ T37 (mkF m 158 #[.val (.long p1), .second, .val (.long p2), .second, .val (.long p3), .second, .val (.long p4), .second, .val (.long p5), .second, .val (.int p6), .val (.long d), .second, .val (.long e_), .second, .val (.long f), .second, .val (.int (((p6.toUInt32 >>> ((3 : Int32) &&& 31).toUInt32).toInt32) &&& (3 : Int32))), .val (.ref b31), .val (.ref b34), .val (.ref b34), .val (.int ex), .unset] [(.int (own_eq p1 p2 p3 d e_ f))])
      refine own_go (fun t k => XS.iload X37.here hx rfl (hb hby at_158) rfl k) ?_
      show own_End _ _ _ _ _ _ _ T37 (mkF m 160 #[.val (.long p1), .second, .val (.long p2), .second, .val (.long p3), .second, .val (.long p4), .second, .val (.long p5), .second, .val (.int p6), .val (.long d), .second, .val (.long e_), .second, .val (.long f), .second, .val (.int (((p6.toUInt32 >>> ((3 : Int32) &&& 31).toUInt32).toInt32) &&& (3 : Int32))), .val (.ref b31), .val (.ref b34), .val (.ref b34), .val (.int ex), .unset] [(.int ex), (.int (own_eq p1 p2 p3 d e_ f))])
      refine own_go (fun t k => XS.icmpNo X37.here hx rfl (hb hby at_160) rfl (teq hex).2 k) ?_
      show own_End _ _ _ _ _ _ _ T37 (mkF m 163 #[.val (.long p1), .second, .val (.long p2), .second, .val (.long p3), .second, .val (.long p4), .second, .val (.long p5), .second, .val (.int p6), .val (.long d), .second, .val (.long e_), .second, .val (.long f), .second, .val (.int (((p6.toUInt32 >>> ((3 : Int32) &&& 31).toUInt32).toInt32) &&& (3 : Int32))), .val (.ref b31), .val (.ref b34), .val (.ref b34), .val (.int ex), .unset] [])
      refine own_go (fun t k => XS.iconst X37.here hx rfl (hb hby at_163) k) ?_
      show own_End _ _ _ _ _ _ _ T37 (mkF m 164 #[.val (.long p1), .second, .val (.long p2), .second, .val (.long p3), .second, .val (.long p4), .second, .val (.long p5), .second, .val (.int p6), .val (.long d), .second, .val (.long e_), .second, .val (.long f), .second, .val (.int (((p6.toUInt32 >>> ((3 : Int32) &&& 31).toUInt32).toInt32) &&& (3 : Int32))), .val (.ref b31), .val (.ref b34), .val (.ref b34), .val (.int ex), .unset] [(.int (1 : Int32))])
      refine own_go (fun t k => XS.goto X37.here hx rfl (pc0 := 164) (pc' := 168) rfl (hb hby at_164) (by decide) (by decide) k) ?_
      show own_End _ _ _ _ _ _ _ T37 (mkF m 168 #[.val (.long p1), .second, .val (.long p2), .second, .val (.long p3), .second, .val (.long p4), .second, .val (.long p5), .second, .val (.int p6), .val (.long d), .second, .val (.long e_), .second, .val (.long f), .second, .val (.int (((p6.toUInt32 >>> ((3 : Int32) &&& 31).toUInt32).toInt32) &&& (3 : Int32))), .val (.ref b31), .val (.ref b34), .val (.ref b34), .val (.int ex), .unset] [(.int (1 : Int32))])
      refine own_go (fun t k => XS.istore X37.here hx rfl (hb hby at_168) rfl (l' := #[.val (.long p1), .second, .val (.long p2), .second, .val (.long p3), .second, .val (.long p4), .second, .val (.long p5), .second, .val (.int p6), .val (.long d), .second, .val (.long e_), .second, .val (.long f), .second, .val (.int (((p6.toUInt32 >>> ((3 : Int32) &&& 31).toUInt32).toInt32) &&& (3 : Int32))), .val (.ref b31), .val (.ref b34), .val (.ref b34), .val (.int ex), .val (.int (1 : Int32))]) rfl k) ?_
      show own_End _ _ _ _ _ _ _ T37 (mkF m 170 #[.val (.long p1), .second, .val (.long p2), .second, .val (.long p3), .second, .val (.long p4), .second, .val (.long p5), .second, .val (.int p6), .val (.long d), .second, .val (.long e_), .second, .val (.long f), .second, .val (.int (((p6.toUInt32 >>> ((3 : Int32) &&& 31).toUInt32).toInt32) &&& (3 : Int32))), .val (.ref b31), .val (.ref b34), .val (.ref b34), .val (.int ex), .val (.int (1 : Int32))] [])
      refine own_go (fun t k => XS.iload X37.here hx rfl (hb hby at_170) rfl k) ?_
      show own_End _ _ _ _ _ _ _ T37 (mkF m 172 #[.val (.long p1), .second, .val (.long p2), .second, .val (.long p3), .second, .val (.long p4), .second, .val (.long p5), .second, .val (.int p6), .val (.long d), .second, .val (.long e_), .second, .val (.long f), .second, .val (.int (((p6.toUInt32 >>> ((3 : Int32) &&& 31).toUInt32).toInt32) &&& (3 : Int32))), .val (.ref b31), .val (.ref b34), .val (.ref b34), .val (.int ex), .val (.int (1 : Int32))] [(.int (((p6.toUInt32 >>> ((3 : Int32) &&& 31).toUInt32).toInt32) &&& (3 : Int32)))])
      refine own_go (fun t k => XS.iconst X37.here hx rfl (hb hby at_172) k) ?_
      show own_End _ _ _ _ _ _ _ T37 (mkF m 173 #[.val (.long p1), .second, .val (.long p2), .second, .val (.long p3), .second, .val (.long p4), .second, .val (.long p5), .second, .val (.int p6), .val (.long d), .second, .val (.long e_), .second, .val (.long f), .second, .val (.int (((p6.toUInt32 >>> ((3 : Int32) &&& 31).toUInt32).toInt32) &&& (3 : Int32))), .val (.ref b31), .val (.ref b34), .val (.ref b34), .val (.int ex), .val (.int (1 : Int32))] [(.int (1 : Int32)), (.int (((p6.toUInt32 >>> ((3 : Int32) &&& 31).toUInt32).toInt32) &&& (3 : Int32)))])
      refine own_go (fun t k => XS.icmpNo X37.here hx rfl (hb hby at_173) rfl (feq hk1).1 k) ?_
      show own_End _ _ _ _ _ _ _ T37 (mkF m 176 #[.val (.long p1), .second, .val (.long p2), .second, .val (.long p3), .second, .val (.long p4), .second, .val (.long p5), .second, .val (.int p6), .val (.long d), .second, .val (.long e_), .second, .val (.long f), .second, .val (.int (((p6.toUInt32 >>> ((3 : Int32) &&& 31).toUInt32).toInt32) &&& (3 : Int32))), .val (.ref b31), .val (.ref b34), .val (.ref b34), .val (.int ex), .val (.int (1 : Int32))] [])
      refine own_go (fun t k => XS.iload X37.here hx rfl (hb hby at_176) rfl k) ?_
      show own_End _ _ _ _ _ _ _ T37 (mkF m 178 #[.val (.long p1), .second, .val (.long p2), .second, .val (.long p3), .second, .val (.long p4), .second, .val (.long p5), .second, .val (.int p6), .val (.long d), .second, .val (.long e_), .second, .val (.long f), .second, .val (.int (((p6.toUInt32 >>> ((3 : Int32) &&& 31).toUInt32).toInt32) &&& (3 : Int32))), .val (.ref b31), .val (.ref b34), .val (.ref b34), .val (.int ex), .val (.int (1 : Int32))] [(.int (((p6.toUInt32 >>> ((3 : Int32) &&& 31).toUInt32).toInt32) &&& (3 : Int32)))])
      refine own_go (fun t k => XS.iconst X37.here hx rfl (hb hby at_178) k) ?_
      show own_End _ _ _ _ _ _ _ T37 (mkF m 179 #[.val (.long p1), .second, .val (.long p2), .second, .val (.long p3), .second, .val (.long p4), .second, .val (.long p5), .second, .val (.int p6), .val (.long d), .second, .val (.long e_), .second, .val (.long f), .second, .val (.int (((p6.toUInt32 >>> ((3 : Int32) &&& 31).toUInt32).toInt32) &&& (3 : Int32))), .val (.ref b31), .val (.ref b34), .val (.ref b34), .val (.int ex), .val (.int (1 : Int32))] [(.int (2 : Int32)), (.int (((p6.toUInt32 >>> ((3 : Int32) &&& 31).toUInt32).toInt32) &&& (3 : Int32)))])
      refine own_go (fun t k => XS.icmpNo X37.here hx rfl (hb hby at_179) rfl (feq hk2).1 k) ?_
      show own_End _ _ _ _ _ _ _ T37 (mkF m 182 #[.val (.long p1), .second, .val (.long p2), .second, .val (.long p3), .second, .val (.long p4), .second, .val (.long p5), .second, .val (.int p6), .val (.long d), .second, .val (.long e_), .second, .val (.long f), .second, .val (.int (((p6.toUInt32 >>> ((3 : Int32) &&& 31).toUInt32).toInt32) &&& (3 : Int32))), .val (.ref b31), .val (.ref b34), .val (.ref b34), .val (.int ex), .val (.int (1 : Int32))] [])
      refine own_go (fun t k => XS.iload X37.here hx rfl (hb hby at_182) rfl k) ?_
      show own_End _ _ _ _ _ _ _ T37 (mkF m 184 #[.val (.long p1), .second, .val (.long p2), .second, .val (.long p3), .second, .val (.long p4), .second, .val (.long p5), .second, .val (.int p6), .val (.long d), .second, .val (.long e_), .second, .val (.long f), .second, .val (.int (((p6.toUInt32 >>> ((3 : Int32) &&& 31).toUInt32).toInt32) &&& (3 : Int32))), .val (.ref b31), .val (.ref b34), .val (.ref b34), .val (.int ex), .val (.int (1 : Int32))] [(.int (1 : Int32))])
      refine own_go (fun t k => XS.ifNo X37.here hx rfl (hb hby at_184) rfl ((if0 _ _).trans (feq (by decide : ¬ ((1 : Int32) = (0 : Int32)))).1) k) ?_
      show own_End _ _ _ _ _ _ _ T37 (mkF m 187 #[.val (.long p1), .second, .val (.long p2), .second, .val (.long p3), .second, .val (.long p4), .second, .val (.long p5), .second, .val (.int p6), .val (.long d), .second, .val (.long e_), .second, .val (.long f), .second, .val (.int (((p6.toUInt32 >>> ((3 : Int32) &&& 31).toUInt32).toInt32) &&& (3 : Int32))), .val (.ref b31), .val (.ref b34), .val (.ref b34), .val (.int ex), .val (.int (1 : Int32))] [])
      refine own_go (fun t k => XS.aload X37.here hx rfl (hb hby at_187) rfl rfl k) ?_
      show own_End _ _ _ _ _ _ _ T37 (mkF m 189 #[.val (.long p1), .second, .val (.long p2), .second, .val (.long p3), .second, .val (.long p4), .second, .val (.long p5), .second, .val (.int p6), .val (.long d), .second, .val (.long e_), .second, .val (.long f), .second, .val (.int (((p6.toUInt32 >>> ((3 : Int32) &&& 31).toUInt32).toInt32) &&& (3 : Int32))), .val (.ref b31), .val (.ref b34), .val (.ref b34), .val (.int ex), .val (.int (1 : Int32))] [(.ref b34)])
      refine own_go (fun t k => XS.aload X37.here hx rfl (hb hby at_189) rfl rfl k) ?_
      show own_End _ _ _ _ _ _ _ T37 (mkF m 191 #[.val (.long p1), .second, .val (.long p2), .second, .val (.long p3), .second, .val (.long p4), .second, .val (.long p5), .second, .val (.int p6), .val (.long d), .second, .val (.long e_), .second, .val (.long f), .second, .val (.int (((p6.toUInt32 >>> ((3 : Int32) &&& 31).toUInt32).toInt32) &&& (3 : Int32))), .val (.ref b31), .val (.ref b34), .val (.ref b34), .val (.int ex), .val (.int (1 : Int32))] [(.ref b31), (.ref b34)])
      obtain ⟨v38, T38, L38, X38, hQ38, st38⟩ := own_callV (y := (⟨"com/example/ingest_to_invoice/ingesttoinvoice/rating/Tax$Totals", "equals", "(Ljava/lang/Object;)Z"⟩ : MethodName)) (z := (⟨"com/example/ingest_to_invoice/ingesttoinvoice/rating/Tax$Totals", "equals", "(Ljava/lang/Object;)Z"⟩ : MethodName)) X37 hx hZ hown (hw _ (List.mem_of_getElem? (i := 15) rfl)) (hw _ (List.mem_of_getElem? (i := 16) rfl)) (hw _ (List.mem_of_getElem? (i := 18) rfl)) (hw _ (List.mem_of_getElem? (i := 17) rfl)) Ec36 (hw _ (List.mem_of_getElem? (i := 19) rfl)) (by decide) (hw _ (List.mem_of_getElem? (i := 2) rfl)) (rmET l Z a0 hw [] b34 b31 d e_ f p1 p2 p3 T36.heap n0 (Nat.le_trans (Nat.le_trans (Nat.le_trans (Nat.le_trans Z0 E31.1) Kc33.1) E34.1) Kc36.1) ((Ec33.ext E34).keep Kc36) G0_36 ((G0_33.ext E34).keep Kc36 (ninS ne_b31_b34 nin0)) G1_36 ((G1_33.ext E34).keep Kc36 (ninS ne_b31_b34 nin0)) G2_36 ((G2_33.ext E34).keep Kc36 (ninS ne_b31_b34 nin0))) e37 (W := 0) (by decide) (by decide) (g := (mkF m 191 #[.val (.long p1), .second, .val (.long p2), .second, .val (.long p3), .second, .val (.long p4), .second, .val (.long p5), .second, .val (.int p6), .val (.long d), .second, .val (.long e_), .second, .val (.long f), .second, .val (.int (((p6.toUInt32 >>> ((3 : Int32) &&& 31).toUInt32).toInt32) &&& (3 : Int32))), .val (.ref b31), .val (.ref b34), .val (.ref b34), .val (.int ex), .val (.int (1 : Int32))] [(.ref b31), (.ref b34)])) rfl (by rw [hml]; rfl) (argsL := [(.ref b31)]) (rest := []) (b := b34) rfl (notFace_of_selects (args := #[]) (mvT hZ (hw _ (List.mem_of_getElem? (i := 18) rfl)))) (lenOf pd__Ljava_lang_Object__Z rfl) rfl (by show 2 * 0 + _ ≤ _; exact Nat.le_of_eq rfl) (hb hby at_191) (by decide) (by decide)
      obtain ⟨rfl, N38q, e38⟩ := hQ38
      have N38 := Fr.app N37 N38q
      refine own_go st38 ?_
      show own_End _ _ _ _ _ _ _ T38 (mkF m 194 #[.val (.long p1), .second, .val (.long p2), .second, .val (.long p3), .second, .val (.long p4), .second, .val (.long p5), .second, .val (.int p6), .val (.long d), .second, .val (.long e_), .second, .val (.long f), .second, .val (.int (((p6.toUInt32 >>> ((3 : Int32) &&& 31).toUInt32).toInt32) &&& (3 : Int32))), .val (.ref b31), .val (.ref b34), .val (.ref b34), .val (.int ex), .val (.int (1 : Int32))] [(.int (own_eq d e_ f p1 p2 p3))])
      refine own_go (fun t k => XS.iload X38.here hx rfl (hb hby at_194) rfl k) ?_
      show own_End _ _ _ _ _ _ _ T38 (mkF m 196 #[.val (.long p1), .second, .val (.long p2), .second, .val (.long p3), .second, .val (.long p4), .second, .val (.long p5), .second, .val (.int p6), .val (.long d), .second, .val (.long e_), .second, .val (.long f), .second, .val (.int (((p6.toUInt32 >>> ((3 : Int32) &&& 31).toUInt32).toInt32) &&& (3 : Int32))), .val (.ref b31), .val (.ref b34), .val (.ref b34), .val (.int ex), .val (.int (1 : Int32))] [(.int ex), (.int (own_eq d e_ f p1 p2 p3))])
      refine own_go (fun t k => XS.icmpNo X38.here hx rfl (hb hby at_196) rfl (teq ((own_eq_symm _ _ _ _ _ _).trans hex)).2 k) ?_
      show own_End _ _ _ _ _ _ _ T38 (mkF m 199 #[.val (.long p1), .second, .val (.long p2), .second, .val (.long p3), .second, .val (.long p4), .second, .val (.long p5), .second, .val (.int p6), .val (.long d), .second, .val (.long e_), .second, .val (.long f), .second, .val (.int (((p6.toUInt32 >>> ((3 : Int32) &&& 31).toUInt32).toInt32) &&& (3 : Int32))), .val (.ref b31), .val (.ref b34), .val (.ref b34), .val (.int ex), .val (.int (1 : Int32))] [])
      refine own_go (fun t k => XS.iconst X38.here hx rfl (hb hby at_199) k) ?_
      show own_End _ _ _ _ _ _ _ T38 (mkF m 200 #[.val (.long p1), .second, .val (.long p2), .second, .val (.long p3), .second, .val (.long p4), .second, .val (.long p5), .second, .val (.int p6), .val (.long d), .second, .val (.long e_), .second, .val (.long f), .second, .val (.int (((p6.toUInt32 >>> ((3 : Int32) &&& 31).toUInt32).toInt32) &&& (3 : Int32))), .val (.ref b31), .val (.ref b34), .val (.ref b34), .val (.int ex), .val (.int (1 : Int32))] [(.int (1 : Int32))])
      refine own_go (fun t k => XS.goto X38.here hx rfl (pc0 := 200) (pc' := 204) rfl (hb hby at_200) (by decide) (by decide) k) ?_
      show own_End _ _ _ _ _ _ _ T38 (mkF m 204 #[.val (.long p1), .second, .val (.long p2), .second, .val (.long p3), .second, .val (.long p4), .second, .val (.long p5), .second, .val (.int p6), .val (.long d), .second, .val (.long e_), .second, .val (.long f), .second, .val (.int (((p6.toUInt32 >>> ((3 : Int32) &&& 31).toUInt32).toInt32) &&& (3 : Int32))), .val (.ref b31), .val (.ref b34), .val (.ref b34), .val (.int ex), .val (.int (1 : Int32))] [(.int (1 : Int32))])
      refine own_go (fun t k => XS.istore X38.here hx rfl (hb hby at_204) rfl (l' := #[.val (.long p1), .second, .val (.long p2), .second, .val (.long p3), .second, .val (.long p4), .second, .val (.long p5), .second, .val (.int p6), .val (.long d), .second, .val (.long e_), .second, .val (.long f), .second, .val (.int (((p6.toUInt32 >>> ((3 : Int32) &&& 31).toUInt32).toInt32) &&& (3 : Int32))), .val (.ref b31), .val (.ref b34), .val (.ref b34), .val (.int ex), .val (.int (1 : Int32))]) rfl k) ?_
      show own_End _ _ _ _ _ _ _ T38 (mkF m 206 #[.val (.long p1), .second, .val (.long p2), .second, .val (.long p3), .second, .val (.long p4), .second, .val (.long p5), .second, .val (.int p6), .val (.long d), .second, .val (.long e_), .second, .val (.long f), .second, .val (.int (((p6.toUInt32 >>> ((3 : Int32) &&& 31).toUInt32).toInt32) &&& (3 : Int32))), .val (.ref b31), .val (.ref b34), .val (.ref b34), .val (.int ex), .val (.int (1 : Int32))] [])
      refine own_go (fun t k => XS.iload X38.here hx rfl (hb hby at_206) rfl k) ?_
      show own_End _ _ _ _ _ _ _ T38 (mkF m 208 #[.val (.long p1), .second, .val (.long p2), .second, .val (.long p3), .second, .val (.long p4), .second, .val (.long p5), .second, .val (.int p6), .val (.long d), .second, .val (.long e_), .second, .val (.long f), .second, .val (.int (((p6.toUInt32 >>> ((3 : Int32) &&& 31).toUInt32).toInt32) &&& (3 : Int32))), .val (.ref b31), .val (.ref b34), .val (.ref b34), .val (.int ex), .val (.int (1 : Int32))] [(.int (1 : Int32))])
      refine own_go (fun t k => XS.ifNo X38.here hx rfl (hb hby at_208) rfl ((if0 _ _).trans (feq (by decide : ¬ ((1 : Int32) = (0 : Int32)))).1) k) ?_
      show own_End _ _ _ _ _ _ _ T38 (mkF m 211 #[.val (.long p1), .second, .val (.long p2), .second, .val (.long p3), .second, .val (.long p4), .second, .val (.long p5), .second, .val (.int p6), .val (.long d), .second, .val (.long e_), .second, .val (.long f), .second, .val (.int (((p6.toUInt32 >>> ((3 : Int32) &&& 31).toUInt32).toInt32) &&& (3 : Int32))), .val (.ref b31), .val (.ref b34), .val (.ref b34), .val (.int ex), .val (.int (1 : Int32))] [])
      refine own_go (fun t k => XS.aload X38.here hx rfl (hb hby at_211) rfl rfl k) ?_
      show own_End _ _ _ _ _ _ _ T38 (mkF m 213 #[.val (.long p1), .second, .val (.long p2), .second, .val (.long p3), .second, .val (.long p4), .second, .val (.long p5), .second, .val (.int p6), .val (.long d), .second, .val (.long e_), .second, .val (.long f), .second, .val (.int (((p6.toUInt32 >>> ((3 : Int32) &&& 31).toUInt32).toInt32) &&& (3 : Int32))), .val (.ref b31), .val (.ref b34), .val (.ref b34), .val (.int ex), .val (.int (1 : Int32))] [(.ref b31)])
      refine own_go (fun t k => XS.aload X38.here hx rfl (hb hby at_213) rfl rfl k) ?_
      show own_End _ _ _ _ _ _ _ T38 (mkF m 215 #[.val (.long p1), .second, .val (.long p2), .second, .val (.long p3), .second, .val (.long p4), .second, .val (.long p5), .second, .val (.int p6), .val (.long d), .second, .val (.long e_), .second, .val (.long f), .second, .val (.int (((p6.toUInt32 >>> ((3 : Int32) &&& 31).toUInt32).toInt32) &&& (3 : Int32))), .val (.ref b31), .val (.ref b34), .val (.ref b34), .val (.int ex), .val (.int (1 : Int32))] [(.ref b31), (.ref b31)])
      obtain ⟨v39, T39, L39, X39, hQ39, st39⟩ := own_callV (y := (⟨"com/example/ingest_to_invoice/ingesttoinvoice/rating/Tax$Totals", "equals", "(Ljava/lang/Object;)Z"⟩ : MethodName)) (z := (⟨"com/example/ingest_to_invoice/ingesttoinvoice/rating/Tax$Totals", "equals", "(Ljava/lang/Object;)Z"⟩ : MethodName)) X38 hx hZ hown (hw _ (List.mem_of_getElem? (i := 15) rfl)) (hw _ (List.mem_of_getElem? (i := 16) rfl)) (hw _ (List.mem_of_getElem? (i := 18) rfl)) (hw _ (List.mem_of_getElem? (i := 17) rfl)) ((Ec33.ext E34).keep Kc36) (hw _ (List.mem_of_getElem? (i := 19) rfl)) (by decide) (hw _ (List.mem_of_getElem? (i := 2) rfl)) (rmET l Z a0 hw [] b31 b31 p1 p2 p3 p1 p2 p3 T36.heap n0 (Nat.le_trans (Nat.le_trans (Nat.le_trans (Nat.le_trans Z0 E31.1) Kc33.1) E34.1) Kc36.1) ((Ec33.ext E34).keep Kc36) ((G0_33.ext E34).keep Kc36 (ninS ne_b31_b34 nin0)) ((G0_33.ext E34).keep Kc36 (ninS ne_b31_b34 nin0)) ((G1_33.ext E34).keep Kc36 (ninS ne_b31_b34 nin0)) ((G1_33.ext E34).keep Kc36 (ninS ne_b31_b34 nin0)) ((G2_33.ext E34).keep Kc36 (ninS ne_b31_b34 nin0)) ((G2_33.ext E34).keep Kc36 (ninS ne_b31_b34 nin0))) e38 (W := 0) (by decide) (by decide) (g := (mkF m 215 #[.val (.long p1), .second, .val (.long p2), .second, .val (.long p3), .second, .val (.long p4), .second, .val (.long p5), .second, .val (.int p6), .val (.long d), .second, .val (.long e_), .second, .val (.long f), .second, .val (.int (((p6.toUInt32 >>> ((3 : Int32) &&& 31).toUInt32).toInt32) &&& (3 : Int32))), .val (.ref b31), .val (.ref b34), .val (.ref b34), .val (.int ex), .val (.int (1 : Int32))] [(.ref b31), (.ref b31)])) rfl (by rw [hml]; rfl) (argsL := [(.ref b31)]) (rest := []) (b := b31) rfl (notFace_of_selects (args := #[]) (mvT hZ (hw _ (List.mem_of_getElem? (i := 18) rfl)))) (lenOf pd__Ljava_lang_Object__Z rfl) rfl (by show 2 * 0 + _ ≤ _; exact Nat.le_of_eq rfl) (hb hby at_215) (by decide) (by decide)
      obtain ⟨rfl, N39q, e39⟩ := hQ39
      have N39 := Fr.app N38 N39q
      refine own_go st39 ?_
      show own_End _ _ _ _ _ _ _ T39 (mkF m 218 #[.val (.long p1), .second, .val (.long p2), .second, .val (.long p3), .second, .val (.long p4), .second, .val (.long p5), .second, .val (.int p6), .val (.long d), .second, .val (.long e_), .second, .val (.long f), .second, .val (.int (((p6.toUInt32 >>> ((3 : Int32) &&& 31).toUInt32).toInt32) &&& (3 : Int32))), .val (.ref b31), .val (.ref b34), .val (.ref b34), .val (.int ex), .val (.int (1 : Int32))] [(.int (own_eq p1 p2 p3 p1 p2 p3))])
      refine own_go (fun t k => XS.ifNo X39.here hx rfl (hb hby at_218) rfl ((if0 _ _).trans (feq (by rw [own_eq_self]; decide)).1) k) ?_
      show own_End _ _ _ _ _ _ _ T39 (mkF m 221 #[.val (.long p1), .second, .val (.long p2), .second, .val (.long p3), .second, .val (.long p4), .second, .val (.long p5), .second, .val (.int p6), .val (.long d), .second, .val (.long e_), .second, .val (.long f), .second, .val (.int (((p6.toUInt32 >>> ((3 : Int32) &&& 31).toUInt32).toInt32) &&& (3 : Int32))), .val (.ref b31), .val (.ref b34), .val (.ref b34), .val (.int ex), .val (.int (1 : Int32))] [])
      refine own_go (fun t k => XS.iconst X39.here hx rfl (hb hby at_221) k) ?_
      show own_End _ _ _ _ _ _ _ T39 (mkF m 222 #[.val (.long p1), .second, .val (.long p2), .second, .val (.long p3), .second, .val (.long p4), .second, .val (.long p5), .second, .val (.int p6), .val (.long d), .second, .val (.long e_), .second, .val (.long f), .second, .val (.int (((p6.toUInt32 >>> ((3 : Int32) &&& 31).toUInt32).toInt32) &&& (3 : Int32))), .val (.ref b31), .val (.ref b34), .val (.ref b34), .val (.int ex), .val (.int (1 : Int32))] [(.int (1 : Int32))])
      refine own_go (fun t k => XS.goto X39.here hx rfl (pc0 := 222) (pc' := 226) rfl (hb hby at_222) (by decide) (by decide) k) ?_
      show own_End _ _ _ _ _ _ _ T39 (mkF m 226 #[.val (.long p1), .second, .val (.long p2), .second, .val (.long p3), .second, .val (.long p4), .second, .val (.long p5), .second, .val (.int p6), .val (.long d), .second, .val (.long e_), .second, .val (.long f), .second, .val (.int (((p6.toUInt32 >>> ((3 : Int32) &&& 31).toUInt32).toInt32) &&& (3 : Int32))), .val (.ref b31), .val (.ref b34), .val (.ref b34), .val (.int ex), .val (.int (1 : Int32))] [(.int (1 : Int32))])
      exact own_retW X39 hx Bd.returns Bd.notSynchronized rfl (Or.inl ⟨rfl, by simp, _, rfl⟩) (hb hby at_226) ⟨rfl, N39⟩ (by decide) (by decide)
    show own_End _ _ _ _ _ _ _ T36 (mkF m 85 #[.val (.long p1), .second, .val (.long p2), .second, .val (.long p3), .second, .val (.long p4), .second, .val (.long p5), .second, .val (.int p6), .val (.long d), .second, .val (.long e_), .second, .val (.long f), .second, .val (.int (((p6.toUInt32 >>> ((3 : Int32) &&& 31).toUInt32).toInt32) &&& (3 : Int32))), .val (.ref b31), .val (.ref b34), .unset, .unset, .unset] [])
    refine own_go (fun t k => XS.iload X36.here hx rfl (hb hby at_85) rfl k) ?_
    show own_End _ _ _ _ _ _ _ T36 (mkF m 87 #[.val (.long p1), .second, .val (.long p2), .second, .val (.long p3), .second, .val (.long p4), .second, .val (.long p5), .second, .val (.int p6), .val (.long d), .second, .val (.long e_), .second, .val (.long f), .second, .val (.int (((p6.toUInt32 >>> ((3 : Int32) &&& 31).toUInt32).toInt32) &&& (3 : Int32))), .val (.ref b31), .val (.ref b34), .unset, .unset, .unset] [(.int (((p6.toUInt32 >>> ((3 : Int32) &&& 31).toUInt32).toInt32) &&& (3 : Int32)))])
    refine own_go (fun t k => XS.iconst X36.here hx rfl (hb hby at_87) k) ?_
    show own_End _ _ _ _ _ _ _ T36 (mkF m 88 #[.val (.long p1), .second, .val (.long p2), .second, .val (.long p3), .second, .val (.long p4), .second, .val (.long p5), .second, .val (.int p6), .val (.long d), .second, .val (.long e_), .second, .val (.long f), .second, .val (.int (((p6.toUInt32 >>> ((3 : Int32) &&& 31).toUInt32).toInt32) &&& (3 : Int32))), .val (.ref b31), .val (.ref b34), .unset, .unset, .unset] [(.int (1 : Int32)), (.int (((p6.toUInt32 >>> ((3 : Int32) &&& 31).toUInt32).toInt32) &&& (3 : Int32)))])
    by_cases hc88j49 : (((p6.toUInt32 >>> ((3 : Int32) &&& 31).toUInt32).toInt32) &&& (3 : Int32)) = (1 : Int32)
    · refine own_go (fun t k => XS.icmpNo X36.here hx rfl (hb hby at_88) rfl (teq hc88j49).2 k) ?_
      show own_End _ _ _ _ _ _ _ T36 (mkF m 91 #[.val (.long p1), .second, .val (.long p2), .second, .val (.long p3), .second, .val (.long p4), .second, .val (.long p5), .second, .val (.int p6), .val (.long d), .second, .val (.long e_), .second, .val (.long f), .second, .val (.int (((p6.toUInt32 >>> ((3 : Int32) &&& 31).toUInt32).toInt32) &&& (3 : Int32))), .val (.ref b31), .val (.ref b34), .unset, .unset, .unset] [])
      refine own_go (fun t k => XS.aconstNull X36.here hx rfl (hb hby at_91) k) ?_
      show own_End _ _ _ _ _ _ _ T36 (mkF m 92 #[.val (.long p1), .second, .val (.long p2), .second, .val (.long p3), .second, .val (.long p4), .second, .val (.long p5), .second, .val (.int p6), .val (.long d), .second, .val (.long e_), .second, .val (.long f), .second, .val (.int (((p6.toUInt32 >>> ((3 : Int32) &&& 31).toUInt32).toInt32) &&& (3 : Int32))), .val (.ref b31), .val (.ref b34), .unset, .unset, .unset] [.null])
      refine own_go (fun t k => XS.astore X36.here hx rfl (hb hby at_92) rfl rfl (l' := #[.val (.long p1), .second, .val (.long p2), .second, .val (.long p3), .second, .val (.long p4), .second, .val (.long p5), .second, .val (.int p6), .val (.long d), .second, .val (.long e_), .second, .val (.long f), .second, .val (.int (((p6.toUInt32 >>> ((3 : Int32) &&& 31).toUInt32).toInt32) &&& (3 : Int32))), .val (.ref b31), .val (.ref b34), .val .null, .unset, .unset]) rfl k) ?_
      show own_End _ _ _ _ _ _ _ T36 (mkF m 94 #[.val (.long p1), .second, .val (.long p2), .second, .val (.long p3), .second, .val (.long p4), .second, .val (.long p5), .second, .val (.int p6), .val (.long d), .second, .val (.long e_), .second, .val (.long f), .second, .val (.int (((p6.toUInt32 >>> ((3 : Int32) &&& 31).toUInt32).toInt32) &&& (3 : Int32))), .val (.ref b31), .val (.ref b34), .val .null, .unset, .unset] [])
      refine own_go (fun t k => XS.iconst X36.here hx rfl (hb hby at_94) k) ?_
      show own_End _ _ _ _ _ _ _ T36 (mkF m 95 #[.val (.long p1), .second, .val (.long p2), .second, .val (.long p3), .second, .val (.long p4), .second, .val (.long p5), .second, .val (.int p6), .val (.long d), .second, .val (.long e_), .second, .val (.long f), .second, .val (.int (((p6.toUInt32 >>> ((3 : Int32) &&& 31).toUInt32).toInt32) &&& (3 : Int32))), .val (.ref b31), .val (.ref b34), .val .null, .unset, .unset] [(.int (0 : Int32))])
      refine own_go (fun t k => XS.istore X36.here hx rfl (hb hby at_95) rfl (l' := #[.val (.long p1), .second, .val (.long p2), .second, .val (.long p3), .second, .val (.long p4), .second, .val (.long p5), .second, .val (.int p6), .val (.long d), .second, .val (.long e_), .second, .val (.long f), .second, .val (.int (((p6.toUInt32 >>> ((3 : Int32) &&& 31).toUInt32).toInt32) &&& (3 : Int32))), .val (.ref b31), .val (.ref b34), .val .null, .val (.int (0 : Int32)), .unset]) rfl k) ?_
      show own_End _ _ _ _ _ _ _ T36 (mkF m 97 #[.val (.long p1), .second, .val (.long p2), .second, .val (.long p3), .second, .val (.long p4), .second, .val (.long p5), .second, .val (.int p6), .val (.long d), .second, .val (.long e_), .second, .val (.long f), .second, .val (.int (((p6.toUInt32 >>> ((3 : Int32) &&& 31).toUInt32).toInt32) &&& (3 : Int32))), .val (.ref b31), .val (.ref b34), .val .null, .val (.int (0 : Int32)), .unset] [])
      refine own_go (fun t k => XS.goto X36.here hx rfl (pc0 := 97) (pc' := 151) rfl (hb hby at_97) (by decide) (by decide) k) ?_
      show own_End _ _ _ _ _ _ _ T36 (mkF m 151 #[.val (.long p1), .second, .val (.long p2), .second, .val (.long p3), .second, .val (.long p4), .second, .val (.long p5), .second, .val (.int p6), .val (.long d), .second, .val (.long e_), .second, .val (.long f), .second, .val (.int (((p6.toUInt32 >>> ((3 : Int32) &&& 31).toUInt32).toInt32) &&& (3 : Int32))), .val (.ref b31), .val (.ref b34), .val .null, .val (.int (0 : Int32)), .unset] [])
      refine own_go (fun t k => XS.aload X36.here hx rfl (hb hby at_151) rfl rfl k) ?_
      show own_End _ _ _ _ _ _ _ T36 (mkF m 153 #[.val (.long p1), .second, .val (.long p2), .second, .val (.long p3), .second, .val (.long p4), .second, .val (.long p5), .second, .val (.int p6), .val (.long d), .second, .val (.long e_), .second, .val (.long f), .second, .val (.int (((p6.toUInt32 >>> ((3 : Int32) &&& 31).toUInt32).toInt32) &&& (3 : Int32))), .val (.ref b31), .val (.ref b34), .val .null, .val (.int (0 : Int32)), .unset] [(.ref b31)])
      refine own_go (fun t k => XS.aload X36.here hx rfl (hb hby at_153) rfl rfl k) ?_
      show own_End _ _ _ _ _ _ _ T36 (mkF m 155 #[.val (.long p1), .second, .val (.long p2), .second, .val (.long p3), .second, .val (.long p4), .second, .val (.long p5), .second, .val (.int p6), .val (.long d), .second, .val (.long e_), .second, .val (.long f), .second, .val (.int (((p6.toUInt32 >>> ((3 : Int32) &&& 31).toUInt32).toInt32) &&& (3 : Int32))), .val (.ref b31), .val (.ref b34), .val .null, .val (.int (0 : Int32)), .unset] [.null, (.ref b31)])
      obtain ⟨v40, T40, L40, X40, hQ40, st40⟩ := own_callV (y := (⟨"com/example/ingest_to_invoice/ingesttoinvoice/rating/Tax$Totals", "equals", "(Ljava/lang/Object;)Z"⟩ : MethodName)) (z := (⟨"com/example/ingest_to_invoice/ingesttoinvoice/rating/Tax$Totals", "equals", "(Ljava/lang/Object;)Z"⟩ : MethodName)) X36 hx hZ hown (hw _ (List.mem_of_getElem? (i := 15) rfl)) (hw _ (List.mem_of_getElem? (i := 16) rfl)) (hw _ (List.mem_of_getElem? (i := 18) rfl)) (hw _ (List.mem_of_getElem? (i := 17) rfl)) ((Ec33.ext E34).keep Kc36) (hw _ (List.mem_of_getElem? (i := 19) rfl)) (by decide) (hw _ (List.mem_of_getElem? (i := 2) rfl)) (rmEN l Z a0 hw [] b31 T36.heap n0 (Nat.le_trans (Nat.le_trans (Nat.le_trans (Nat.le_trans Z0 E31.1) Kc33.1) E34.1) Kc36.1)) rfl (W := 0) (by decide) (by decide) (g := (mkF m 155 #[.val (.long p1), .second, .val (.long p2), .second, .val (.long p3), .second, .val (.long p4), .second, .val (.long p5), .second, .val (.int p6), .val (.long d), .second, .val (.long e_), .second, .val (.long f), .second, .val (.int (((p6.toUInt32 >>> ((3 : Int32) &&& 31).toUInt32).toInt32) &&& (3 : Int32))), .val (.ref b31), .val (.ref b34), .val .null, .val (.int (0 : Int32)), .unset] [.null, (.ref b31)])) rfl (by rw [hml]; rfl) (argsL := [.null]) (rest := []) (b := b31) rfl (notFace_of_selects (args := #[]) (mvT hZ (hw _ (List.mem_of_getElem? (i := 18) rfl)))) (lenOf pd__Ljava_lang_Object__Z rfl) rfl (by show 2 * 0 + _ ≤ _; exact Nat.le_of_eq rfl) (hb hby at_155) (by decide) (by decide)
      obtain ⟨rfl, N40q, e40⟩ := hQ40
      have N40 := Fr.app N36 N40q
      refine own_go st40 ?_
      show own_End _ _ _ _ _ _ _ T40 (mkF m 158 #[.val (.long p1), .second, .val (.long p2), .second, .val (.long p3), .second, .val (.long p4), .second, .val (.long p5), .second, .val (.int p6), .val (.long d), .second, .val (.long e_), .second, .val (.long f), .second, .val (.int (((p6.toUInt32 >>> ((3 : Int32) &&& 31).toUInt32).toInt32) &&& (3 : Int32))), .val (.ref b31), .val (.ref b34), .val .null, .val (.int (0 : Int32)), .unset] [(.int (0 : Int32))])
      refine own_go (fun t k => XS.iload X40.here hx rfl (hb hby at_158) rfl k) ?_
      show own_End _ _ _ _ _ _ _ T40 (mkF m 160 #[.val (.long p1), .second, .val (.long p2), .second, .val (.long p3), .second, .val (.long p4), .second, .val (.long p5), .second, .val (.int p6), .val (.long d), .second, .val (.long e_), .second, .val (.long f), .second, .val (.int (((p6.toUInt32 >>> ((3 : Int32) &&& 31).toUInt32).toInt32) &&& (3 : Int32))), .val (.ref b31), .val (.ref b34), .val .null, .val (.int (0 : Int32)), .unset] [(.int (0 : Int32)), (.int (0 : Int32))])
      refine own_go (fun t k => XS.icmpNo X40.here hx rfl (hb hby at_160) rfl (teq (by decide : (0 : Int32) = (0 : Int32))).2 k) ?_
      show own_End _ _ _ _ _ _ _ T40 (mkF m 163 #[.val (.long p1), .second, .val (.long p2), .second, .val (.long p3), .second, .val (.long p4), .second, .val (.long p5), .second, .val (.int p6), .val (.long d), .second, .val (.long e_), .second, .val (.long f), .second, .val (.int (((p6.toUInt32 >>> ((3 : Int32) &&& 31).toUInt32).toInt32) &&& (3 : Int32))), .val (.ref b31), .val (.ref b34), .val .null, .val (.int (0 : Int32)), .unset] [])
      refine own_go (fun t k => XS.iconst X40.here hx rfl (hb hby at_163) k) ?_
      show own_End _ _ _ _ _ _ _ T40 (mkF m 164 #[.val (.long p1), .second, .val (.long p2), .second, .val (.long p3), .second, .val (.long p4), .second, .val (.long p5), .second, .val (.int p6), .val (.long d), .second, .val (.long e_), .second, .val (.long f), .second, .val (.int (((p6.toUInt32 >>> ((3 : Int32) &&& 31).toUInt32).toInt32) &&& (3 : Int32))), .val (.ref b31), .val (.ref b34), .val .null, .val (.int (0 : Int32)), .unset] [(.int (1 : Int32))])
      refine own_go (fun t k => XS.goto X40.here hx rfl (pc0 := 164) (pc' := 168) rfl (hb hby at_164) (by decide) (by decide) k) ?_
      show own_End _ _ _ _ _ _ _ T40 (mkF m 168 #[.val (.long p1), .second, .val (.long p2), .second, .val (.long p3), .second, .val (.long p4), .second, .val (.long p5), .second, .val (.int p6), .val (.long d), .second, .val (.long e_), .second, .val (.long f), .second, .val (.int (((p6.toUInt32 >>> ((3 : Int32) &&& 31).toUInt32).toInt32) &&& (3 : Int32))), .val (.ref b31), .val (.ref b34), .val .null, .val (.int (0 : Int32)), .unset] [(.int (1 : Int32))])
      refine own_go (fun t k => XS.istore X40.here hx rfl (hb hby at_168) rfl (l' := #[.val (.long p1), .second, .val (.long p2), .second, .val (.long p3), .second, .val (.long p4), .second, .val (.long p5), .second, .val (.int p6), .val (.long d), .second, .val (.long e_), .second, .val (.long f), .second, .val (.int (((p6.toUInt32 >>> ((3 : Int32) &&& 31).toUInt32).toInt32) &&& (3 : Int32))), .val (.ref b31), .val (.ref b34), .val .null, .val (.int (0 : Int32)), .val (.int (1 : Int32))]) rfl k) ?_
      show own_End _ _ _ _ _ _ _ T40 (mkF m 170 #[.val (.long p1), .second, .val (.long p2), .second, .val (.long p3), .second, .val (.long p4), .second, .val (.long p5), .second, .val (.int p6), .val (.long d), .second, .val (.long e_), .second, .val (.long f), .second, .val (.int (((p6.toUInt32 >>> ((3 : Int32) &&& 31).toUInt32).toInt32) &&& (3 : Int32))), .val (.ref b31), .val (.ref b34), .val .null, .val (.int (0 : Int32)), .val (.int (1 : Int32))] [])
      refine own_go (fun t k => XS.iload X40.here hx rfl (hb hby at_170) rfl k) ?_
      show own_End _ _ _ _ _ _ _ T40 (mkF m 172 #[.val (.long p1), .second, .val (.long p2), .second, .val (.long p3), .second, .val (.long p4), .second, .val (.long p5), .second, .val (.int p6), .val (.long d), .second, .val (.long e_), .second, .val (.long f), .second, .val (.int (((p6.toUInt32 >>> ((3 : Int32) &&& 31).toUInt32).toInt32) &&& (3 : Int32))), .val (.ref b31), .val (.ref b34), .val .null, .val (.int (0 : Int32)), .val (.int (1 : Int32))] [(.int (((p6.toUInt32 >>> ((3 : Int32) &&& 31).toUInt32).toInt32) &&& (3 : Int32)))])
      refine own_go (fun t k => XS.iconst X40.here hx rfl (hb hby at_172) k) ?_
      show own_End _ _ _ _ _ _ _ T40 (mkF m 173 #[.val (.long p1), .second, .val (.long p2), .second, .val (.long p3), .second, .val (.long p4), .second, .val (.long p5), .second, .val (.int p6), .val (.long d), .second, .val (.long e_), .second, .val (.long f), .second, .val (.int (((p6.toUInt32 >>> ((3 : Int32) &&& 31).toUInt32).toInt32) &&& (3 : Int32))), .val (.ref b31), .val (.ref b34), .val .null, .val (.int (0 : Int32)), .val (.int (1 : Int32))] [(.int (1 : Int32)), (.int (((p6.toUInt32 >>> ((3 : Int32) &&& 31).toUInt32).toInt32) &&& (3 : Int32)))])
      refine own_go (fun t k => XS.icmpYes X40.here hx rfl (pc0 := 173) (pc' := 206) rfl (hb hby at_173) rfl (teq hc88j49).1 (by decide) (by decide) k) ?_
      show own_End _ _ _ _ _ _ _ T40 (mkF m 206 #[.val (.long p1), .second, .val (.long p2), .second, .val (.long p3), .second, .val (.long p4), .second, .val (.long p5), .second, .val (.int p6), .val (.long d), .second, .val (.long e_), .second, .val (.long f), .second, .val (.int (((p6.toUInt32 >>> ((3 : Int32) &&& 31).toUInt32).toInt32) &&& (3 : Int32))), .val (.ref b31), .val (.ref b34), .val .null, .val (.int (0 : Int32)), .val (.int (1 : Int32))] [])
      refine own_go (fun t k => XS.iload X40.here hx rfl (hb hby at_206) rfl k) ?_
      show own_End _ _ _ _ _ _ _ T40 (mkF m 208 #[.val (.long p1), .second, .val (.long p2), .second, .val (.long p3), .second, .val (.long p4), .second, .val (.long p5), .second, .val (.int p6), .val (.long d), .second, .val (.long e_), .second, .val (.long f), .second, .val (.int (((p6.toUInt32 >>> ((3 : Int32) &&& 31).toUInt32).toInt32) &&& (3 : Int32))), .val (.ref b31), .val (.ref b34), .val .null, .val (.int (0 : Int32)), .val (.int (1 : Int32))] [(.int (1 : Int32))])
      refine own_go (fun t k => XS.ifNo X40.here hx rfl (hb hby at_208) rfl ((if0 _ _).trans (feq (by decide : ¬ ((1 : Int32) = (0 : Int32)))).1) k) ?_
      show own_End _ _ _ _ _ _ _ T40 (mkF m 211 #[.val (.long p1), .second, .val (.long p2), .second, .val (.long p3), .second, .val (.long p4), .second, .val (.long p5), .second, .val (.int p6), .val (.long d), .second, .val (.long e_), .second, .val (.long f), .second, .val (.int (((p6.toUInt32 >>> ((3 : Int32) &&& 31).toUInt32).toInt32) &&& (3 : Int32))), .val (.ref b31), .val (.ref b34), .val .null, .val (.int (0 : Int32)), .val (.int (1 : Int32))] [])
      refine own_go (fun t k => XS.aload X40.here hx rfl (hb hby at_211) rfl rfl k) ?_
      show own_End _ _ _ _ _ _ _ T40 (mkF m 213 #[.val (.long p1), .second, .val (.long p2), .second, .val (.long p3), .second, .val (.long p4), .second, .val (.long p5), .second, .val (.int p6), .val (.long d), .second, .val (.long e_), .second, .val (.long f), .second, .val (.int (((p6.toUInt32 >>> ((3 : Int32) &&& 31).toUInt32).toInt32) &&& (3 : Int32))), .val (.ref b31), .val (.ref b34), .val .null, .val (.int (0 : Int32)), .val (.int (1 : Int32))] [(.ref b31)])
      refine own_go (fun t k => XS.aload X40.here hx rfl (hb hby at_213) rfl rfl k) ?_
      show own_End _ _ _ _ _ _ _ T40 (mkF m 215 #[.val (.long p1), .second, .val (.long p2), .second, .val (.long p3), .second, .val (.long p4), .second, .val (.long p5), .second, .val (.int p6), .val (.long d), .second, .val (.long e_), .second, .val (.long f), .second, .val (.int (((p6.toUInt32 >>> ((3 : Int32) &&& 31).toUInt32).toInt32) &&& (3 : Int32))), .val (.ref b31), .val (.ref b34), .val .null, .val (.int (0 : Int32)), .val (.int (1 : Int32))] [(.ref b31), (.ref b31)])
      obtain ⟨v41, T41, L41, X41, hQ41, st41⟩ := own_callV (y := (⟨"com/example/ingest_to_invoice/ingesttoinvoice/rating/Tax$Totals", "equals", "(Ljava/lang/Object;)Z"⟩ : MethodName)) (z := (⟨"com/example/ingest_to_invoice/ingesttoinvoice/rating/Tax$Totals", "equals", "(Ljava/lang/Object;)Z"⟩ : MethodName)) X40 hx hZ hown (hw _ (List.mem_of_getElem? (i := 15) rfl)) (hw _ (List.mem_of_getElem? (i := 16) rfl)) (hw _ (List.mem_of_getElem? (i := 18) rfl)) (hw _ (List.mem_of_getElem? (i := 17) rfl)) ((Ec33.ext E34).keep Kc36) (hw _ (List.mem_of_getElem? (i := 19) rfl)) (by decide) (hw _ (List.mem_of_getElem? (i := 2) rfl)) (rmET l Z a0 hw [] b31 b31 p1 p2 p3 p1 p2 p3 T36.heap n0 (Nat.le_trans (Nat.le_trans (Nat.le_trans (Nat.le_trans Z0 E31.1) Kc33.1) E34.1) Kc36.1) ((Ec33.ext E34).keep Kc36) ((G0_33.ext E34).keep Kc36 (ninS ne_b31_b34 nin0)) ((G0_33.ext E34).keep Kc36 (ninS ne_b31_b34 nin0)) ((G1_33.ext E34).keep Kc36 (ninS ne_b31_b34 nin0)) ((G1_33.ext E34).keep Kc36 (ninS ne_b31_b34 nin0)) ((G2_33.ext E34).keep Kc36 (ninS ne_b31_b34 nin0)) ((G2_33.ext E34).keep Kc36 (ninS ne_b31_b34 nin0))) e40 (W := 0) (by decide) (by decide) (g := (mkF m 215 #[.val (.long p1), .second, .val (.long p2), .second, .val (.long p3), .second, .val (.long p4), .second, .val (.long p5), .second, .val (.int p6), .val (.long d), .second, .val (.long e_), .second, .val (.long f), .second, .val (.int (((p6.toUInt32 >>> ((3 : Int32) &&& 31).toUInt32).toInt32) &&& (3 : Int32))), .val (.ref b31), .val (.ref b34), .val .null, .val (.int (0 : Int32)), .val (.int (1 : Int32))] [(.ref b31), (.ref b31)])) rfl (by rw [hml]; rfl) (argsL := [(.ref b31)]) (rest := []) (b := b31) rfl (notFace_of_selects (args := #[]) (mvT hZ (hw _ (List.mem_of_getElem? (i := 18) rfl)))) (lenOf pd__Ljava_lang_Object__Z rfl) rfl (by show 2 * 0 + _ ≤ _; exact Nat.le_of_eq rfl) (hb hby at_215) (by decide) (by decide)
      obtain ⟨rfl, N41q, e41⟩ := hQ41
      have N41 := Fr.app N40 N41q
      refine own_go st41 ?_
      show own_End _ _ _ _ _ _ _ T41 (mkF m 218 #[.val (.long p1), .second, .val (.long p2), .second, .val (.long p3), .second, .val (.long p4), .second, .val (.long p5), .second, .val (.int p6), .val (.long d), .second, .val (.long e_), .second, .val (.long f), .second, .val (.int (((p6.toUInt32 >>> ((3 : Int32) &&& 31).toUInt32).toInt32) &&& (3 : Int32))), .val (.ref b31), .val (.ref b34), .val .null, .val (.int (0 : Int32)), .val (.int (1 : Int32))] [(.int (own_eq p1 p2 p3 p1 p2 p3))])
      refine own_go (fun t k => XS.ifNo X41.here hx rfl (hb hby at_218) rfl ((if0 _ _).trans (feq (by rw [own_eq_self]; decide)).1) k) ?_
      show own_End _ _ _ _ _ _ _ T41 (mkF m 221 #[.val (.long p1), .second, .val (.long p2), .second, .val (.long p3), .second, .val (.long p4), .second, .val (.long p5), .second, .val (.int p6), .val (.long d), .second, .val (.long e_), .second, .val (.long f), .second, .val (.int (((p6.toUInt32 >>> ((3 : Int32) &&& 31).toUInt32).toInt32) &&& (3 : Int32))), .val (.ref b31), .val (.ref b34), .val .null, .val (.int (0 : Int32)), .val (.int (1 : Int32))] [])
      refine own_go (fun t k => XS.iconst X41.here hx rfl (hb hby at_221) k) ?_
      show own_End _ _ _ _ _ _ _ T41 (mkF m 222 #[.val (.long p1), .second, .val (.long p2), .second, .val (.long p3), .second, .val (.long p4), .second, .val (.long p5), .second, .val (.int p6), .val (.long d), .second, .val (.long e_), .second, .val (.long f), .second, .val (.int (((p6.toUInt32 >>> ((3 : Int32) &&& 31).toUInt32).toInt32) &&& (3 : Int32))), .val (.ref b31), .val (.ref b34), .val .null, .val (.int (0 : Int32)), .val (.int (1 : Int32))] [(.int (1 : Int32))])
      refine own_go (fun t k => XS.goto X41.here hx rfl (pc0 := 222) (pc' := 226) rfl (hb hby at_222) (by decide) (by decide) k) ?_
      show own_End _ _ _ _ _ _ _ T41 (mkF m 226 #[.val (.long p1), .second, .val (.long p2), .second, .val (.long p3), .second, .val (.long p4), .second, .val (.long p5), .second, .val (.int p6), .val (.long d), .second, .val (.long e_), .second, .val (.long f), .second, .val (.int (((p6.toUInt32 >>> ((3 : Int32) &&& 31).toUInt32).toInt32) &&& (3 : Int32))), .val (.ref b31), .val (.ref b34), .val .null, .val (.int (0 : Int32)), .val (.int (1 : Int32))] [(.int (1 : Int32))])
      exact own_retW X41 hx Bd.returns Bd.notSynchronized rfl (Or.inl ⟨rfl, by simp, _, rfl⟩) (hb hby at_226) ⟨rfl, N41⟩ (by decide) (by decide)
    · refine own_go (fun t k => XS.icmpYes X36.here hx rfl (pc0 := 88) (pc' := 100) rfl (hb hby at_88) rfl (feq hc88j49).2 (by decide) (by decide) k) ?_
      show own_End _ _ _ _ _ _ _ T36 (mkF m 100 #[.val (.long p1), .second, .val (.long p2), .second, .val (.long p3), .second, .val (.long p4), .second, .val (.long p5), .second, .val (.int p6), .val (.long d), .second, .val (.long e_), .second, .val (.long f), .second, .val (.int (((p6.toUInt32 >>> ((3 : Int32) &&& 31).toUInt32).toInt32) &&& (3 : Int32))), .val (.ref b31), .val (.ref b34), .unset, .unset, .unset] [])
      refine own_go (fun t k => XS.iload X36.here hx rfl (hb hby at_100) rfl k) ?_
      show own_End _ _ _ _ _ _ _ T36 (mkF m 102 #[.val (.long p1), .second, .val (.long p2), .second, .val (.long p3), .second, .val (.long p4), .second, .val (.long p5), .second, .val (.int p6), .val (.long d), .second, .val (.long e_), .second, .val (.long f), .second, .val (.int (((p6.toUInt32 >>> ((3 : Int32) &&& 31).toUInt32).toInt32) &&& (3 : Int32))), .val (.ref b31), .val (.ref b34), .unset, .unset, .unset] [(.int (((p6.toUInt32 >>> ((3 : Int32) &&& 31).toUInt32).toInt32) &&& (3 : Int32)))])
      refine own_go (fun t k => XS.iconst X36.here hx rfl (hb hby at_102) k) ?_
      show own_End _ _ _ _ _ _ _ T36 (mkF m 103 #[.val (.long p1), .second, .val (.long p2), .second, .val (.long p3), .second, .val (.long p4), .second, .val (.long p5), .second, .val (.int p6), .val (.long d), .second, .val (.long e_), .second, .val (.long f), .second, .val (.int (((p6.toUInt32 >>> ((3 : Int32) &&& 31).toUInt32).toInt32) &&& (3 : Int32))), .val (.ref b31), .val (.ref b34), .unset, .unset, .unset] [(.int (2 : Int32)), (.int (((p6.toUInt32 >>> ((3 : Int32) &&& 31).toUInt32).toInt32) &&& (3 : Int32)))])
      by_cases hc103j49 : (((p6.toUInt32 >>> ((3 : Int32) &&& 31).toUInt32).toInt32) &&& (3 : Int32)) = (2 : Int32)
      · refine own_go (fun t k => XS.icmpNo X36.here hx rfl (hb hby at_103) rfl (teq hc103j49).2 k) ?_
        show own_End _ _ _ _ _ _ _ T36 (mkF m 106 #[.val (.long p1), .second, .val (.long p2), .second, .val (.long p3), .second, .val (.long p4), .second, .val (.long p5), .second, .val (.int p6), .val (.long d), .second, .val (.long e_), .second, .val (.long f), .second, .val (.int (((p6.toUInt32 >>> ((3 : Int32) &&& 31).toUInt32).toInt32) &&& (3 : Int32))), .val (.ref b31), .val (.ref b34), .unset, .unset, .unset] [])
        refine own_go (fun t k => XS.lloadN X36.here hx rfl (hb hby at_106) rfl k) ?_
        show own_End _ _ _ _ _ _ _ T36 (mkF m 107 #[.val (.long p1), .second, .val (.long p2), .second, .val (.long p3), .second, .val (.long p4), .second, .val (.long p5), .second, .val (.int p6), .val (.long d), .second, .val (.long e_), .second, .val (.long f), .second, .val (.int (((p6.toUInt32 >>> ((3 : Int32) &&& 31).toUInt32).toInt32) &&& (3 : Int32))), .val (.ref b31), .val (.ref b34), .unset, .unset, .unset] [(.long p1)])
        obtain ⟨v42, T42, L42, X42, hQ42, st42⟩ := own_callS (y := (⟨"java/lang/Long", "valueOf", "(J)Ljava/lang/Long;"⟩ : MethodName)) X36 hx hZ hown (hw _ (List.mem_of_getElem? (i := 22) rfl)) (hw _ (List.mem_of_getElem? (i := 23) rfl)) (hw _ (List.mem_of_getElem? (i := 25) rfl)) (by decide) (hw _ (List.mem_of_getElem? (i := 24) rfl)) (rmV l Z a0 hw [] p1 wc cl T36.heap n0 (Nat.le_trans (Nat.le_trans (Nat.le_trans (Nat.le_trans Z0 E31.1) Kc33.1) E34.1) Kc36.1) (own_StaK SC K36) (own_ArrK Ar K36) Sz (fun j hj => by obtain ⟨bx, q1, q2⟩ := hB j hj; exact ⟨bx, q1, q2.keep K36⟩)) rfl (W := 0) (by decide) (by decide) (g := (mkF m 107 #[.val (.long p1), .second, .val (.long p2), .second, .val (.long p3), .second, .val (.long p4), .second, .val (.long p5), .second, .val (.int p6), .val (.long d), .second, .val (.long e_), .second, .val (.long f), .second, .val (.int (((p6.toUInt32 >>> ((3 : Int32) &&& 31).toUInt32).toInt32) &&& (3 : Int32))), .val (.ref b31), .val (.ref b34), .unset, .unset, .unset] [(.long p1)])) rfl (by rw [hml]; rfl) (argsL := [(.long p1)]) (rest := []) rfl (lenOf pd__J_Ljava_lang_Long_ rfl) rfl (by show 2 * 0 + _ ≤ _; exact Nat.le_of_eq rfl) (hb hby at_107) (by decide) (by decide)
        obtain ⟨bx42, rfl, N42q, Kc42, Eb42⟩ := hQ42
        have N42 := Fr.app N36 N42q
        refine own_go st42 ?_
        have K42 : Keep h0 T42.heap [] := K36.trans Kc42 (fun x hx => nomatch hx)
        show own_End _ _ _ _ _ _ _ T42 (mkF m 110 #[.val (.long p1), .second, .val (.long p2), .second, .val (.long p3), .second, .val (.long p4), .second, .val (.long p5), .second, .val (.int p6), .val (.long d), .second, .val (.long e_), .second, .val (.long f), .second, .val (.int (((p6.toUInt32 >>> ((3 : Int32) &&& 31).toUInt32).toInt32) &&& (3 : Int32))), .val (.ref b31), .val (.ref b34), .unset, .unset, .unset] [(.ref bx42)])
        refine own_go (fun t k => XS.astore X42.here hx rfl (hb hby at_110) rfl rfl (l' := #[.val (.long p1), .second, .val (.long p2), .second, .val (.long p3), .second, .val (.long p4), .second, .val (.long p5), .second, .val (.int p6), .val (.long d), .second, .val (.long e_), .second, .val (.long f), .second, .val (.int (((p6.toUInt32 >>> ((3 : Int32) &&& 31).toUInt32).toInt32) &&& (3 : Int32))), .val (.ref b31), .val (.ref b34), .val (.ref bx42), .unset, .unset]) rfl k) ?_
        show own_End _ _ _ _ _ _ _ T42 (mkF m 112 #[.val (.long p1), .second, .val (.long p2), .second, .val (.long p3), .second, .val (.long p4), .second, .val (.long p5), .second, .val (.int p6), .val (.long d), .second, .val (.long e_), .second, .val (.long f), .second, .val (.int (((p6.toUInt32 >>> ((3 : Int32) &&& 31).toUInt32).toInt32) &&& (3 : Int32))), .val (.ref b31), .val (.ref b34), .val (.ref bx42), .unset, .unset] [])
        refine own_go (fun t k => XS.iconst X42.here hx rfl (hb hby at_112) k) ?_
        show own_End _ _ _ _ _ _ _ T42 (mkF m 113 #[.val (.long p1), .second, .val (.long p2), .second, .val (.long p3), .second, .val (.long p4), .second, .val (.long p5), .second, .val (.int p6), .val (.long d), .second, .val (.long e_), .second, .val (.long f), .second, .val (.int (((p6.toUInt32 >>> ((3 : Int32) &&& 31).toUInt32).toInt32) &&& (3 : Int32))), .val (.ref b31), .val (.ref b34), .val (.ref bx42), .unset, .unset] [(.int (0 : Int32))])
        refine own_go (fun t k => XS.istore X42.here hx rfl (hb hby at_113) rfl (l' := #[.val (.long p1), .second, .val (.long p2), .second, .val (.long p3), .second, .val (.long p4), .second, .val (.long p5), .second, .val (.int p6), .val (.long d), .second, .val (.long e_), .second, .val (.long f), .second, .val (.int (((p6.toUInt32 >>> ((3 : Int32) &&& 31).toUInt32).toInt32) &&& (3 : Int32))), .val (.ref b31), .val (.ref b34), .val (.ref bx42), .val (.int (0 : Int32)), .unset]) rfl k) ?_
        show own_End _ _ _ _ _ _ _ T42 (mkF m 115 #[.val (.long p1), .second, .val (.long p2), .second, .val (.long p3), .second, .val (.long p4), .second, .val (.long p5), .second, .val (.int p6), .val (.long d), .second, .val (.long e_), .second, .val (.long f), .second, .val (.int (((p6.toUInt32 >>> ((3 : Int32) &&& 31).toUInt32).toInt32) &&& (3 : Int32))), .val (.ref b31), .val (.ref b34), .val (.ref bx42), .val (.int (0 : Int32)), .unset] [])
        refine own_go (fun t k => XS.goto X42.here hx rfl (pc0 := 115) (pc' := 151) rfl (hb hby at_115) (by decide) (by decide) k) ?_
        show own_End _ _ _ _ _ _ _ T42 (mkF m 151 #[.val (.long p1), .second, .val (.long p2), .second, .val (.long p3), .second, .val (.long p4), .second, .val (.long p5), .second, .val (.int p6), .val (.long d), .second, .val (.long e_), .second, .val (.long f), .second, .val (.int (((p6.toUInt32 >>> ((3 : Int32) &&& 31).toUInt32).toInt32) &&& (3 : Int32))), .val (.ref b31), .val (.ref b34), .val (.ref bx42), .val (.int (0 : Int32)), .unset] [])
        refine own_go (fun t k => XS.aload X42.here hx rfl (hb hby at_151) rfl rfl k) ?_
        show own_End _ _ _ _ _ _ _ T42 (mkF m 153 #[.val (.long p1), .second, .val (.long p2), .second, .val (.long p3), .second, .val (.long p4), .second, .val (.long p5), .second, .val (.int p6), .val (.long d), .second, .val (.long e_), .second, .val (.long f), .second, .val (.int (((p6.toUInt32 >>> ((3 : Int32) &&& 31).toUInt32).toInt32) &&& (3 : Int32))), .val (.ref b31), .val (.ref b34), .val (.ref bx42), .val (.int (0 : Int32)), .unset] [(.ref b31)])
        refine own_go (fun t k => XS.aload X42.here hx rfl (hb hby at_153) rfl rfl k) ?_
        show own_End _ _ _ _ _ _ _ T42 (mkF m 155 #[.val (.long p1), .second, .val (.long p2), .second, .val (.long p3), .second, .val (.long p4), .second, .val (.long p5), .second, .val (.int p6), .val (.long d), .second, .val (.long e_), .second, .val (.long f), .second, .val (.int (((p6.toUInt32 >>> ((3 : Int32) &&& 31).toUInt32).toInt32) &&& (3 : Int32))), .val (.ref b31), .val (.ref b34), .val (.ref bx42), .val (.int (0 : Int32)), .unset] [(.ref bx42), (.ref b31)])
        obtain ⟨v43, T43, L43, X43, hQ43, st43⟩ := own_callV (y := (⟨"com/example/ingest_to_invoice/ingesttoinvoice/rating/Tax$Totals", "equals", "(Ljava/lang/Object;)Z"⟩ : MethodName)) (z := (⟨"com/example/ingest_to_invoice/ingesttoinvoice/rating/Tax$Totals", "equals", "(Ljava/lang/Object;)Z"⟩ : MethodName)) X42 hx hZ hown (hw _ (List.mem_of_getElem? (i := 15) rfl)) (hw _ (List.mem_of_getElem? (i := 16) rfl)) (hw _ (List.mem_of_getElem? (i := 18) rfl)) (hw _ (List.mem_of_getElem? (i := 17) rfl)) (((Ec33.ext E34).keep Kc36).keep Kc42) (hw _ (List.mem_of_getElem? (i := 19) rfl)) (by decide) (hw _ (List.mem_of_getElem? (i := 2) rfl)) (rmEL l Z a0 hw [] b31 bx42 T42.heap n0 (Nat.le_trans (Nat.le_trans (Nat.le_trans (Nat.le_trans (Nat.le_trans Z0 E31.1) Kc33.1) E34.1) Kc36.1) Kc42.1) Eb42 hno) rfl (W := 0) (by decide) (by decide) (g := (mkF m 155 #[.val (.long p1), .second, .val (.long p2), .second, .val (.long p3), .second, .val (.long p4), .second, .val (.long p5), .second, .val (.int p6), .val (.long d), .second, .val (.long e_), .second, .val (.long f), .second, .val (.int (((p6.toUInt32 >>> ((3 : Int32) &&& 31).toUInt32).toInt32) &&& (3 : Int32))), .val (.ref b31), .val (.ref b34), .val (.ref bx42), .val (.int (0 : Int32)), .unset] [(.ref bx42), (.ref b31)])) rfl (by rw [hml]; rfl) (argsL := [(.ref bx42)]) (rest := []) (b := b31) rfl (notFace_of_selects (args := #[]) (mvT hZ (hw _ (List.mem_of_getElem? (i := 18) rfl)))) (lenOf pd__Ljava_lang_Object__Z rfl) rfl (by show 2 * 0 + _ ≤ _; exact Nat.le_of_eq rfl) (hb hby at_155) (by decide) (by decide)
        obtain ⟨rfl, N43q, e43⟩ := hQ43
        have N43 := Fr.app N42 N43q
        refine own_go st43 ?_
        show own_End _ _ _ _ _ _ _ T43 (mkF m 158 #[.val (.long p1), .second, .val (.long p2), .second, .val (.long p3), .second, .val (.long p4), .second, .val (.long p5), .second, .val (.int p6), .val (.long d), .second, .val (.long e_), .second, .val (.long f), .second, .val (.int (((p6.toUInt32 >>> ((3 : Int32) &&& 31).toUInt32).toInt32) &&& (3 : Int32))), .val (.ref b31), .val (.ref b34), .val (.ref bx42), .val (.int (0 : Int32)), .unset] [(.int (0 : Int32))])
        refine own_go (fun t k => XS.iload X43.here hx rfl (hb hby at_158) rfl k) ?_
        show own_End _ _ _ _ _ _ _ T43 (mkF m 160 #[.val (.long p1), .second, .val (.long p2), .second, .val (.long p3), .second, .val (.long p4), .second, .val (.long p5), .second, .val (.int p6), .val (.long d), .second, .val (.long e_), .second, .val (.long f), .second, .val (.int (((p6.toUInt32 >>> ((3 : Int32) &&& 31).toUInt32).toInt32) &&& (3 : Int32))), .val (.ref b31), .val (.ref b34), .val (.ref bx42), .val (.int (0 : Int32)), .unset] [(.int (0 : Int32)), (.int (0 : Int32))])
        refine own_go (fun t k => XS.icmpNo X43.here hx rfl (hb hby at_160) rfl (teq (by decide : (0 : Int32) = (0 : Int32))).2 k) ?_
        show own_End _ _ _ _ _ _ _ T43 (mkF m 163 #[.val (.long p1), .second, .val (.long p2), .second, .val (.long p3), .second, .val (.long p4), .second, .val (.long p5), .second, .val (.int p6), .val (.long d), .second, .val (.long e_), .second, .val (.long f), .second, .val (.int (((p6.toUInt32 >>> ((3 : Int32) &&& 31).toUInt32).toInt32) &&& (3 : Int32))), .val (.ref b31), .val (.ref b34), .val (.ref bx42), .val (.int (0 : Int32)), .unset] [])
        refine own_go (fun t k => XS.iconst X43.here hx rfl (hb hby at_163) k) ?_
        show own_End _ _ _ _ _ _ _ T43 (mkF m 164 #[.val (.long p1), .second, .val (.long p2), .second, .val (.long p3), .second, .val (.long p4), .second, .val (.long p5), .second, .val (.int p6), .val (.long d), .second, .val (.long e_), .second, .val (.long f), .second, .val (.int (((p6.toUInt32 >>> ((3 : Int32) &&& 31).toUInt32).toInt32) &&& (3 : Int32))), .val (.ref b31), .val (.ref b34), .val (.ref bx42), .val (.int (0 : Int32)), .unset] [(.int (1 : Int32))])
        refine own_go (fun t k => XS.goto X43.here hx rfl (pc0 := 164) (pc' := 168) rfl (hb hby at_164) (by decide) (by decide) k) ?_
        show own_End _ _ _ _ _ _ _ T43 (mkF m 168 #[.val (.long p1), .second, .val (.long p2), .second, .val (.long p3), .second, .val (.long p4), .second, .val (.long p5), .second, .val (.int p6), .val (.long d), .second, .val (.long e_), .second, .val (.long f), .second, .val (.int (((p6.toUInt32 >>> ((3 : Int32) &&& 31).toUInt32).toInt32) &&& (3 : Int32))), .val (.ref b31), .val (.ref b34), .val (.ref bx42), .val (.int (0 : Int32)), .unset] [(.int (1 : Int32))])
        refine own_go (fun t k => XS.istore X43.here hx rfl (hb hby at_168) rfl (l' := #[.val (.long p1), .second, .val (.long p2), .second, .val (.long p3), .second, .val (.long p4), .second, .val (.long p5), .second, .val (.int p6), .val (.long d), .second, .val (.long e_), .second, .val (.long f), .second, .val (.int (((p6.toUInt32 >>> ((3 : Int32) &&& 31).toUInt32).toInt32) &&& (3 : Int32))), .val (.ref b31), .val (.ref b34), .val (.ref bx42), .val (.int (0 : Int32)), .val (.int (1 : Int32))]) rfl k) ?_
        show own_End _ _ _ _ _ _ _ T43 (mkF m 170 #[.val (.long p1), .second, .val (.long p2), .second, .val (.long p3), .second, .val (.long p4), .second, .val (.long p5), .second, .val (.int p6), .val (.long d), .second, .val (.long e_), .second, .val (.long f), .second, .val (.int (((p6.toUInt32 >>> ((3 : Int32) &&& 31).toUInt32).toInt32) &&& (3 : Int32))), .val (.ref b31), .val (.ref b34), .val (.ref bx42), .val (.int (0 : Int32)), .val (.int (1 : Int32))] [])
        refine own_go (fun t k => XS.iload X43.here hx rfl (hb hby at_170) rfl k) ?_
        show own_End _ _ _ _ _ _ _ T43 (mkF m 172 #[.val (.long p1), .second, .val (.long p2), .second, .val (.long p3), .second, .val (.long p4), .second, .val (.long p5), .second, .val (.int p6), .val (.long d), .second, .val (.long e_), .second, .val (.long f), .second, .val (.int (((p6.toUInt32 >>> ((3 : Int32) &&& 31).toUInt32).toInt32) &&& (3 : Int32))), .val (.ref b31), .val (.ref b34), .val (.ref bx42), .val (.int (0 : Int32)), .val (.int (1 : Int32))] [(.int (((p6.toUInt32 >>> ((3 : Int32) &&& 31).toUInt32).toInt32) &&& (3 : Int32)))])
        refine own_go (fun t k => XS.iconst X43.here hx rfl (hb hby at_172) k) ?_
        show own_End _ _ _ _ _ _ _ T43 (mkF m 173 #[.val (.long p1), .second, .val (.long p2), .second, .val (.long p3), .second, .val (.long p4), .second, .val (.long p5), .second, .val (.int p6), .val (.long d), .second, .val (.long e_), .second, .val (.long f), .second, .val (.int (((p6.toUInt32 >>> ((3 : Int32) &&& 31).toUInt32).toInt32) &&& (3 : Int32))), .val (.ref b31), .val (.ref b34), .val (.ref bx42), .val (.int (0 : Int32)), .val (.int (1 : Int32))] [(.int (1 : Int32)), (.int (((p6.toUInt32 >>> ((3 : Int32) &&& 31).toUInt32).toInt32) &&& (3 : Int32)))])
        refine own_go (fun t k => XS.icmpNo X43.here hx rfl (hb hby at_173) rfl (feq hc88j49).1 k) ?_
        show own_End _ _ _ _ _ _ _ T43 (mkF m 176 #[.val (.long p1), .second, .val (.long p2), .second, .val (.long p3), .second, .val (.long p4), .second, .val (.long p5), .second, .val (.int p6), .val (.long d), .second, .val (.long e_), .second, .val (.long f), .second, .val (.int (((p6.toUInt32 >>> ((3 : Int32) &&& 31).toUInt32).toInt32) &&& (3 : Int32))), .val (.ref b31), .val (.ref b34), .val (.ref bx42), .val (.int (0 : Int32)), .val (.int (1 : Int32))] [])
        refine own_go (fun t k => XS.iload X43.here hx rfl (hb hby at_176) rfl k) ?_
        show own_End _ _ _ _ _ _ _ T43 (mkF m 178 #[.val (.long p1), .second, .val (.long p2), .second, .val (.long p3), .second, .val (.long p4), .second, .val (.long p5), .second, .val (.int p6), .val (.long d), .second, .val (.long e_), .second, .val (.long f), .second, .val (.int (((p6.toUInt32 >>> ((3 : Int32) &&& 31).toUInt32).toInt32) &&& (3 : Int32))), .val (.ref b31), .val (.ref b34), .val (.ref bx42), .val (.int (0 : Int32)), .val (.int (1 : Int32))] [(.int (((p6.toUInt32 >>> ((3 : Int32) &&& 31).toUInt32).toInt32) &&& (3 : Int32)))])
        refine own_go (fun t k => XS.iconst X43.here hx rfl (hb hby at_178) k) ?_
        show own_End _ _ _ _ _ _ _ T43 (mkF m 179 #[.val (.long p1), .second, .val (.long p2), .second, .val (.long p3), .second, .val (.long p4), .second, .val (.long p5), .second, .val (.int p6), .val (.long d), .second, .val (.long e_), .second, .val (.long f), .second, .val (.int (((p6.toUInt32 >>> ((3 : Int32) &&& 31).toUInt32).toInt32) &&& (3 : Int32))), .val (.ref b31), .val (.ref b34), .val (.ref bx42), .val (.int (0 : Int32)), .val (.int (1 : Int32))] [(.int (2 : Int32)), (.int (((p6.toUInt32 >>> ((3 : Int32) &&& 31).toUInt32).toInt32) &&& (3 : Int32)))])
        refine own_go (fun t k => XS.icmpYes X43.here hx rfl (pc0 := 179) (pc' := 206) rfl (hb hby at_179) rfl (teq hc103j49).1 (by decide) (by decide) k) ?_
        show own_End _ _ _ _ _ _ _ T43 (mkF m 206 #[.val (.long p1), .second, .val (.long p2), .second, .val (.long p3), .second, .val (.long p4), .second, .val (.long p5), .second, .val (.int p6), .val (.long d), .second, .val (.long e_), .second, .val (.long f), .second, .val (.int (((p6.toUInt32 >>> ((3 : Int32) &&& 31).toUInt32).toInt32) &&& (3 : Int32))), .val (.ref b31), .val (.ref b34), .val (.ref bx42), .val (.int (0 : Int32)), .val (.int (1 : Int32))] [])
        refine own_go (fun t k => XS.iload X43.here hx rfl (hb hby at_206) rfl k) ?_
        show own_End _ _ _ _ _ _ _ T43 (mkF m 208 #[.val (.long p1), .second, .val (.long p2), .second, .val (.long p3), .second, .val (.long p4), .second, .val (.long p5), .second, .val (.int p6), .val (.long d), .second, .val (.long e_), .second, .val (.long f), .second, .val (.int (((p6.toUInt32 >>> ((3 : Int32) &&& 31).toUInt32).toInt32) &&& (3 : Int32))), .val (.ref b31), .val (.ref b34), .val (.ref bx42), .val (.int (0 : Int32)), .val (.int (1 : Int32))] [(.int (1 : Int32))])
        refine own_go (fun t k => XS.ifNo X43.here hx rfl (hb hby at_208) rfl ((if0 _ _).trans (feq (by decide : ¬ ((1 : Int32) = (0 : Int32)))).1) k) ?_
        show own_End _ _ _ _ _ _ _ T43 (mkF m 211 #[.val (.long p1), .second, .val (.long p2), .second, .val (.long p3), .second, .val (.long p4), .second, .val (.long p5), .second, .val (.int p6), .val (.long d), .second, .val (.long e_), .second, .val (.long f), .second, .val (.int (((p6.toUInt32 >>> ((3 : Int32) &&& 31).toUInt32).toInt32) &&& (3 : Int32))), .val (.ref b31), .val (.ref b34), .val (.ref bx42), .val (.int (0 : Int32)), .val (.int (1 : Int32))] [])
        refine own_go (fun t k => XS.aload X43.here hx rfl (hb hby at_211) rfl rfl k) ?_
        show own_End _ _ _ _ _ _ _ T43 (mkF m 213 #[.val (.long p1), .second, .val (.long p2), .second, .val (.long p3), .second, .val (.long p4), .second, .val (.long p5), .second, .val (.int p6), .val (.long d), .second, .val (.long e_), .second, .val (.long f), .second, .val (.int (((p6.toUInt32 >>> ((3 : Int32) &&& 31).toUInt32).toInt32) &&& (3 : Int32))), .val (.ref b31), .val (.ref b34), .val (.ref bx42), .val (.int (0 : Int32)), .val (.int (1 : Int32))] [(.ref b31)])
        refine own_go (fun t k => XS.aload X43.here hx rfl (hb hby at_213) rfl rfl k) ?_
        show own_End _ _ _ _ _ _ _ T43 (mkF m 215 #[.val (.long p1), .second, .val (.long p2), .second, .val (.long p3), .second, .val (.long p4), .second, .val (.long p5), .second, .val (.int p6), .val (.long d), .second, .val (.long e_), .second, .val (.long f), .second, .val (.int (((p6.toUInt32 >>> ((3 : Int32) &&& 31).toUInt32).toInt32) &&& (3 : Int32))), .val (.ref b31), .val (.ref b34), .val (.ref bx42), .val (.int (0 : Int32)), .val (.int (1 : Int32))] [(.ref b31), (.ref b31)])
        obtain ⟨v44, T44, L44, X44, hQ44, st44⟩ := own_callV (y := (⟨"com/example/ingest_to_invoice/ingesttoinvoice/rating/Tax$Totals", "equals", "(Ljava/lang/Object;)Z"⟩ : MethodName)) (z := (⟨"com/example/ingest_to_invoice/ingesttoinvoice/rating/Tax$Totals", "equals", "(Ljava/lang/Object;)Z"⟩ : MethodName)) X43 hx hZ hown (hw _ (List.mem_of_getElem? (i := 15) rfl)) (hw _ (List.mem_of_getElem? (i := 16) rfl)) (hw _ (List.mem_of_getElem? (i := 18) rfl)) (hw _ (List.mem_of_getElem? (i := 17) rfl)) (((Ec33.ext E34).keep Kc36).keep Kc42) (hw _ (List.mem_of_getElem? (i := 19) rfl)) (by decide) (hw _ (List.mem_of_getElem? (i := 2) rfl)) (rmET l Z a0 hw [] b31 b31 p1 p2 p3 p1 p2 p3 T42.heap n0 (Nat.le_trans (Nat.le_trans (Nat.le_trans (Nat.le_trans (Nat.le_trans Z0 E31.1) Kc33.1) E34.1) Kc36.1) Kc42.1) (((Ec33.ext E34).keep Kc36).keep Kc42) (((G0_33.ext E34).keep Kc36 (ninS ne_b31_b34 nin0)).keep Kc42 nin0) (((G0_33.ext E34).keep Kc36 (ninS ne_b31_b34 nin0)).keep Kc42 nin0) (((G1_33.ext E34).keep Kc36 (ninS ne_b31_b34 nin0)).keep Kc42 nin0) (((G1_33.ext E34).keep Kc36 (ninS ne_b31_b34 nin0)).keep Kc42 nin0) (((G2_33.ext E34).keep Kc36 (ninS ne_b31_b34 nin0)).keep Kc42 nin0) (((G2_33.ext E34).keep Kc36 (ninS ne_b31_b34 nin0)).keep Kc42 nin0)) e43 (W := 0) (by decide) (by decide) (g := (mkF m 215 #[.val (.long p1), .second, .val (.long p2), .second, .val (.long p3), .second, .val (.long p4), .second, .val (.long p5), .second, .val (.int p6), .val (.long d), .second, .val (.long e_), .second, .val (.long f), .second, .val (.int (((p6.toUInt32 >>> ((3 : Int32) &&& 31).toUInt32).toInt32) &&& (3 : Int32))), .val (.ref b31), .val (.ref b34), .val (.ref bx42), .val (.int (0 : Int32)), .val (.int (1 : Int32))] [(.ref b31), (.ref b31)])) rfl (by rw [hml]; rfl) (argsL := [(.ref b31)]) (rest := []) (b := b31) rfl (notFace_of_selects (args := #[]) (mvT hZ (hw _ (List.mem_of_getElem? (i := 18) rfl)))) (lenOf pd__Ljava_lang_Object__Z rfl) rfl (by show 2 * 0 + _ ≤ _; exact Nat.le_of_eq rfl) (hb hby at_215) (by decide) (by decide)
        obtain ⟨rfl, N44q, e44⟩ := hQ44
        have N44 := Fr.app N43 N44q
        refine own_go st44 ?_
        show own_End _ _ _ _ _ _ _ T44 (mkF m 218 #[.val (.long p1), .second, .val (.long p2), .second, .val (.long p3), .second, .val (.long p4), .second, .val (.long p5), .second, .val (.int p6), .val (.long d), .second, .val (.long e_), .second, .val (.long f), .second, .val (.int (((p6.toUInt32 >>> ((3 : Int32) &&& 31).toUInt32).toInt32) &&& (3 : Int32))), .val (.ref b31), .val (.ref b34), .val (.ref bx42), .val (.int (0 : Int32)), .val (.int (1 : Int32))] [(.int (own_eq p1 p2 p3 p1 p2 p3))])
        refine own_go (fun t k => XS.ifNo X44.here hx rfl (hb hby at_218) rfl ((if0 _ _).trans (feq (by rw [own_eq_self]; decide)).1) k) ?_
        show own_End _ _ _ _ _ _ _ T44 (mkF m 221 #[.val (.long p1), .second, .val (.long p2), .second, .val (.long p3), .second, .val (.long p4), .second, .val (.long p5), .second, .val (.int p6), .val (.long d), .second, .val (.long e_), .second, .val (.long f), .second, .val (.int (((p6.toUInt32 >>> ((3 : Int32) &&& 31).toUInt32).toInt32) &&& (3 : Int32))), .val (.ref b31), .val (.ref b34), .val (.ref bx42), .val (.int (0 : Int32)), .val (.int (1 : Int32))] [])
        refine own_go (fun t k => XS.iconst X44.here hx rfl (hb hby at_221) k) ?_
        show own_End _ _ _ _ _ _ _ T44 (mkF m 222 #[.val (.long p1), .second, .val (.long p2), .second, .val (.long p3), .second, .val (.long p4), .second, .val (.long p5), .second, .val (.int p6), .val (.long d), .second, .val (.long e_), .second, .val (.long f), .second, .val (.int (((p6.toUInt32 >>> ((3 : Int32) &&& 31).toUInt32).toInt32) &&& (3 : Int32))), .val (.ref b31), .val (.ref b34), .val (.ref bx42), .val (.int (0 : Int32)), .val (.int (1 : Int32))] [(.int (1 : Int32))])
        refine own_go (fun t k => XS.goto X44.here hx rfl (pc0 := 222) (pc' := 226) rfl (hb hby at_222) (by decide) (by decide) k) ?_
        show own_End _ _ _ _ _ _ _ T44 (mkF m 226 #[.val (.long p1), .second, .val (.long p2), .second, .val (.long p3), .second, .val (.long p4), .second, .val (.long p5), .second, .val (.int p6), .val (.long d), .second, .val (.long e_), .second, .val (.long f), .second, .val (.int (((p6.toUInt32 >>> ((3 : Int32) &&& 31).toUInt32).toInt32) &&& (3 : Int32))), .val (.ref b31), .val (.ref b34), .val (.ref bx42), .val (.int (0 : Int32)), .val (.int (1 : Int32))] [(.int (1 : Int32))])
        exact own_retW X44 hx Bd.returns Bd.notSynchronized rfl (Or.inl ⟨rfl, by simp, _, rfl⟩) (hb hby at_226) ⟨rfl, N44⟩ (by decide) (by decide)
      · refine own_go (fun t k => XS.icmpYes X36.here hx rfl (pc0 := 103) (pc' := 118) rfl (hb hby at_103) rfl (feq hc103j49).2 (by decide) (by decide) k) ?_
        show own_End _ _ _ _ _ _ _ T36 (mkF m 118 #[.val (.long p1), .second, .val (.long p2), .second, .val (.long p3), .second, .val (.long p4), .second, .val (.long p5), .second, .val (.int p6), .val (.long d), .second, .val (.long e_), .second, .val (.long f), .second, .val (.int (((p6.toUInt32 >>> ((3 : Int32) &&& 31).toUInt32).toInt32) &&& (3 : Int32))), .val (.ref b31), .val (.ref b34), .unset, .unset, .unset] [])
        refine own_go (fun t k => XS.aload X36.here hx rfl (hb hby at_118) rfl rfl k) ?_
        show own_End _ _ _ _ _ _ _ T36 (mkF m 120 #[.val (.long p1), .second, .val (.long p2), .second, .val (.long p3), .second, .val (.long p4), .second, .val (.long p5), .second, .val (.int p6), .val (.long d), .second, .val (.long e_), .second, .val (.long f), .second, .val (.int (((p6.toUInt32 >>> ((3 : Int32) &&& 31).toUInt32).toInt32) &&& (3 : Int32))), .val (.ref b31), .val (.ref b34), .unset, .unset, .unset] [(.ref b34)])
        refine own_go (fun t k => XS.astore X36.here hx rfl (hb hby at_120) rfl rfl (l' := #[.val (.long p1), .second, .val (.long p2), .second, .val (.long p3), .second, .val (.long p4), .second, .val (.long p5), .second, .val (.int p6), .val (.long d), .second, .val (.long e_), .second, .val (.long f), .second, .val (.int (((p6.toUInt32 >>> ((3 : Int32) &&& 31).toUInt32).toInt32) &&& (3 : Int32))), .val (.ref b31), .val (.ref b34), .val (.ref b34), .unset, .unset]) rfl k) ?_
        show own_End _ _ _ _ _ _ _ T36 (mkF m 122 #[.val (.long p1), .second, .val (.long p2), .second, .val (.long p3), .second, .val (.long p4), .second, .val (.long p5), .second, .val (.int p6), .val (.long d), .second, .val (.long e_), .second, .val (.long f), .second, .val (.int (((p6.toUInt32 >>> ((3 : Int32) &&& 31).toUInt32).toInt32) &&& (3 : Int32))), .val (.ref b31), .val (.ref b34), .val (.ref b34), .unset, .unset] [])
        refine own_go (fun t k => XS.lloadN X36.here hx rfl (hb hby at_122) rfl k) ?_
        show own_End _ _ _ _ _ _ _ T36 (mkF m 123 #[.val (.long p1), .second, .val (.long p2), .second, .val (.long p3), .second, .val (.long p4), .second, .val (.long p5), .second, .val (.int p6), .val (.long d), .second, .val (.long e_), .second, .val (.long f), .second, .val (.int (((p6.toUInt32 >>> ((3 : Int32) &&& 31).toUInt32).toInt32) &&& (3 : Int32))), .val (.ref b31), .val (.ref b34), .val (.ref b34), .unset, .unset] [(.long p1)])
        refine own_go (fun t k => XS.lload X36.here hx rfl (hb hby at_123) rfl k) ?_
        show own_End _ _ _ _ _ _ _ T36 (mkF m 125 #[.val (.long p1), .second, .val (.long p2), .second, .val (.long p3), .second, .val (.long p4), .second, .val (.long p5), .second, .val (.int p6), .val (.long d), .second, .val (.long e_), .second, .val (.long f), .second, .val (.int (((p6.toUInt32 >>> ((3 : Int32) &&& 31).toUInt32).toInt32) &&& (3 : Int32))), .val (.ref b31), .val (.ref b34), .val (.ref b34), .unset, .unset] [(.long d), (.long p1)])
        refine own_go (fun t k => XS.lcmp X36.here hx rfl (hb hby at_125) rfl k) ?_
        show own_End _ _ _ _ _ _ _ T36 (mkF m 126 #[.val (.long p1), .second, .val (.long p2), .second, .val (.long p3), .second, .val (.long p4), .second, .val (.long p5), .second, .val (.int p6), .val (.long d), .second, .val (.long e_), .second, .val (.long f), .second, .val (.int (((p6.toUInt32 >>> ((3 : Int32) &&& 31).toUInt32).toInt32) &&& (3 : Int32))), .val (.ref b31), .val (.ref b34), .val (.ref b34), .unset, .unset] [(.int (lcmpW p1 d))])
        by_cases hc126j49 : p1 = d
        · refine own_go (fun t k => XS.ifNo X36.here hx rfl (hb hby at_126) rfl ((if0 _ _).trans (teq (own_lceq.mpr hc126j49)).2) k) ?_
          show own_End _ _ _ _ _ _ _ T36 (mkF m 129 #[.val (.long p1), .second, .val (.long p2), .second, .val (.long p3), .second, .val (.long p4), .second, .val (.long p5), .second, .val (.int p6), .val (.long d), .second, .val (.long e_), .second, .val (.long f), .second, .val (.int (((p6.toUInt32 >>> ((3 : Int32) &&& 31).toUInt32).toInt32) &&& (3 : Int32))), .val (.ref b31), .val (.ref b34), .val (.ref b34), .unset, .unset] [])
          refine own_go (fun t k => XS.lloadN X36.here hx rfl (hb hby at_129) rfl k) ?_
          show own_End _ _ _ _ _ _ _ T36 (mkF m 130 #[.val (.long p1), .second, .val (.long p2), .second, .val (.long p3), .second, .val (.long p4), .second, .val (.long p5), .second, .val (.int p6), .val (.long d), .second, .val (.long e_), .second, .val (.long f), .second, .val (.int (((p6.toUInt32 >>> ((3 : Int32) &&& 31).toUInt32).toInt32) &&& (3 : Int32))), .val (.ref b31), .val (.ref b34), .val (.ref b34), .unset, .unset] [(.long p2)])
          refine own_go (fun t k => XS.lload X36.here hx rfl (hb hby at_130) rfl k) ?_
          show own_End _ _ _ _ _ _ _ T36 (mkF m 132 #[.val (.long p1), .second, .val (.long p2), .second, .val (.long p3), .second, .val (.long p4), .second, .val (.long p5), .second, .val (.int p6), .val (.long d), .second, .val (.long e_), .second, .val (.long f), .second, .val (.int (((p6.toUInt32 >>> ((3 : Int32) &&& 31).toUInt32).toInt32) &&& (3 : Int32))), .val (.ref b31), .val (.ref b34), .val (.ref b34), .unset, .unset] [(.long e_), (.long p2)])
          refine own_go (fun t k => XS.lcmp X36.here hx rfl (hb hby at_132) rfl k) ?_
          show own_End _ _ _ _ _ _ _ T36 (mkF m 133 #[.val (.long p1), .second, .val (.long p2), .second, .val (.long p3), .second, .val (.long p4), .second, .val (.long p5), .second, .val (.int p6), .val (.long d), .second, .val (.long e_), .second, .val (.long f), .second, .val (.int (((p6.toUInt32 >>> ((3 : Int32) &&& 31).toUInt32).toInt32) &&& (3 : Int32))), .val (.ref b31), .val (.ref b34), .val (.ref b34), .unset, .unset] [(.int (lcmpW p2 e_))])
          by_cases hc133j49 : p2 = e_
          · refine own_go (fun t k => XS.ifNo X36.here hx rfl (hb hby at_133) rfl ((if0 _ _).trans (teq (own_lceq.mpr hc133j49)).2) k) ?_
            show own_End _ _ _ _ _ _ _ T36 (mkF m 136 #[.val (.long p1), .second, .val (.long p2), .second, .val (.long p3), .second, .val (.long p4), .second, .val (.long p5), .second, .val (.int p6), .val (.long d), .second, .val (.long e_), .second, .val (.long f), .second, .val (.int (((p6.toUInt32 >>> ((3 : Int32) &&& 31).toUInt32).toInt32) &&& (3 : Int32))), .val (.ref b31), .val (.ref b34), .val (.ref b34), .unset, .unset] [])
            refine own_go (fun t k => XS.lload X36.here hx rfl (hb hby at_136) rfl k) ?_
            show own_End _ _ _ _ _ _ _ T36 (mkF m 138 #[.val (.long p1), .second, .val (.long p2), .second, .val (.long p3), .second, .val (.long p4), .second, .val (.long p5), .second, .val (.int p6), .val (.long d), .second, .val (.long e_), .second, .val (.long f), .second, .val (.int (((p6.toUInt32 >>> ((3 : Int32) &&& 31).toUInt32).toInt32) &&& (3 : Int32))), .val (.ref b31), .val (.ref b34), .val (.ref b34), .unset, .unset] [(.long p3)])
            refine own_go (fun t k => XS.lload X36.here hx rfl (hb hby at_138) rfl k) ?_
            show own_End _ _ _ _ _ _ _ T36 (mkF m 140 #[.val (.long p1), .second, .val (.long p2), .second, .val (.long p3), .second, .val (.long p4), .second, .val (.long p5), .second, .val (.int p6), .val (.long d), .second, .val (.long e_), .second, .val (.long f), .second, .val (.int (((p6.toUInt32 >>> ((3 : Int32) &&& 31).toUInt32).toInt32) &&& (3 : Int32))), .val (.ref b31), .val (.ref b34), .val (.ref b34), .unset, .unset] [(.long f), (.long p3)])
            refine own_go (fun t k => XS.lcmp X36.here hx rfl (hb hby at_140) rfl k) ?_
            show own_End _ _ _ _ _ _ _ T36 (mkF m 141 #[.val (.long p1), .second, .val (.long p2), .second, .val (.long p3), .second, .val (.long p4), .second, .val (.long p5), .second, .val (.int p6), .val (.long d), .second, .val (.long e_), .second, .val (.long f), .second, .val (.int (((p6.toUInt32 >>> ((3 : Int32) &&& 31).toUInt32).toInt32) &&& (3 : Int32))), .val (.ref b31), .val (.ref b34), .val (.ref b34), .unset, .unset] [(.int (lcmpW p3 f))])
            by_cases hc141j49 : p3 = f
            · refine own_go (fun t k => XS.ifNo X36.here hx rfl (hb hby at_141) rfl ((if0 _ _).trans (teq (own_lceq.mpr hc141j49)).2) k) ?_
              show own_End _ _ _ _ _ _ _ T36 (mkF m 144 #[.val (.long p1), .second, .val (.long p2), .second, .val (.long p3), .second, .val (.long p4), .second, .val (.long p5), .second, .val (.int p6), .val (.long d), .second, .val (.long e_), .second, .val (.long f), .second, .val (.int (((p6.toUInt32 >>> ((3 : Int32) &&& 31).toUInt32).toInt32) &&& (3 : Int32))), .val (.ref b31), .val (.ref b34), .val (.ref b34), .unset, .unset] [])
              refine own_go (fun t k => XS.iconst X36.here hx rfl (hb hby at_144) k) ?_
              show own_End _ _ _ _ _ _ _ T36 (mkF m 145 #[.val (.long p1), .second, .val (.long p2), .second, .val (.long p3), .second, .val (.long p4), .second, .val (.long p5), .second, .val (.int p6), .val (.long d), .second, .val (.long e_), .second, .val (.long f), .second, .val (.int (((p6.toUInt32 >>> ((3 : Int32) &&& 31).toUInt32).toInt32) &&& (3 : Int32))), .val (.ref b31), .val (.ref b34), .val (.ref b34), .unset, .unset] [(.int (1 : Int32))])
              refine own_go (fun t k => XS.goto X36.here hx rfl (pc0 := 145) (pc' := 149) rfl (hb hby at_145) (by decide) (by decide) k) ?_
              show own_End _ _ _ _ _ _ _ T36 (mkF m 149 #[.val (.long p1), .second, .val (.long p2), .second, .val (.long p3), .second, .val (.long p4), .second, .val (.long p5), .second, .val (.int p6), .val (.long d), .second, .val (.long e_), .second, .val (.long f), .second, .val (.int (((p6.toUInt32 >>> ((3 : Int32) &&& 31).toUInt32).toInt32) &&& (3 : Int32))), .val (.ref b31), .val (.ref b34), .val (.ref b34), .unset, .unset] [(.int (1 : Int32))])
              refine own_go (fun t k => XS.istore X36.here hx rfl (hb hby at_149) rfl (l' := #[.val (.long p1), .second, .val (.long p2), .second, .val (.long p3), .second, .val (.long p4), .second, .val (.long p5), .second, .val (.int p6), .val (.long d), .second, .val (.long e_), .second, .val (.long f), .second, .val (.int (((p6.toUInt32 >>> ((3 : Int32) &&& 31).toUInt32).toInt32) &&& (3 : Int32))), .val (.ref b31), .val (.ref b34), .val (.ref b34), .val (.int (1 : Int32)), .unset]) rfl k) ?_
              exact j151 (1 : Int32) hc88j49 hc103j49 (by simp [own_eq, hc88j49, hc103j49, hc126j49, hc133j49, hc141j49])
            · refine own_go (fun t k => XS.ifYes X36.here hx rfl (pc0 := 141) (pc' := 148) rfl (hb hby at_141) rfl ((if0 _ _).trans (feq (fun q => hc141j49 (own_lceq.mp q))).2) (by decide) (by decide) k) ?_
              show own_End _ _ _ _ _ _ _ T36 (mkF m 148 #[.val (.long p1), .second, .val (.long p2), .second, .val (.long p3), .second, .val (.long p4), .second, .val (.long p5), .second, .val (.int p6), .val (.long d), .second, .val (.long e_), .second, .val (.long f), .second, .val (.int (((p6.toUInt32 >>> ((3 : Int32) &&& 31).toUInt32).toInt32) &&& (3 : Int32))), .val (.ref b31), .val (.ref b34), .val (.ref b34), .unset, .unset] [])
              refine own_go (fun t k => XS.iconst X36.here hx rfl (hb hby at_148) k) ?_
              show own_End _ _ _ _ _ _ _ T36 (mkF m 149 #[.val (.long p1), .second, .val (.long p2), .second, .val (.long p3), .second, .val (.long p4), .second, .val (.long p5), .second, .val (.int p6), .val (.long d), .second, .val (.long e_), .second, .val (.long f), .second, .val (.int (((p6.toUInt32 >>> ((3 : Int32) &&& 31).toUInt32).toInt32) &&& (3 : Int32))), .val (.ref b31), .val (.ref b34), .val (.ref b34), .unset, .unset] [(.int (0 : Int32))])
              refine own_go (fun t k => XS.istore X36.here hx rfl (hb hby at_149) rfl (l' := #[.val (.long p1), .second, .val (.long p2), .second, .val (.long p3), .second, .val (.long p4), .second, .val (.long p5), .second, .val (.int p6), .val (.long d), .second, .val (.long e_), .second, .val (.long f), .second, .val (.int (((p6.toUInt32 >>> ((3 : Int32) &&& 31).toUInt32).toInt32) &&& (3 : Int32))), .val (.ref b31), .val (.ref b34), .val (.ref b34), .val (.int (0 : Int32)), .unset]) rfl k) ?_
              exact j151 (0 : Int32) hc88j49 hc103j49 (by simp [own_eq, hc88j49, hc103j49, hc126j49, hc133j49, hc141j49])
          · refine own_go (fun t k => XS.ifYes X36.here hx rfl (pc0 := 133) (pc' := 148) rfl (hb hby at_133) rfl ((if0 _ _).trans (feq (fun q => hc133j49 (own_lceq.mp q))).2) (by decide) (by decide) k) ?_
            show own_End _ _ _ _ _ _ _ T36 (mkF m 148 #[.val (.long p1), .second, .val (.long p2), .second, .val (.long p3), .second, .val (.long p4), .second, .val (.long p5), .second, .val (.int p6), .val (.long d), .second, .val (.long e_), .second, .val (.long f), .second, .val (.int (((p6.toUInt32 >>> ((3 : Int32) &&& 31).toUInt32).toInt32) &&& (3 : Int32))), .val (.ref b31), .val (.ref b34), .val (.ref b34), .unset, .unset] [])
            refine own_go (fun t k => XS.iconst X36.here hx rfl (hb hby at_148) k) ?_
            show own_End _ _ _ _ _ _ _ T36 (mkF m 149 #[.val (.long p1), .second, .val (.long p2), .second, .val (.long p3), .second, .val (.long p4), .second, .val (.long p5), .second, .val (.int p6), .val (.long d), .second, .val (.long e_), .second, .val (.long f), .second, .val (.int (((p6.toUInt32 >>> ((3 : Int32) &&& 31).toUInt32).toInt32) &&& (3 : Int32))), .val (.ref b31), .val (.ref b34), .val (.ref b34), .unset, .unset] [(.int (0 : Int32))])
            refine own_go (fun t k => XS.istore X36.here hx rfl (hb hby at_149) rfl (l' := #[.val (.long p1), .second, .val (.long p2), .second, .val (.long p3), .second, .val (.long p4), .second, .val (.long p5), .second, .val (.int p6), .val (.long d), .second, .val (.long e_), .second, .val (.long f), .second, .val (.int (((p6.toUInt32 >>> ((3 : Int32) &&& 31).toUInt32).toInt32) &&& (3 : Int32))), .val (.ref b31), .val (.ref b34), .val (.ref b34), .val (.int (0 : Int32)), .unset]) rfl k) ?_
            exact j151 (0 : Int32) hc88j49 hc103j49 (by simp [own_eq, hc88j49, hc103j49, hc126j49, hc133j49])
        · refine own_go (fun t k => XS.ifYes X36.here hx rfl (pc0 := 126) (pc' := 148) rfl (hb hby at_126) rfl ((if0 _ _).trans (feq (fun q => hc126j49 (own_lceq.mp q))).2) (by decide) (by decide) k) ?_
          show own_End _ _ _ _ _ _ _ T36 (mkF m 148 #[.val (.long p1), .second, .val (.long p2), .second, .val (.long p3), .second, .val (.long p4), .second, .val (.long p5), .second, .val (.int p6), .val (.long d), .second, .val (.long e_), .second, .val (.long f), .second, .val (.int (((p6.toUInt32 >>> ((3 : Int32) &&& 31).toUInt32).toInt32) &&& (3 : Int32))), .val (.ref b31), .val (.ref b34), .val (.ref b34), .unset, .unset] [])
          refine own_go (fun t k => XS.iconst X36.here hx rfl (hb hby at_148) k) ?_
          show own_End _ _ _ _ _ _ _ T36 (mkF m 149 #[.val (.long p1), .second, .val (.long p2), .second, .val (.long p3), .second, .val (.long p4), .second, .val (.long p5), .second, .val (.int p6), .val (.long d), .second, .val (.long e_), .second, .val (.long f), .second, .val (.int (((p6.toUInt32 >>> ((3 : Int32) &&& 31).toUInt32).toInt32) &&& (3 : Int32))), .val (.ref b31), .val (.ref b34), .val (.ref b34), .unset, .unset] [(.int (0 : Int32))])
          refine own_go (fun t k => XS.istore X36.here hx rfl (hb hby at_149) rfl (l' := #[.val (.long p1), .second, .val (.long p2), .second, .val (.long p3), .second, .val (.long p4), .second, .val (.long p5), .second, .val (.int p6), .val (.long d), .second, .val (.long e_), .second, .val (.long f), .second, .val (.int (((p6.toUInt32 >>> ((3 : Int32) &&& 31).toUInt32).toInt32) &&& (3 : Int32))), .val (.ref b31), .val (.ref b34), .val (.ref b34), .val (.int (0 : Int32)), .unset]) rfl k) ?_
          exact j151 (0 : Int32) hc88j49 hc103j49 (by simp [own_eq, hc88j49, hc103j49, hc126j49])
  have j30 : ∀ (d e_ : Int64),  own_End p e below s (own_law n0) room_1.cells room_1.slots s₁ (mkF m 30 #[.val (.long p1), .second, .val (.long p2), .second, .val (.long p3), .second, .val (.long p4), .second, .val (.long p5), .second, .val (.int p6), .val (.long d), .second, .val (.long e_), .second, .unset, .unset, .unset, .unset, .unset, .unset, .unset, .unset] []) := by
    intro d e_
    show own_End _ _ _ _ _ _ _ s₁ (mkF m 30 #[.val (.long p1), .second, .val (.long p2), .second, .val (.long p3), .second, .val (.long p4), .second, .val (.long p5), .second, .val (.int p6), .val (.long d), .second, .val (.long e_), .second, .unset, .unset, .unset, .unset, .unset, .unset, .unset, .unset] [])
    refine own_go (fun t k => XS.iload X0.here hx rfl (hb hby at_30) rfl k) ?_
    show own_End _ _ _ _ _ _ _ s₁ (mkF m 32 #[.val (.long p1), .second, .val (.long p2), .second, .val (.long p3), .second, .val (.long p4), .second, .val (.long p5), .second, .val (.int p6), .val (.long d), .second, .val (.long e_), .second, .unset, .unset, .unset, .unset, .unset, .unset, .unset, .unset] [(.int p6)])
    refine own_go (fun t k => XS.iconst X0.here hx rfl (hb hby at_32) k) ?_
    show own_End _ _ _ _ _ _ _ s₁ (mkF m 33 #[.val (.long p1), .second, .val (.long p2), .second, .val (.long p3), .second, .val (.long p4), .second, .val (.long p5), .second, .val (.int p6), .val (.long d), .second, .val (.long e_), .second, .unset, .unset, .unset, .unset, .unset, .unset, .unset, .unset] [(.int (4 : Int32)), (.int p6)])
    refine own_go (fun t k => XS.iand X0.here hx rfl (hb hby at_33) rfl k) ?_
    show own_End _ _ _ _ _ _ _ s₁ (mkF m 34 #[.val (.long p1), .second, .val (.long p2), .second, .val (.long p3), .second, .val (.long p4), .second, .val (.long p5), .second, .val (.int p6), .val (.long d), .second, .val (.long e_), .second, .unset, .unset, .unset, .unset, .unset, .unset, .unset, .unset] [(.int (p6 &&& (4 : Int32)))])
    by_cases hc34j30 : (p6 &&& (4 : Int32)) = (0 : Int32)
    · refine own_go (fun t k => XS.ifYes X0.here hx rfl (pc0 := 34) (pc' := 42) rfl (hb hby at_34) rfl ((if0 _ _).trans (teq hc34j30).1) (by decide) (by decide) k) ?_
      show own_End _ _ _ _ _ _ _ s₁ (mkF m 42 #[.val (.long p1), .second, .val (.long p2), .second, .val (.long p3), .second, .val (.long p4), .second, .val (.long p5), .second, .val (.int p6), .val (.long d), .second, .val (.long e_), .second, .unset, .unset, .unset, .unset, .unset, .unset, .unset, .unset] [])
      refine own_go (fun t k => XS.lload X0.here hx rfl (hb hby at_42) rfl k) ?_
      show own_End _ _ _ _ _ _ _ s₁ (mkF m 44 #[.val (.long p1), .second, .val (.long p2), .second, .val (.long p3), .second, .val (.long p4), .second, .val (.long p5), .second, .val (.int p6), .val (.long d), .second, .val (.long e_), .second, .unset, .unset, .unset, .unset, .unset, .unset, .unset, .unset] [(.long p4)])
      refine own_go (fun t k => XS.lload X0.here hx rfl (hb hby at_44) rfl k) ?_
      show own_End _ _ _ _ _ _ _ s₁ (mkF m 46 #[.val (.long p1), .second, .val (.long p2), .second, .val (.long p3), .second, .val (.long p4), .second, .val (.long p5), .second, .val (.int p6), .val (.long d), .second, .val (.long e_), .second, .unset, .unset, .unset, .unset, .unset, .unset, .unset, .unset] [(.long p5), (.long p4)])
      refine own_go (fun t k => XS.lsub X0.here hx rfl (hb hby at_46) rfl k) ?_
      show own_End _ _ _ _ _ _ _ s₁ (mkF m 47 #[.val (.long p1), .second, .val (.long p2), .second, .val (.long p3), .second, .val (.long p4), .second, .val (.long p5), .second, .val (.int p6), .val (.long d), .second, .val (.long e_), .second, .unset, .unset, .unset, .unset, .unset, .unset, .unset, .unset] [(.long (p4 - p5))])
      refine own_go (fun t k => XS.lstore X0.here hx rfl (hb hby at_47) rfl (l' := #[.val (.long p1), .second, .val (.long p2), .second, .val (.long p3), .second, .val (.long p4), .second, .val (.long p5), .second, .val (.int p6), .val (.long d), .second, .val (.long e_), .second, .val (.long (p4 - p5)), .second, .unset, .unset, .unset, .unset, .unset, .unset]) rfl k) ?_
      exact j49 d e_ (p4 - p5)
    · refine own_go (fun t k => XS.ifNo X0.here hx rfl (hb hby at_34) rfl ((if0 _ _).trans (feq hc34j30).1) k) ?_
      show own_End _ _ _ _ _ _ _ s₁ (mkF m 37 #[.val (.long p1), .second, .val (.long p2), .second, .val (.long p3), .second, .val (.long p4), .second, .val (.long p5), .second, .val (.int p6), .val (.long d), .second, .val (.long e_), .second, .unset, .unset, .unset, .unset, .unset, .unset, .unset, .unset] [])
      refine own_go (fun t k => XS.lload X0.here hx rfl (hb hby at_37) rfl k) ?_
      show own_End _ _ _ _ _ _ _ s₁ (mkF m 39 #[.val (.long p1), .second, .val (.long p2), .second, .val (.long p3), .second, .val (.long p4), .second, .val (.long p5), .second, .val (.int p6), .val (.long d), .second, .val (.long e_), .second, .unset, .unset, .unset, .unset, .unset, .unset, .unset, .unset] [(.long p3)])
      refine own_go (fun t k => XS.goto X0.here hx rfl (pc0 := 39) (pc' := 47) rfl (hb hby at_39) (by decide) (by decide) k) ?_
      show own_End _ _ _ _ _ _ _ s₁ (mkF m 47 #[.val (.long p1), .second, .val (.long p2), .second, .val (.long p3), .second, .val (.long p4), .second, .val (.long p5), .second, .val (.int p6), .val (.long d), .second, .val (.long e_), .second, .unset, .unset, .unset, .unset, .unset, .unset, .unset, .unset] [(.long p3)])
      refine own_go (fun t k => XS.lstore X0.here hx rfl (hb hby at_47) rfl (l' := #[.val (.long p1), .second, .val (.long p2), .second, .val (.long p3), .second, .val (.long p4), .second, .val (.long p5), .second, .val (.int p6), .val (.long d), .second, .val (.long e_), .second, .val (.long p3), .second, .unset, .unset, .unset, .unset, .unset, .unset]) rfl k) ?_
      exact j49 d e_ p3
  have j15 : ∀ (d : Int64),  own_End p e below s (own_law n0) room_1.cells room_1.slots s₁ (mkF m 15 #[.val (.long p1), .second, .val (.long p2), .second, .val (.long p3), .second, .val (.long p4), .second, .val (.long p5), .second, .val (.int p6), .val (.long d), .second, .unset, .unset, .unset, .unset, .unset, .unset, .unset, .unset, .unset, .unset] []) := by
    intro d
    show own_End _ _ _ _ _ _ _ s₁ (mkF m 15 #[.val (.long p1), .second, .val (.long p2), .second, .val (.long p3), .second, .val (.long p4), .second, .val (.long p5), .second, .val (.int p6), .val (.long d), .second, .unset, .unset, .unset, .unset, .unset, .unset, .unset, .unset, .unset, .unset] [])
    refine own_go (fun t k => XS.iload X0.here hx rfl (hb hby at_15) rfl k) ?_
    show own_End _ _ _ _ _ _ _ s₁ (mkF m 17 #[.val (.long p1), .second, .val (.long p2), .second, .val (.long p3), .second, .val (.long p4), .second, .val (.long p5), .second, .val (.int p6), .val (.long d), .second, .unset, .unset, .unset, .unset, .unset, .unset, .unset, .unset, .unset, .unset] [(.int p6)])
    refine own_go (fun t k => XS.iconst X0.here hx rfl (hb hby at_17) k) ?_
    show own_End _ _ _ _ _ _ _ s₁ (mkF m 18 #[.val (.long p1), .second, .val (.long p2), .second, .val (.long p3), .second, .val (.long p4), .second, .val (.long p5), .second, .val (.int p6), .val (.long d), .second, .unset, .unset, .unset, .unset, .unset, .unset, .unset, .unset, .unset, .unset] [(.int (2 : Int32)), (.int p6)])
    refine own_go (fun t k => XS.iand X0.here hx rfl (hb hby at_18) rfl k) ?_
    show own_End _ _ _ _ _ _ _ s₁ (mkF m 19 #[.val (.long p1), .second, .val (.long p2), .second, .val (.long p3), .second, .val (.long p4), .second, .val (.long p5), .second, .val (.int p6), .val (.long d), .second, .unset, .unset, .unset, .unset, .unset, .unset, .unset, .unset, .unset, .unset] [(.int (p6 &&& (2 : Int32)))])
    by_cases hc19j15 : (p6 &&& (2 : Int32)) = (0 : Int32)
    · refine own_go (fun t k => XS.ifYes X0.here hx rfl (pc0 := 19) (pc' := 26) rfl (hb hby at_19) rfl ((if0 _ _).trans (teq hc19j15).1) (by decide) (by decide) k) ?_
      show own_End _ _ _ _ _ _ _ s₁ (mkF m 26 #[.val (.long p1), .second, .val (.long p2), .second, .val (.long p3), .second, .val (.long p4), .second, .val (.long p5), .second, .val (.int p6), .val (.long d), .second, .unset, .unset, .unset, .unset, .unset, .unset, .unset, .unset, .unset, .unset] [])
      refine own_go (fun t k => XS.lload X0.here hx rfl (hb hby at_26) rfl k) ?_
      show own_End _ _ _ _ _ _ _ s₁ (mkF m 28 #[.val (.long p1), .second, .val (.long p2), .second, .val (.long p3), .second, .val (.long p4), .second, .val (.long p5), .second, .val (.int p6), .val (.long d), .second, .unset, .unset, .unset, .unset, .unset, .unset, .unset, .unset, .unset, .unset] [(.long p5)])
      refine own_go (fun t k => XS.lstore X0.here hx rfl (hb hby at_28) rfl (l' := #[.val (.long p1), .second, .val (.long p2), .second, .val (.long p3), .second, .val (.long p4), .second, .val (.long p5), .second, .val (.int p6), .val (.long d), .second, .val (.long p5), .second, .unset, .unset, .unset, .unset, .unset, .unset, .unset, .unset]) rfl k) ?_
      exact j30 d p5
    · refine own_go (fun t k => XS.ifNo X0.here hx rfl (hb hby at_19) rfl ((if0 _ _).trans (feq hc19j15).1) k) ?_
      show own_End _ _ _ _ _ _ _ s₁ (mkF m 22 #[.val (.long p1), .second, .val (.long p2), .second, .val (.long p3), .second, .val (.long p4), .second, .val (.long p5), .second, .val (.int p6), .val (.long d), .second, .unset, .unset, .unset, .unset, .unset, .unset, .unset, .unset, .unset, .unset] [])
      refine own_go (fun t k => XS.lloadN X0.here hx rfl (hb hby at_22) rfl k) ?_
      show own_End _ _ _ _ _ _ _ s₁ (mkF m 23 #[.val (.long p1), .second, .val (.long p2), .second, .val (.long p3), .second, .val (.long p4), .second, .val (.long p5), .second, .val (.int p6), .val (.long d), .second, .unset, .unset, .unset, .unset, .unset, .unset, .unset, .unset, .unset, .unset] [(.long p2)])
      refine own_go (fun t k => XS.goto X0.here hx rfl (pc0 := 23) (pc' := 28) rfl (hb hby at_23) (by decide) (by decide) k) ?_
      show own_End _ _ _ _ _ _ _ s₁ (mkF m 28 #[.val (.long p1), .second, .val (.long p2), .second, .val (.long p3), .second, .val (.long p4), .second, .val (.long p5), .second, .val (.int p6), .val (.long d), .second, .unset, .unset, .unset, .unset, .unset, .unset, .unset, .unset, .unset, .unset] [(.long p2)])
      refine own_go (fun t k => XS.lstore X0.here hx rfl (hb hby at_28) rfl (l' := #[.val (.long p1), .second, .val (.long p2), .second, .val (.long p3), .second, .val (.long p4), .second, .val (.long p5), .second, .val (.int p6), .val (.long d), .second, .val (.long p2), .second, .unset, .unset, .unset, .unset, .unset, .unset, .unset, .unset]) rfl k) ?_
      exact j30 d p2
  show own_End _ _ _ _ _ _ _ s₁ (mkF m 0 #[.val (.long p1), .second, .val (.long p2), .second, .val (.long p3), .second, .val (.long p4), .second, .val (.long p5), .second, .val (.int p6), .unset, .unset, .unset, .unset, .unset, .unset, .unset, .unset, .unset, .unset, .unset, .unset] [])
  refine own_go (fun t k => XS.iload X0.here hx rfl (hb hby at_0) rfl k) ?_
  show own_End _ _ _ _ _ _ _ s₁ (mkF m 2 #[.val (.long p1), .second, .val (.long p2), .second, .val (.long p3), .second, .val (.long p4), .second, .val (.long p5), .second, .val (.int p6), .unset, .unset, .unset, .unset, .unset, .unset, .unset, .unset, .unset, .unset, .unset, .unset] [(.int p6)])
  refine own_go (fun t k => XS.iconst X0.here hx rfl (hb hby at_2) k) ?_
  show own_End _ _ _ _ _ _ _ s₁ (mkF m 3 #[.val (.long p1), .second, .val (.long p2), .second, .val (.long p3), .second, .val (.long p4), .second, .val (.long p5), .second, .val (.int p6), .unset, .unset, .unset, .unset, .unset, .unset, .unset, .unset, .unset, .unset, .unset, .unset] [(.int (1 : Int32)), (.int p6)])
  refine own_go (fun t k => XS.iand X0.here hx rfl (hb hby at_3) rfl k) ?_
  show own_End _ _ _ _ _ _ _ s₁ (mkF m 4 #[.val (.long p1), .second, .val (.long p2), .second, .val (.long p3), .second, .val (.long p4), .second, .val (.long p5), .second, .val (.int p6), .unset, .unset, .unset, .unset, .unset, .unset, .unset, .unset, .unset, .unset, .unset, .unset] [(.int (p6 &&& (1 : Int32)))])
  by_cases hc4 : (p6 &&& (1 : Int32)) = (0 : Int32)
  · refine own_go (fun t k => XS.ifYes X0.here hx rfl (pc0 := 4) (pc' := 11) rfl (hb hby at_4) rfl ((if0 _ _).trans (teq hc4).1) (by decide) (by decide) k) ?_
    show own_End _ _ _ _ _ _ _ s₁ (mkF m 11 #[.val (.long p1), .second, .val (.long p2), .second, .val (.long p3), .second, .val (.long p4), .second, .val (.long p5), .second, .val (.int p6), .unset, .unset, .unset, .unset, .unset, .unset, .unset, .unset, .unset, .unset, .unset, .unset] [])
    refine own_go (fun t k => XS.lload X0.here hx rfl (hb hby at_11) rfl k) ?_
    show own_End _ _ _ _ _ _ _ s₁ (mkF m 13 #[.val (.long p1), .second, .val (.long p2), .second, .val (.long p3), .second, .val (.long p4), .second, .val (.long p5), .second, .val (.int p6), .unset, .unset, .unset, .unset, .unset, .unset, .unset, .unset, .unset, .unset, .unset, .unset] [(.long p4)])
    refine own_go (fun t k => XS.lstore X0.here hx rfl (hb hby at_13) rfl (l' := #[.val (.long p1), .second, .val (.long p2), .second, .val (.long p3), .second, .val (.long p4), .second, .val (.long p5), .second, .val (.int p6), .val (.long p4), .second, .unset, .unset, .unset, .unset, .unset, .unset, .unset, .unset, .unset, .unset]) rfl k) ?_
    exact j15 p4
  · refine own_go (fun t k => XS.ifNo X0.here hx rfl (hb hby at_4) rfl ((if0 _ _).trans (feq hc4).1) k) ?_
    show own_End _ _ _ _ _ _ _ s₁ (mkF m 7 #[.val (.long p1), .second, .val (.long p2), .second, .val (.long p3), .second, .val (.long p4), .second, .val (.long p5), .second, .val (.int p6), .unset, .unset, .unset, .unset, .unset, .unset, .unset, .unset, .unset, .unset, .unset, .unset] [])
    refine own_go (fun t k => XS.lloadN X0.here hx rfl (hb hby at_7) rfl k) ?_
    show own_End _ _ _ _ _ _ _ s₁ (mkF m 8 #[.val (.long p1), .second, .val (.long p2), .second, .val (.long p3), .second, .val (.long p4), .second, .val (.long p5), .second, .val (.int p6), .unset, .unset, .unset, .unset, .unset, .unset, .unset, .unset, .unset, .unset, .unset, .unset] [(.long p1)])
    refine own_go (fun t k => XS.goto X0.here hx rfl (pc0 := 8) (pc' := 13) rfl (hb hby at_8) (by decide) (by decide) k) ?_
    show own_End _ _ _ _ _ _ _ s₁ (mkF m 13 #[.val (.long p1), .second, .val (.long p2), .second, .val (.long p3), .second, .val (.long p4), .second, .val (.long p5), .second, .val (.int p6), .unset, .unset, .unset, .unset, .unset, .unset, .unset, .unset, .unset, .unset, .unset, .unset] [(.long p1)])
    refine own_go (fun t k => XS.lstore X0.here hx rfl (hb hby at_13) rfl (l' := #[.val (.long p1), .second, .val (.long p2), .second, .val (.long p3), .second, .val (.long p4), .second, .val (.long p5), .second, .val (.int p6), .val (.long p1), .second, .unset, .unset, .unset, .unset, .unset, .unset, .unset, .unset, .unset, .unset]) rfl k) ?_
    exact j15 p1
theorem own_size {args : Array Value} {s : State} {A : Term} {w : Addr} {cl : Cell} {ty : FieldType} {n : Int32} (ev : A.eval args s none [] s = some (.ref w)) (Ar : Arr s s.heap w cl ty) (h : (Jvm.Cond.eq (.length A) (.int n)).value args s none s [] = some true) : cl.slots.size = n.toNatClampNeg := by
  have ha := Ar.fin (Vm.Alike.refl _)
  by_cases q : cl.slots.size < 2 ^ 31
  · have e := gotT (Cond.eq_ints (len_f ev ha q) (Term.int_eval n)) h
    exact (clamp_of (c := cl.slots.size) e.symm q).symm
  · have e : (Term.length A).eval args s none [] s = none := by simp [Term.eval, ev, ha, q]
    simp [Cond.value, e] at h
set_option maxRecDepth 65536 in
set_option maxHeartbeats 40000000 in
theorem comes_1 {Post : Tables → Env → Array Value → State → Outcome → State → Prop} (hpost : ∀ tb e args s v u, (limb_1_1.after args s (.returned v) u = true ∧ limb_1_2.after args s (.returned v) u = true ∧ True) → FrameEnd s (.returned v) u (Jvm.fieldLocs frame_1_writes args s ++ Jvm.arrayLocs frame_1_arrays args s ++ Jvm.staticLocs frame_1_statics s) 16 128 → Post tb e args s (.returned v) u) :
    ArmFor flags0 classFile x code maxLocals ret World_1 tables_1 room_1 Calls_1 rest_1 Pre_1 Post := by
  intro l hfl _ _ p e ha hc hk s m args below hf hA hF happ hP
  obtain ⟨hcalls, hrest, hpre⟩ := hP
  obtain ⟨-, -, -, hnamed, -, -, -, hat⟩ := (Spec.applies_iff hf).mp happ
  obtain ⟨hg, hn⟩ := and_e (Cond.before_iff.mp (show (Jvm.Cond.and given_1 narrow_1).before args s = true from hpre))
  obtain ⟨gc, gr0⟩ := and_e hg
  obtain ⟨gi0, gr1⟩ := and_e gr0
  obtain ⟨gi1, gr2⟩ := and_e gr1
  obtain ⟨gi2, gr3⟩ := and_e gr2
  obtain ⟨gi3, gr4⟩ := and_e gr3
  obtain ⟨gi4, gr5⟩ := and_e gr4
  obtain ⟨w0, w1, w2, w3, w4, w5, rfl⟩ : ∃ w0 w1 w2 w3 w4 w5 : Value, args = #[w0, w1, w2, w3, w4, w5] := by
    have hs : args.size = 6 := by simpa [Cond.value, given_1] using gc
    obtain ⟨L⟩ := args
    match L, hs with
    | [w0, w1, w2, w3, w4, w5], _ => exact ⟨w0, w1, w2, w3, w4, w5, rfl⟩
  have hw := fun d (hd : d ∈ tables_1) => atoms_spec (ws := Jvm.Cond.code x code maxLocals ret :: tables_1) hat d (List.mem_cons_of_mem _ hd)
  have hfit : Fit s := fun {y c} hc i hi => by
    obtain ⟨ha, rfl⟩ := Array.getElem?_eq_some_iff.mp hc
    have q := List.all_eq_true.mp ((Array.all_eq_true_iff_forall_mem.mp hF) _ (Array.getElem_mem ha)) i (List.mem_range.mpr hi)
    simpa [Array.getElem?_eq_getElem hi] using q
  obtain ⟨hsets, hown0⟩ := atoms_of _ (rest_1_c_eq ▸ (show rest_1_c.before _ s = true from hrest))
  obtain ⟨i0, ei0⟩ := isL_v gi0
  obtain rfl : w0 = (.long i0) := Option.some.inj ei0
  obtain ⟨i1, ei1⟩ := isL_v gi1
  obtain rfl : w1 = (.long i1) := Option.some.inj ei1
  obtain ⟨i2, ei2⟩ := isL_v gi2
  obtain rfl : w2 = (.long i2) := Option.some.inj ei2
  obtain ⟨i3, ei3⟩ := isL_v gi3
  obtain rfl : w3 = (.long i3) := Option.some.inj ei3
  obtain ⟨i4, ei4⟩ := isL_v gi4
  obtain rfl : w4 = (.long i4) := Option.some.inj ei4
  obtain ⟨i5, ei5⟩ := is_v gr5
  obtain rfl : w5 = (.int i5) := Option.some.inj ei5
  have x2 := Cond.before_iff.mp (hsets _ (List.mem_of_getElem? (i := 2) rfl))
  have x4 := Cond.before_iff.mp (hsets _ (List.mem_of_getElem? (i := 4) rfl))
  have x5 := Cond.before_iff.mp (hsets _ (List.mem_of_getElem? (i := 5) rfl))
  obtain ⟨wc, ev⟩ := arr_v x2
  obtain ⟨cl, Ar⟩ := Arr.start ev x2
  have SC := Sta.start ev (Or.inl (hsets _ (List.mem_of_getElem? (i := 1) rfl)))
  have Sz : cl.slots.size = (256 : Int32).toNatClampNeg := own_size ev Ar x4
  have hB : ∀ j : Int32, ¬ (j < 0 ∨ cl.slots.size ≤ j.toNatClampNeg) → ∃ bx : Addr, cl.slots[j.toNatClampNeg]? = some (.ref bx) ∧ Exa s s.heap bx "java/lang/Long" := fun j hj => by
    have nn : ¬ j < 0 := fun q => hj (Or.inl q)
    obtain ⟨u1, u2⟩ := and_e (Cond.all_elim ev (Ar.fin (Vm.Alike.refl _)) x5 j.toNatClampNeg (Nat.lt_of_not_le fun q => hj (Or.inr q)))
    obtain ⟨bx, eb⟩ := exa_v u1
    exact ⟨bx, (elem_f (show (Term.static "java/lang/Long$LongCache" "cache" "[Ljava/lang/Long;").eval _ s none [j.toNatClampNeg] s = some (.ref wc) from ev) (idx_at nn) (Ar.fin (Vm.Alike.refl _)) nn).symm.trans eb, exa_at eb u1⟩
  have ns := NS.step (hw _ (List.mem_of_getElem? (i := 42) rfl)) (NS.step (hw _ (List.mem_of_getElem? (i := 43) rfl)) (own_root (Z := s) (hw _ (List.mem_of_getElem? (i := 44) rfl)) (hw _ (List.mem_of_getElem? (i := 1) rfl)) (by decide)) (by decide)) (by decide)
  have hno := own_no (hw _ (List.mem_of_getElem? (i := 42) rfl)) (hw _ (List.mem_of_getElem? (i := 1) rfl)) ns (by decide)
  obtain ⟨n, o, h1, h2, h3, _, L, rfl, ⟨rfl, N⟩, hq⟩ := rm0 l s _ hw tables_1 i0 i1 i2 i3 i4 i5 wc cl s.heap s.heap.size (Nat.le_refl _) SC Ar Sz hB hno p e ha hc hk s m _ below hf ((Spec.applies_iff_loose hf).mp happ).1 ⟨rfl, State.Warmed39.refl s, rfl⟩ trivial
  refine ⟨n, _, h1, h2, h3, hpost _ _ _ _ _ _ ⟨Cond.after_iff.mpr rfl, Cond.after_iff.mpr (eq_i res_at (Term.int_eval (1)) rfl), trivial⟩ ⟨hq.1, hq.2.1, (hq.2.2.sift fun y hy => Or.inr (N y hy)).mono (by decide) (by decide)⟩⟩
theorem main_1_1 : Claimed_1_1 := comes_1 fun _ _ _ _ _ _ h hF => ⟨h.1, hF⟩
theorem main_1_2 : Claimed_1_2 := comes_1 fun _ _ _ _ _ _ h hF => ⟨h.2.1, hF⟩
end Jvm.Pilot.@@N@@
namespace Jvm.Pilot.@@N@@
open Jvm Jvm.ClassFile Sem Op Lib Jvm.Free Jvm.Stand Jvm.Pilot.@@N@@.Jvm.D
/-! MADE BY PROGRAM (witnessworld.py) out of the Statement's table words and the real class files: 16 classes; the members and pool entries that the words name. The judged class is class 1, her method 1. -/
namespace start1
open Jvm.ClassFile
def u (s : String) : CpInfo := .utf8 (stringToUtf16 s)
/-- a pool by its gaps: so many unusable entries, then the entry; so many at the end -/
def gap : Nat → List CpInfo → List CpInfo
  | 0, r => r
  | n + 1, r => .unusable :: gap n r
def poolList (es : List (Nat × CpInfo)) (last : Nat) : List CpInfo := es.foldr (fun e r => gap e.1 (e.2 :: r)) (gap last [])
def pool (es : List (Nat × CpInfo)) (last : Nat) : Array CpInfo := ⟨poolList es last⟩
def fileOf (pool : Array CpInfo) (this : Nat) (attrs : Array Attribute := #[]) (ms : Array MethodInfo := #[]) (fl : Nat := 33) (sup : Nat := 0) (ifs : Array Nat := #[]) (fds : Array FieldInfo := #[]) : ClassFile where
  minorVersion := 0
  majorVersion := 65
  constantPool := pool
  accessFlags := fl
  thisClass := this
  superClass := sup
  interfaces := ifs
  fields := fds
  methods := ms
  attributes := attrs
def plain (name : String) (sup : Option ClassId) : Class where
  name := name
  kind := .ordinary
  loader := none
  accessFlags := 33
  super := sup
  interfaces := #[]
  cf := none
  fields := #[]
  methods := #[]
  instanceTypes := #[]
  staticTypes := #[]
  resolved := #[]
  callSites := []
  init := .initialized
  statics := none
  mirror := none

def pool0 : Array CpInfo := pool [(5, u "<init>"), (0, u "()V"), (1, .class_ 10), (1, u "java/lang/Object")] 113

def k0c0 : Code := { maxStack := 0, maxLocals := 1, code := object_method_1_code, exceptionTable := #[], attributes := #[] }
def k0m0 : Method := { name := "<init>", desc := "()V", sig := { parameters := [], returnType := none }, accessFlags := 1, code := some k0c0 }
/-- java/lang/Object -/
def k0 : Class := { plain "java/lang/Object" none with
  accessFlags := 33
  interfaces := #[]
  cf := some (fileOf pool0 8 #[] #[{ accessFlags := 1, nameIndex := 5, descriptorIndex := 6, attributes := #[] }] 33 0 #[] #[])
  fields := #[]
  methods := #[k0m0]
  instanceTypes := #[]
  staticTypes := #[]
  resolved := Array.replicate 124 none
  statics := none }

def pool1 : Array CpInfo := pool [(2, .class_ 4), (1, u "java/lang/Object"), (0, u "<init>"), (0, u "()V"), (0, .class_ 8), (0, u "com/example/ingest_to_invoice/ingesttoinvoice/rating/Tax$Totals"), (0, .methodref 7 10), (0, .nameAndType 5 11), (0, u "(JJJ)V"), (0, .methodref 13 14), (0, .class_ 15), (0, .nameAndType 16 17), (0, u "java/lang/Long"), (0, u "valueOf"), (0, u "(J)Ljava/lang/Long;"), (0, .methodref 7 19), (0, .nameAndType 20 21), (0, u "equals"), (0, u "(Ljava/lang/Object;)Z"), (0, .class_ 23), (0, u "com/example/ingest_to_invoice/ingesttoinvoice/rating/TotalsEqualsPinLaw"), (2, u "law"), (0, u "(JJJJJI)Z")] 7

def k1m0 : Method := { name := "<init>", desc := "()V", sig := { parameters := [], returnType := none }, accessFlags := 1, code := none }
def k1c1 : Code := { maxStack := 8, maxLocals := 23, code := code, exceptionTable := #[], attributes := #[] }
def k1m1 : Method := { name := "law", desc := "(JJJJJI)Z", sig := { parameters := [.long, .long, .long, .long, .long, .int], returnType := some .boolean }, accessFlags := 9, code := some k1c1 }
/-- com/example/ingest_to_invoice/ingesttoinvoice/rating/TotalsEqualsPinLaw -/
def k1 : Class := { plain "com/example/ingest_to_invoice/ingesttoinvoice/rating/TotalsEqualsPinLaw" (some 0) with
  accessFlags := 49
  interfaces := #[]
  cf := some (fileOf pool1 22 #[] #[{ accessFlags := 1, nameIndex := 5, descriptorIndex := 6, attributes := #[] }, { accessFlags := 9, nameIndex := 26, descriptorIndex := 27, attributes := #[] }] 49 2 #[] #[])
  fields := #[]
  methods := #[k1m0, k1m1]
  instanceTypes := #[]
  staticTypes := #[]
  resolved := Array.replicate 35 none
  statics := none }

def pool2 : Array CpInfo := pool [(1, .methodref 2 3), (0, .class_ 4), (0, .nameAndType 5 6), (0, u "java/lang/Object"), (0, u "<init>"), (0, u "()V"), (0, .fieldref 8 9), (0, .class_ 10), (0, .nameAndType 11 12), (0, u "com/example/ingest_to_invoice/ingesttoinvoice/rating/Tax$Totals"), (0, u "subtotalMinor"), (0, u "J"), (0, .fieldref 8 14), (0, .nameAndType 15 12), (0, u "taxMinor"), (0, .fieldref 8 17), (0, .nameAndType 18 12), (0, u "totalMinor"), (35, u "(JJJ)V"), (4, u "equals"), (0, u "(Ljava/lang/Object;)Z"), (6, .class_ 68), (0, u "com/example/ingest_to_invoice/ingesttoinvoice/rating/Tax")] 2

def k2c0 : Code := { maxStack := 3, maxLocals := 7, code := prog_44_method_1_code, exceptionTable := #[], attributes := #[] }
def k2m0 : Method := { name := "<init>", desc := "(JJJ)V", sig := { parameters := [.long, .long, .long], returnType := none }, accessFlags := 1, code := some k2c0 }
def k2c1 : Code := { maxStack := 4, maxLocals := 2, code := prog_44_method_6_code, exceptionTable := #[], attributes := #[] }
def k2m1 : Method := { name := "equals", desc := "(Ljava/lang/Object;)Z", sig := { parameters := [(.object "java/lang/Object")], returnType := some .boolean }, accessFlags := 1, code := some k2c1 }
/-- com/example/ingest_to_invoice/ingesttoinvoice/rating/Tax$Totals -/
def k2 : Class := { plain "com/example/ingest_to_invoice/ingesttoinvoice/rating/Tax$Totals" (some 0) with
  accessFlags := 49
  interfaces := #[]
  cf := some (fileOf pool2 8 #[.nestHost 67] #[{ accessFlags := 1, nameIndex := 5, descriptorIndex := 54, attributes := #[] }, { accessFlags := 1, nameIndex := 59, descriptorIndex := 60, attributes := #[] }] 49 2 #[] #[{ accessFlags := 18, nameIndex := 11, descriptorIndex := 12, attributes := #[] }, { accessFlags := 18, nameIndex := 15, descriptorIndex := 12, attributes := #[] }, { accessFlags := 18, nameIndex := 18, descriptorIndex := 12, attributes := #[] }])
  fields := #[{ name := "subtotalMinor", type := .long, accessFlags := 18, slot := 0, constantValue := 0 }, { name := "taxMinor", type := .long, accessFlags := 18, slot := 1, constantValue := 0 }, { name := "totalMinor", type := .long, accessFlags := 18, slot := 2, constantValue := 0 }]
  methods := #[k2m0, k2m1]
  instanceTypes := #[.long, .long, .long]
  staticTypes := #[]
  resolved := Array.replicate 71 none
  statics := none }

def pool3 : Array CpInfo := pool [(1, .class_ 2), (0, u "java/io/Serializable"), (0, .class_ 4), (0, u "java/lang/Object")] 2

/-- java/io/Serializable -/
def k3 : Class := { plain "java/io/Serializable" (some 0) with
  accessFlags := 1537
  interfaces := #[]
  cf := some (fileOf pool3 1 #[] #[] 1537 3 #[] #[])
  fields := #[]
  methods := #[]
  instanceTypes := #[]
  staticTypes := #[]
  resolved := Array.replicate 7 none
  statics := none }

def pool4 : Array CpInfo := pool [(1, .methodref 2 3), (0, .class_ 4), (0, .nameAndType 5 6), (0, u "java/lang/Object"), (0, u "<init>"), (0, u "()V"), (1, .class_ 10), (1, u "java/lang/Number"), (2, .class_ 14), (0, u "java/io/Serializable"), (0, u "serialVersionUID"), (0, u "J")] 20

def k4c0 : Code := { maxStack := 1, maxLocals := 1, code := jdk_18_method_1_code, exceptionTable := #[], attributes := #[] }
def k4m0 : Method := { name := "<init>", desc := "()V", sig := { parameters := [], returnType := none }, accessFlags := 1, code := some k4c0 }
/-- java/lang/Number -/
def k4 : Class := { plain "java/lang/Number" (some 0) with
  accessFlags := 1057
  interfaces := #[3]
  cf := some (fileOf pool4 8 #[] #[{ accessFlags := 1, nameIndex := 5, descriptorIndex := 6, attributes := #[] }] 1057 2 #[13] #[{ accessFlags := 26, nameIndex := 15, descriptorIndex := 16, attributes := #[] }])
  fields := #[{ name := "serialVersionUID", type := .long, accessFlags := 26, slot := 0, constantValue := 0 }]
  methods := #[k4m0]
  instanceTypes := #[]
  staticTypes := #[.long]
  resolved := Array.replicate 37 none
  statics := none }

def pool5 : Array CpInfo := pool [(1, .class_ 2), (0, u "java/lang/Comparable"), (0, .class_ 4), (0, u "java/lang/Object")] 7

/-- java/lang/Comparable -/
def k5 : Class := { plain "java/lang/Comparable" (some 0) with
  accessFlags := 1537
  interfaces := #[]
  cf := some (fileOf pool5 1 #[] #[] 1537 3 #[] #[])
  fields := #[]
  methods := #[]
  instanceTypes := #[]
  staticTypes := #[]
  resolved := Array.replicate 12 none
  statics := none }

def pool6 : Array CpInfo := pool [(1, .class_ 2), (0, u "java/lang/constant/Constable"), (0, .class_ 4), (0, u "java/lang/Object")] 6

/-- java/lang/constant/Constable -/
def k6 : Class := { plain "java/lang/constant/Constable" (some 0) with
  accessFlags := 1537
  interfaces := #[]
  cf := some (fileOf pool6 1 #[] #[] 1537 3 #[] #[])
  fields := #[]
  methods := #[]
  instanceTypes := #[]
  staticTypes := #[]
  resolved := Array.replicate 11 none
  statics := none }

def pool7 : Array CpInfo := pool [(1, .class_ 2), (0, u "java/lang/constant/ConstantDesc"), (0, .class_ 4), (0, u "java/lang/Object")] 32

/-- java/lang/constant/ConstantDesc -/
def k7 : Class := { plain "java/lang/constant/ConstantDesc" (some 0) with
  accessFlags := 1537
  interfaces := #[]
  cf := some (fileOf pool7 1 #[] #[] 1537 3 #[] #[])
  fields := #[]
  methods := #[]
  instanceTypes := #[]
  staticTypes := #[]
  resolved := Array.replicate 37 none
  statics := none }

def pool8 : Array CpInfo := pool [(1, .class_ 2), (0, u "java/lang/Long"), (55, .nameAndType 59 60), (0, u "<init>"), (0, u "()V"), (24, u "valueOf"), (143, u "(J)Ljava/lang/Long;"), (0, .long 18446744073709551488), (1, .long 127), (1, .fieldref 235 236), (0, .class_ 237), (0, .nameAndType 238 239), (0, u "java/lang/Long$LongCache"), (0, u "cache"), (0, u "[Ljava/lang/Long;"), (0, .methodref 1 241), (0, .nameAndType 59 242), (0, u "(J)V"), (27, .methodref 271 58), (0, .class_ 272), (0, u "java/lang/Number"), (0, .fieldref 1 274), (0, .nameAndType 275 276), (0, u "value"), (0, u "J"), (84, u "TYPE"), (0, u "Ljava/lang/Class;"), (0, .class_ 364), (0, u "java/lang/Comparable"), (0, .class_ 366), (0, u "java/lang/constant/Constable"), (0, .class_ 368), (0, u "java/lang/constant/ConstantDesc"), (0, u "MIN_VALUE"), (1, u "MAX_VALUE"), (4, u "SIZE"), (0, u "I"), (1, u "BYTES"), (1, u "serialVersionUID")] 142

def k8c0 : Code := { maxStack := 4, maxLocals := 3, code := jdk_35_method_24_code, exceptionTable := #[], attributes := #[] }
def k8m0 : Method := { name := "valueOf", desc := "(J)Ljava/lang/Long;", sig := { parameters := [.long], returnType := some (.object "java/lang/Long") }, accessFlags := 9, code := some k8c0 }
def k8c1 : Code := { maxStack := 3, maxLocals := 3, code := jdk_35_method_26_code, exceptionTable := #[], attributes := #[] }
def k8m1 : Method := { name := "<init>", desc := "(J)V", sig := { parameters := [.long], returnType := none }, accessFlags := 1, code := some k8c1 }
/-- java/lang/Long -/
def k8 : Class := { plain "java/lang/Long" (some 4) with
  accessFlags := 49
  interfaces := #[5, 6, 7]
  cf := some (fileOf pool8 1 #[.nestMembers #[235]] #[{ accessFlags := 9, nameIndex := 85, descriptorIndex := 229, attributes := #[] }, { accessFlags := 1, nameIndex := 59, descriptorIndex := 242, attributes := #[] }] 49 271 #[363, 365, 367] #[{ accessFlags := 25, nameIndex := 369, descriptorIndex := 276, attributes := #[] }, { accessFlags := 25, nameIndex := 371, descriptorIndex := 276, attributes := #[] }, { accessFlags := 25, nameIndex := 361, descriptorIndex := 362, attributes := #[] }, { accessFlags := 18, nameIndex := 275, descriptorIndex := 276, attributes := #[] }, { accessFlags := 25, nameIndex := 376, descriptorIndex := 377, attributes := #[] }, { accessFlags := 25, nameIndex := 379, descriptorIndex := 377, attributes := #[] }, { accessFlags := 26, nameIndex := 381, descriptorIndex := 276, attributes := #[] }])
  fields := #[{ name := "MIN_VALUE", type := .long, accessFlags := 25, slot := 0, constantValue := 0 }, { name := "MAX_VALUE", type := .long, accessFlags := 25, slot := 1, constantValue := 0 }, { name := "TYPE", type := (.object "java/lang/Class"), accessFlags := 25, slot := 2, constantValue := 0 }, { name := "value", type := .long, accessFlags := 18, slot := 0, constantValue := 0 }, { name := "SIZE", type := .int, accessFlags := 25, slot := 3, constantValue := 0 }, { name := "BYTES", type := .int, accessFlags := 25, slot := 4, constantValue := 0 }, { name := "serialVersionUID", type := .long, accessFlags := 26, slot := 5, constantValue := 0 }]
  methods := #[k8m0, k8m1]
  instanceTypes := #[.long]
  staticTypes := #[.long, .long, (.object "java/lang/Class"), .int, .int, .long]
  resolved := Array.replicate 524 none
  statics := none }

def pool9 : Array CpInfo := pool [(2, .class_ 4), (1, u "java/lang/Object"), (0, u "<init>"), (0, u "()V"), (0, .class_ 8), (0, u "java/lang/Long"), (7, .class_ 18), (1, u "java/lang/Long$LongCache"), (0, u "$assertionsDisabled"), (0, u "Z"), (8, u "archivedCache"), (0, u "[Ljava/lang/Long;"), (7, u "cache")] 24

def k9m0 : Method := { name := "<init>", desc := "()V", sig := { parameters := [], returnType := none }, accessFlags := 2, code := none }
/-- java/lang/Long$LongCache -/
def k9 : Class := { plain "java/lang/Long$LongCache" (some 0) with
  accessFlags := 48
  interfaces := #[]
  cf := some (fileOf pool9 16 #[.nestHost 7] #[{ accessFlags := 2, nameIndex := 5, descriptorIndex := 6, attributes := #[] }] 48 2 #[] #[{ accessFlags := 24, nameIndex := 38, descriptorIndex := 30, attributes := #[] }, { accessFlags := 8, nameIndex := 29, descriptorIndex := 30, attributes := #[] }, { accessFlags := 4120, nameIndex := 19, descriptorIndex := 20, attributes := #[] }])
  fields := #[{ name := "cache", type := (.array (.object "java/lang/Long")), accessFlags := 24, slot := 0, constantValue := 0 }, { name := "archivedCache", type := (.array (.object "java/lang/Long")), accessFlags := 8, slot := 1, constantValue := 0 }, { name := "$assertionsDisabled", type := .boolean, accessFlags := 4120, slot := 2, constantValue := 0 }]
  methods := #[k9m0]
  instanceTypes := #[]
  staticTypes := #[(.array (.object "java/lang/Long")), (.array (.object "java/lang/Long")), .boolean]
  resolved := Array.replicate 63 none
  statics := some 0 }

def pool10 : Array CpInfo := pool [(1, u "java/lang/Cloneable"), (0, .class_ 1), (0, u "java/lang/Object"), (0, .class_ 3)] 3

/-- java/lang/Cloneable -/
def k10 : Class := { plain "java/lang/Cloneable" (some 0) with
  accessFlags := 1537
  interfaces := #[]
  cf := some (fileOf pool10 2 #[] #[] 1537 4 #[] #[])
  fields := #[]
  methods := #[]
  instanceTypes := #[]
  staticTypes := #[]
  resolved := Array.replicate 8 none
  statics := none }

/-- the primitive byte -/
def k11 : Class := { plain "byte" none with kind := .primitive 'B', accessFlags := 0x411 }
/-- [B -/
def k12 : Class := { plain "[B" (some 0) with kind := .array 11 .byte, interfaces := #[10, 3], accessFlags := 1041 }

/-- the primitive int -/
def k13 : Class := { plain "int" none with kind := .primitive 'I', accessFlags := 0x411 }
/-- [I -/
def k14 : Class := { plain "[I" (some 0) with kind := .array 13 .int, interfaces := #[10, 3], accessFlags := 1041 }

/-- [Ljava/lang/Long; -/
def k15 : Class := { plain "[Ljava/lang/Long;" (some 0) with kind := .array 8 (.object "java/lang/Long"), interfaces := #[10, 3], accessFlags := 1041 }

def heap : Heap := #[{ cls := 9, slots := #[.ref 1, .null, .int 0], vm := .statics 9 },
  { cls := 15, slots := #[.ref 2, .ref 3, .ref 4, .ref 5, .ref 6, .ref 7, .ref 8, .ref 9, .ref 10, .ref 11, .ref 12, .ref 13, .ref 14, .ref 15, .ref 16, .ref 17, .ref 18, .ref 19, .ref 20, .ref 21, .ref 22, .ref 23, .ref 24, .ref 25, .ref 26, .ref 27, .ref 28, .ref 29, .ref 30, .ref 31, .ref 32, .ref 33, .ref 34, .ref 35, .ref 36, .ref 37, .ref 38, .ref 39, .ref 40, .ref 41, .ref 42, .ref 43, .ref 44, .ref 45, .ref 46, .ref 47, .ref 48, .ref 49, .ref 50, .ref 51, .ref 52, .ref 53, .ref 54, .ref 55, .ref 56, .ref 57, .ref 58, .ref 59, .ref 60, .ref 61, .ref 62, .ref 63, .ref 64, .ref 65, .ref 66, .ref 67, .ref 68, .ref 69, .ref 70, .ref 71, .ref 72, .ref 73, .ref 74, .ref 75, .ref 76, .ref 77, .ref 78, .ref 79, .ref 80, .ref 81, .ref 82, .ref 83, .ref 84, .ref 85, .ref 86, .ref 87, .ref 88, .ref 89, .ref 90, .ref 91, .ref 92, .ref 93, .ref 94, .ref 95, .ref 96, .ref 97, .ref 98, .ref 99, .ref 100, .ref 101, .ref 102, .ref 103, .ref 104, .ref 105, .ref 106, .ref 107, .ref 108, .ref 109, .ref 110, .ref 111, .ref 112, .ref 113, .ref 114, .ref 115, .ref 116, .ref 117, .ref 118, .ref 119, .ref 120, .ref 121, .ref 122, .ref 123, .ref 124, .ref 125, .ref 126, .ref 127, .ref 128, .ref 129, .ref 130, .ref 131, .ref 132, .ref 133, .ref 134, .ref 135, .ref 136, .ref 137, .ref 138, .ref 139, .ref 140, .ref 141, .ref 142, .ref 143, .ref 144, .ref 145, .ref 146, .ref 147, .ref 148, .ref 149, .ref 150, .ref 151, .ref 152, .ref 153, .ref 154, .ref 155, .ref 156, .ref 157, .ref 158, .ref 159, .ref 160, .ref 161, .ref 162, .ref 163, .ref 164, .ref 165, .ref 166, .ref 167, .ref 168, .ref 169, .ref 170, .ref 171, .ref 172, .ref 173, .ref 174, .ref 175, .ref 176, .ref 177, .ref 178, .ref 179, .ref 180, .ref 181, .ref 182, .ref 183, .ref 184, .ref 185, .ref 186, .ref 187, .ref 188, .ref 189, .ref 190, .ref 191, .ref 192, .ref 193, .ref 194, .ref 195, .ref 196, .ref 197, .ref 198, .ref 199, .ref 200, .ref 201, .ref 202, .ref 203, .ref 204, .ref 205, .ref 206, .ref 207, .ref 208, .ref 209, .ref 210, .ref 211, .ref 212, .ref 213, .ref 214, .ref 215, .ref 216, .ref 217, .ref 218, .ref 219, .ref 220, .ref 221, .ref 222, .ref 223, .ref 224, .ref 225, .ref 226, .ref 227, .ref 228, .ref 229, .ref 230, .ref 231, .ref 232, .ref 233, .ref 234, .ref 235, .ref 236, .ref 237, .ref 238, .ref 239, .ref 240, .ref 241, .ref 242, .ref 243, .ref 244, .ref 245, .ref 246, .ref 247, .ref 248, .ref 249, .ref 250, .ref 251, .ref 252, .ref 253, .ref 254, .ref 255, .ref 256, .ref 257], vm := .none },
  { cls := 8, slots := #[.long (-128)], vm := .none },
  { cls := 8, slots := #[.long (-127)], vm := .none },
  { cls := 8, slots := #[.long (-126)], vm := .none },
  { cls := 8, slots := #[.long (-125)], vm := .none },
  { cls := 8, slots := #[.long (-124)], vm := .none },
  { cls := 8, slots := #[.long (-123)], vm := .none },
  { cls := 8, slots := #[.long (-122)], vm := .none },
  { cls := 8, slots := #[.long (-121)], vm := .none },
  { cls := 8, slots := #[.long (-120)], vm := .none },
  { cls := 8, slots := #[.long (-119)], vm := .none },
  { cls := 8, slots := #[.long (-118)], vm := .none },
  { cls := 8, slots := #[.long (-117)], vm := .none },
  { cls := 8, slots := #[.long (-116)], vm := .none },
  { cls := 8, slots := #[.long (-115)], vm := .none },
  { cls := 8, slots := #[.long (-114)], vm := .none },
  { cls := 8, slots := #[.long (-113)], vm := .none },
  { cls := 8, slots := #[.long (-112)], vm := .none },
  { cls := 8, slots := #[.long (-111)], vm := .none },
  { cls := 8, slots := #[.long (-110)], vm := .none },
  { cls := 8, slots := #[.long (-109)], vm := .none },
  { cls := 8, slots := #[.long (-108)], vm := .none },
  { cls := 8, slots := #[.long (-107)], vm := .none },
  { cls := 8, slots := #[.long (-106)], vm := .none },
  { cls := 8, slots := #[.long (-105)], vm := .none },
  { cls := 8, slots := #[.long (-104)], vm := .none },
  { cls := 8, slots := #[.long (-103)], vm := .none },
  { cls := 8, slots := #[.long (-102)], vm := .none },
  { cls := 8, slots := #[.long (-101)], vm := .none },
  { cls := 8, slots := #[.long (-100)], vm := .none },
  { cls := 8, slots := #[.long (-99)], vm := .none },
  { cls := 8, slots := #[.long (-98)], vm := .none },
  { cls := 8, slots := #[.long (-97)], vm := .none },
  { cls := 8, slots := #[.long (-96)], vm := .none },
  { cls := 8, slots := #[.long (-95)], vm := .none },
  { cls := 8, slots := #[.long (-94)], vm := .none },
  { cls := 8, slots := #[.long (-93)], vm := .none },
  { cls := 8, slots := #[.long (-92)], vm := .none },
  { cls := 8, slots := #[.long (-91)], vm := .none },
  { cls := 8, slots := #[.long (-90)], vm := .none },
  { cls := 8, slots := #[.long (-89)], vm := .none },
  { cls := 8, slots := #[.long (-88)], vm := .none },
  { cls := 8, slots := #[.long (-87)], vm := .none },
  { cls := 8, slots := #[.long (-86)], vm := .none },
  { cls := 8, slots := #[.long (-85)], vm := .none },
  { cls := 8, slots := #[.long (-84)], vm := .none },
  { cls := 8, slots := #[.long (-83)], vm := .none },
  { cls := 8, slots := #[.long (-82)], vm := .none },
  { cls := 8, slots := #[.long (-81)], vm := .none },
  { cls := 8, slots := #[.long (-80)], vm := .none },
  { cls := 8, slots := #[.long (-79)], vm := .none },
  { cls := 8, slots := #[.long (-78)], vm := .none },
  { cls := 8, slots := #[.long (-77)], vm := .none },
  { cls := 8, slots := #[.long (-76)], vm := .none },
  { cls := 8, slots := #[.long (-75)], vm := .none },
  { cls := 8, slots := #[.long (-74)], vm := .none },
  { cls := 8, slots := #[.long (-73)], vm := .none },
  { cls := 8, slots := #[.long (-72)], vm := .none },
  { cls := 8, slots := #[.long (-71)], vm := .none },
  { cls := 8, slots := #[.long (-70)], vm := .none },
  { cls := 8, slots := #[.long (-69)], vm := .none },
  { cls := 8, slots := #[.long (-68)], vm := .none },
  { cls := 8, slots := #[.long (-67)], vm := .none },
  { cls := 8, slots := #[.long (-66)], vm := .none },
  { cls := 8, slots := #[.long (-65)], vm := .none },
  { cls := 8, slots := #[.long (-64)], vm := .none },
  { cls := 8, slots := #[.long (-63)], vm := .none },
  { cls := 8, slots := #[.long (-62)], vm := .none },
  { cls := 8, slots := #[.long (-61)], vm := .none },
  { cls := 8, slots := #[.long (-60)], vm := .none },
  { cls := 8, slots := #[.long (-59)], vm := .none },
  { cls := 8, slots := #[.long (-58)], vm := .none },
  { cls := 8, slots := #[.long (-57)], vm := .none },
  { cls := 8, slots := #[.long (-56)], vm := .none },
  { cls := 8, slots := #[.long (-55)], vm := .none },
  { cls := 8, slots := #[.long (-54)], vm := .none },
  { cls := 8, slots := #[.long (-53)], vm := .none },
  { cls := 8, slots := #[.long (-52)], vm := .none },
  { cls := 8, slots := #[.long (-51)], vm := .none },
  { cls := 8, slots := #[.long (-50)], vm := .none },
  { cls := 8, slots := #[.long (-49)], vm := .none },
  { cls := 8, slots := #[.long (-48)], vm := .none },
  { cls := 8, slots := #[.long (-47)], vm := .none },
  { cls := 8, slots := #[.long (-46)], vm := .none },
  { cls := 8, slots := #[.long (-45)], vm := .none },
  { cls := 8, slots := #[.long (-44)], vm := .none },
  { cls := 8, slots := #[.long (-43)], vm := .none },
  { cls := 8, slots := #[.long (-42)], vm := .none },
  { cls := 8, slots := #[.long (-41)], vm := .none },
  { cls := 8, slots := #[.long (-40)], vm := .none },
  { cls := 8, slots := #[.long (-39)], vm := .none },
  { cls := 8, slots := #[.long (-38)], vm := .none },
  { cls := 8, slots := #[.long (-37)], vm := .none },
  { cls := 8, slots := #[.long (-36)], vm := .none },
  { cls := 8, slots := #[.long (-35)], vm := .none },
  { cls := 8, slots := #[.long (-34)], vm := .none },
  { cls := 8, slots := #[.long (-33)], vm := .none },
  { cls := 8, slots := #[.long (-32)], vm := .none },
  { cls := 8, slots := #[.long (-31)], vm := .none },
  { cls := 8, slots := #[.long (-30)], vm := .none },
  { cls := 8, slots := #[.long (-29)], vm := .none },
  { cls := 8, slots := #[.long (-28)], vm := .none },
  { cls := 8, slots := #[.long (-27)], vm := .none },
  { cls := 8, slots := #[.long (-26)], vm := .none },
  { cls := 8, slots := #[.long (-25)], vm := .none },
  { cls := 8, slots := #[.long (-24)], vm := .none },
  { cls := 8, slots := #[.long (-23)], vm := .none },
  { cls := 8, slots := #[.long (-22)], vm := .none },
  { cls := 8, slots := #[.long (-21)], vm := .none },
  { cls := 8, slots := #[.long (-20)], vm := .none },
  { cls := 8, slots := #[.long (-19)], vm := .none },
  { cls := 8, slots := #[.long (-18)], vm := .none },
  { cls := 8, slots := #[.long (-17)], vm := .none },
  { cls := 8, slots := #[.long (-16)], vm := .none },
  { cls := 8, slots := #[.long (-15)], vm := .none },
  { cls := 8, slots := #[.long (-14)], vm := .none },
  { cls := 8, slots := #[.long (-13)], vm := .none },
  { cls := 8, slots := #[.long (-12)], vm := .none },
  { cls := 8, slots := #[.long (-11)], vm := .none },
  { cls := 8, slots := #[.long (-10)], vm := .none },
  { cls := 8, slots := #[.long (-9)], vm := .none },
  { cls := 8, slots := #[.long (-8)], vm := .none },
  { cls := 8, slots := #[.long (-7)], vm := .none },
  { cls := 8, slots := #[.long (-6)], vm := .none },
  { cls := 8, slots := #[.long (-5)], vm := .none },
  { cls := 8, slots := #[.long (-4)], vm := .none },
  { cls := 8, slots := #[.long (-3)], vm := .none },
  { cls := 8, slots := #[.long (-2)], vm := .none },
  { cls := 8, slots := #[.long (-1)], vm := .none },
  { cls := 8, slots := #[.long (0)], vm := .none },
  { cls := 8, slots := #[.long (1)], vm := .none },
  { cls := 8, slots := #[.long (2)], vm := .none },
  { cls := 8, slots := #[.long (3)], vm := .none },
  { cls := 8, slots := #[.long (4)], vm := .none },
  { cls := 8, slots := #[.long (5)], vm := .none },
  { cls := 8, slots := #[.long (6)], vm := .none },
  { cls := 8, slots := #[.long (7)], vm := .none },
  { cls := 8, slots := #[.long (8)], vm := .none },
  { cls := 8, slots := #[.long (9)], vm := .none },
  { cls := 8, slots := #[.long (10)], vm := .none },
  { cls := 8, slots := #[.long (11)], vm := .none },
  { cls := 8, slots := #[.long (12)], vm := .none },
  { cls := 8, slots := #[.long (13)], vm := .none },
  { cls := 8, slots := #[.long (14)], vm := .none },
  { cls := 8, slots := #[.long (15)], vm := .none },
  { cls := 8, slots := #[.long (16)], vm := .none },
  { cls := 8, slots := #[.long (17)], vm := .none },
  { cls := 8, slots := #[.long (18)], vm := .none },
  { cls := 8, slots := #[.long (19)], vm := .none },
  { cls := 8, slots := #[.long (20)], vm := .none },
  { cls := 8, slots := #[.long (21)], vm := .none },
  { cls := 8, slots := #[.long (22)], vm := .none },
  { cls := 8, slots := #[.long (23)], vm := .none },
  { cls := 8, slots := #[.long (24)], vm := .none },
  { cls := 8, slots := #[.long (25)], vm := .none },
  { cls := 8, slots := #[.long (26)], vm := .none },
  { cls := 8, slots := #[.long (27)], vm := .none },
  { cls := 8, slots := #[.long (28)], vm := .none },
  { cls := 8, slots := #[.long (29)], vm := .none },
  { cls := 8, slots := #[.long (30)], vm := .none },
  { cls := 8, slots := #[.long (31)], vm := .none },
  { cls := 8, slots := #[.long (32)], vm := .none },
  { cls := 8, slots := #[.long (33)], vm := .none },
  { cls := 8, slots := #[.long (34)], vm := .none },
  { cls := 8, slots := #[.long (35)], vm := .none },
  { cls := 8, slots := #[.long (36)], vm := .none },
  { cls := 8, slots := #[.long (37)], vm := .none },
  { cls := 8, slots := #[.long (38)], vm := .none },
  { cls := 8, slots := #[.long (39)], vm := .none },
  { cls := 8, slots := #[.long (40)], vm := .none },
  { cls := 8, slots := #[.long (41)], vm := .none },
  { cls := 8, slots := #[.long (42)], vm := .none },
  { cls := 8, slots := #[.long (43)], vm := .none },
  { cls := 8, slots := #[.long (44)], vm := .none },
  { cls := 8, slots := #[.long (45)], vm := .none },
  { cls := 8, slots := #[.long (46)], vm := .none },
  { cls := 8, slots := #[.long (47)], vm := .none },
  { cls := 8, slots := #[.long (48)], vm := .none },
  { cls := 8, slots := #[.long (49)], vm := .none },
  { cls := 8, slots := #[.long (50)], vm := .none },
  { cls := 8, slots := #[.long (51)], vm := .none },
  { cls := 8, slots := #[.long (52)], vm := .none },
  { cls := 8, slots := #[.long (53)], vm := .none },
  { cls := 8, slots := #[.long (54)], vm := .none },
  { cls := 8, slots := #[.long (55)], vm := .none },
  { cls := 8, slots := #[.long (56)], vm := .none },
  { cls := 8, slots := #[.long (57)], vm := .none },
  { cls := 8, slots := #[.long (58)], vm := .none },
  { cls := 8, slots := #[.long (59)], vm := .none },
  { cls := 8, slots := #[.long (60)], vm := .none },
  { cls := 8, slots := #[.long (61)], vm := .none },
  { cls := 8, slots := #[.long (62)], vm := .none },
  { cls := 8, slots := #[.long (63)], vm := .none },
  { cls := 8, slots := #[.long (64)], vm := .none },
  { cls := 8, slots := #[.long (65)], vm := .none },
  { cls := 8, slots := #[.long (66)], vm := .none },
  { cls := 8, slots := #[.long (67)], vm := .none },
  { cls := 8, slots := #[.long (68)], vm := .none },
  { cls := 8, slots := #[.long (69)], vm := .none },
  { cls := 8, slots := #[.long (70)], vm := .none },
  { cls := 8, slots := #[.long (71)], vm := .none },
  { cls := 8, slots := #[.long (72)], vm := .none },
  { cls := 8, slots := #[.long (73)], vm := .none },
  { cls := 8, slots := #[.long (74)], vm := .none },
  { cls := 8, slots := #[.long (75)], vm := .none },
  { cls := 8, slots := #[.long (76)], vm := .none },
  { cls := 8, slots := #[.long (77)], vm := .none },
  { cls := 8, slots := #[.long (78)], vm := .none },
  { cls := 8, slots := #[.long (79)], vm := .none },
  { cls := 8, slots := #[.long (80)], vm := .none },
  { cls := 8, slots := #[.long (81)], vm := .none },
  { cls := 8, slots := #[.long (82)], vm := .none },
  { cls := 8, slots := #[.long (83)], vm := .none },
  { cls := 8, slots := #[.long (84)], vm := .none },
  { cls := 8, slots := #[.long (85)], vm := .none },
  { cls := 8, slots := #[.long (86)], vm := .none },
  { cls := 8, slots := #[.long (87)], vm := .none },
  { cls := 8, slots := #[.long (88)], vm := .none },
  { cls := 8, slots := #[.long (89)], vm := .none },
  { cls := 8, slots := #[.long (90)], vm := .none },
  { cls := 8, slots := #[.long (91)], vm := .none },
  { cls := 8, slots := #[.long (92)], vm := .none },
  { cls := 8, slots := #[.long (93)], vm := .none },
  { cls := 8, slots := #[.long (94)], vm := .none },
  { cls := 8, slots := #[.long (95)], vm := .none },
  { cls := 8, slots := #[.long (96)], vm := .none },
  { cls := 8, slots := #[.long (97)], vm := .none },
  { cls := 8, slots := #[.long (98)], vm := .none },
  { cls := 8, slots := #[.long (99)], vm := .none },
  { cls := 8, slots := #[.long (100)], vm := .none },
  { cls := 8, slots := #[.long (101)], vm := .none },
  { cls := 8, slots := #[.long (102)], vm := .none },
  { cls := 8, slots := #[.long (103)], vm := .none },
  { cls := 8, slots := #[.long (104)], vm := .none },
  { cls := 8, slots := #[.long (105)], vm := .none },
  { cls := 8, slots := #[.long (106)], vm := .none },
  { cls := 8, slots := #[.long (107)], vm := .none },
  { cls := 8, slots := #[.long (108)], vm := .none },
  { cls := 8, slots := #[.long (109)], vm := .none },
  { cls := 8, slots := #[.long (110)], vm := .none },
  { cls := 8, slots := #[.long (111)], vm := .none },
  { cls := 8, slots := #[.long (112)], vm := .none },
  { cls := 8, slots := #[.long (113)], vm := .none },
  { cls := 8, slots := #[.long (114)], vm := .none },
  { cls := 8, slots := #[.long (115)], vm := .none },
  { cls := 8, slots := #[.long (116)], vm := .none },
  { cls := 8, slots := #[.long (117)], vm := .none },
  { cls := 8, slots := #[.long (118)], vm := .none },
  { cls := 8, slots := #[.long (119)], vm := .none },
  { cls := 8, slots := #[.long (120)], vm := .none },
  { cls := 8, slots := #[.long (121)], vm := .none },
  { cls := 8, slots := #[.long (122)], vm := .none },
  { cls := 8, slots := #[.long (123)], vm := .none },
  { cls := 8, slots := #[.long (124)], vm := .none },
  { cls := 8, slots := #[.long (125)], vm := .none },
  { cls := 8, slots := #[.long (126)], vm := .none },
  { cls := 8, slots := #[.long (127)], vm := .none }]
def classes : Array Class := #[k0, k1, k2, k3, k4, k5, k6, k7, k8, k9, k10, k11, k12, k13, k14, k15]
def interned : List (Array UInt16 × Addr) := []
def slotsUsed : Nat := 515
def theMethod : MethodId := ⟨1, 1⟩
def args0 : Array Value := #[.long 1, .long 2, .long 3, .long 4, .long 5, .int 7]
def aboutOver (below : List Frame) : State where
  vm := { classes := classes, interned := interned.toArray }
  heap := heap
  slotsUsed := slotsUsed
  threads := #[{ frames := .invoking theMethod args0 :: below }]
def below0 : List Frame := [.native { method := ⟨0, 0⟩, args := #[] }]
def about1 : State := aboutOver below0
def p0 : Program := .bare "" "" ""
def e0 : Env := launch0.env 0 0 0
theorem w_frames : about1.frames = Frame.invoking theMethod args0 :: below0 := rfl
set_option maxRecDepth 65536 in
theorem w_args : argsFit about1.vm theMethod args0 = true := by decide +kernel
set_option maxRecDepth 65536 in
theorem w_heap : heapFits about1 = true := by decide +kernel
set_option maxRecDepth 65536 in
theorem w_runnable : about1.curStatus? = some .runnable := by decide +kernel
set_option maxRecDepth 65536 in
theorem w_alone : about1.alone = true := by decide +kernel
set_option maxRecDepth 65536 in
theorem w_named : about1.methodNamed? x = some theMethod := by decide +kernel
set_option maxRecDepth 65536 in
theorem w_hears : about1.hears theMethod below0 = true := by decide +kernel
set_option maxRecDepth 65536 in
theorem w_ripe : about1.ripe theMethod args0 below0 = true := by decide +kernel
theorem w_running : about1.status = .running := rfl
set_option maxRecDepth 65536 in
theorem w_room : about1.hasRoom e0.platform room_1 = true :=
  launch0.hasRoom_least _ room_1 (by decide +kernel) (by decide +kernel) (by decide +kernel) (by decide +kernel) (by decide +kernel) (by decide +kernel)
theorem allAtoms_all (ts : List Jvm.Cond) (a : Array Jvm.Value) (st : Jvm.State) : (allAtoms ts).before a st = ts.all (fun c => c.before a st) := by
  induction ts with
  | nil => rfl
  | cons c t ih =>
    show (Jvm.Cond.and c (allAtoms t)).before a st = _
    rw [Jvm.Cond.before_and, ih, List.all_cons]
def words1 : List Jvm.Cond := Jvm.Cond.code x code maxLocals ret :: tables_1
/-- a 'code' word, met by the world's own term for the bytes: nothing is compared byte by byte -/
theorem code_word {y : MethodName} {bytes : ByteArray} {mx : Nat} {rt : Option FieldType} {a : Array Value} {s : State} {m : MethodId} {meth : Method} {c : Code} (h1 : s.methodNamed? y = some m) (h2 : s.vm.method? m = some meth) (h3 : meth.code = some c) (h4 : c.code = bytes)
    (h5 : (c.maxLocals == mx && c.exceptionTable.isEmpty && decide (c.maxStack ≤ mostOperands) && decide (meth.sig.returnType = rt) && !meth.locks && decide (parseMethodDescriptor y.desc = some meth.sig)) = true) : (Jvm.Cond.code y bytes mx rt).before a s = true := by
  simp only [Bool.and_eq_true, beq_iff_eq, Bool.not_eq_true', decide_eq_true_eq] at h5
  obtain ⟨⟨⟨⟨⟨g1, g2⟩, g3⟩, g4⟩, g5⟩, g6⟩ := h5
  simp [Cond.before, Cond.holds, Cond.value, h1, h2, h3, h4, g1, g2, g3, g4, g5, g6]
def isCode : Jvm.Cond → Bool
  | .code _ _ _ _ => true
  | _ => false
theorem all_split {L : List Jvm.Cond} {P : Jvm.Cond → Bool} (h1 : L.all (fun c => isCode c || P c) = true) (h2 : ∀ c ∈ L.filter isCode, P c = true) : L.all P = true := by
  refine List.all_eq_true.mpr fun c hc => ?_
  have h := List.all_eq_true.mp h1 c hc
  rcases Bool.eq_false_or_eq_true (isCode c) with hi | hi
  · exact h2 c (List.mem_filter.mpr ⟨hc, hi⟩)
  · simpa [hi] using h
set_option maxRecDepth 65536 in
theorem w_c0 : (Jvm.Cond.code x code maxLocals ret).before args0 about1 = true := code_word (m := ⟨1, 1⟩) (meth := k1m1) (c := k1c1) (by decide +kernel) rfl rfl rfl (by decide +kernel)
set_option maxRecDepth 65536 in
theorem w_c1 : (Jvm.Cond.code ({ cls := "com/example/ingest_to_invoice/ingesttoinvoice/rating/Tax$Totals", name := "<init>", desc := "(JJJ)V" } : Jvm.MethodName) prog_44_method_1_code (7 : Nat) (Option.none : Option Jvm.ClassFile.FieldType)).before args0 about1 = true := code_word (m := ⟨2, 0⟩) (meth := k2m0) (c := k2c0) (by decide +kernel) rfl rfl rfl (by decide +kernel)
set_option maxRecDepth 65536 in
theorem w_c2 : (Jvm.Cond.code ({ cls := "java/lang/Object", name := "<init>", desc := "()V" } : Jvm.MethodName) object_method_1_code (1 : Nat) (Option.none : Option Jvm.ClassFile.FieldType)).before args0 about1 = true := code_word (m := ⟨0, 0⟩) (meth := k0m0) (c := k0c0) (by decide +kernel) rfl rfl rfl (by decide +kernel)
set_option maxRecDepth 65536 in
theorem w_c3 : (Jvm.Cond.code ({ cls := "com/example/ingest_to_invoice/ingesttoinvoice/rating/Tax$Totals", name := "equals", desc := "(Ljava/lang/Object;)Z" } : Jvm.MethodName) prog_44_method_6_code (2 : Nat) (Option.some Jvm.ClassFile.FieldType.boolean)).before args0 about1 = true := code_word (m := ⟨2, 1⟩) (meth := k2m1) (c := k2c1) (by decide +kernel) rfl rfl rfl (by decide +kernel)
set_option maxRecDepth 65536 in
theorem w_c4 : (Jvm.Cond.code ({ cls := "java/lang/Long", name := "valueOf", desc := "(J)Ljava/lang/Long;" } : Jvm.MethodName) jdk_35_method_24_code (3 : Nat) (Option.some (Jvm.ClassFile.FieldType.object "java/lang/Long"))).before args0 about1 = true := code_word (m := ⟨8, 0⟩) (meth := k8m0) (c := k8c0) (by decide +kernel) rfl rfl rfl (by decide +kernel)
set_option maxRecDepth 65536 in
theorem w_c5 : (Jvm.Cond.code ({ cls := "java/lang/Long", name := "<init>", desc := "(J)V" } : Jvm.MethodName) jdk_35_method_26_code (3 : Nat) (Option.none : Option Jvm.ClassFile.FieldType)).before args0 about1 = true := code_word (m := ⟨8, 1⟩) (meth := k8m1) (c := k8c1) (by decide +kernel) rfl rfl rfl (by decide +kernel)
set_option maxRecDepth 65536 in
theorem w_c6 : (Jvm.Cond.code ({ cls := "java/lang/Number", name := "<init>", desc := "()V" } : Jvm.MethodName) jdk_18_method_1_code (1 : Nat) (Option.none : Option Jvm.ClassFile.FieldType)).before args0 about1 = true := code_word (m := ⟨4, 0⟩) (meth := k4m0) (c := k4c0) (by decide +kernel) rfl rfl rfl (by decide +kernel)
def codes1 : List Jvm.Cond := [Jvm.Cond.code x code maxLocals ret, Jvm.Cond.code ({ cls := "com/example/ingest_to_invoice/ingesttoinvoice/rating/Tax$Totals", name := "<init>", desc := "(JJJ)V" } : Jvm.MethodName) prog_44_method_1_code (7 : Nat) (Option.none : Option Jvm.ClassFile.FieldType), Jvm.Cond.code ({ cls := "java/lang/Object", name := "<init>", desc := "()V" } : Jvm.MethodName) object_method_1_code (1 : Nat) (Option.none : Option Jvm.ClassFile.FieldType), Jvm.Cond.code ({ cls := "com/example/ingest_to_invoice/ingesttoinvoice/rating/Tax$Totals", name := "equals", desc := "(Ljava/lang/Object;)Z" } : Jvm.MethodName) prog_44_method_6_code (2 : Nat) (Option.some Jvm.ClassFile.FieldType.boolean), Jvm.Cond.code ({ cls := "java/lang/Long", name := "valueOf", desc := "(J)Ljava/lang/Long;" } : Jvm.MethodName) jdk_35_method_24_code (3 : Nat) (Option.some (Jvm.ClassFile.FieldType.object "java/lang/Long")), Jvm.Cond.code ({ cls := "java/lang/Long", name := "<init>", desc := "(J)V" } : Jvm.MethodName) jdk_35_method_26_code (3 : Nat) (Option.none : Option Jvm.ClassFile.FieldType), Jvm.Cond.code ({ cls := "java/lang/Number", name := "<init>", desc := "()V" } : Jvm.MethodName) jdk_18_method_1_code (1 : Nat) (Option.none : Option Jvm.ClassFile.FieldType)]
set_option maxRecDepth 65536 in
theorem codes_eq : words1.filter isCode = codes1 := rfl
theorem w_codes : ∀ c ∈ words1.filter isCode, c.before args0 about1 = true := by
  rw [codes_eq]
  intro c hc
  simp only [codes1, List.mem_cons, List.not_mem_nil, or_false] at hc
  rcases hc with rfl | rfl | rfl | rfl | rfl | rfl | rfl
  · exact w_c0
  · exact w_c1
  · exact w_c2
  · exact w_c3
  · exact w_c4
  · exact w_c5
  · exact w_c6
set_option maxRecDepth 65536 in
theorem w_t1 : (words1.take 24).all (fun c => isCode c || c.before args0 about1) = true := by decide +kernel
set_option maxRecDepth 65536 in
theorem w_t2 : ((words1.drop 24).take 24).all (fun c => isCode c || c.before args0 about1) = true := by decide +kernel
set_option maxRecDepth 65536 in
theorem w_t3 : ((words1.drop 24).drop 24).all (fun c => isCode c || c.before args0 about1) = true := by decide +kernel
theorem w_tables : (allAtoms (Jvm.Cond.code x code maxLocals ret :: tables_1)).before args0 about1 = true := by
  rw [allAtoms_all]
  show words1.all (fun c => c.before args0 about1) = true
  refine all_split ?_ w_codes
  rw [← List.take_append_drop 24 words1, List.all_append, w_t1, ← List.take_append_drop 24 (words1.drop 24), List.all_append, w_t2, w_t3]
  rfl
set_option maxRecDepth 65536 in
theorem w_rest : rest_1_c.before args0 about1 = true := by decide +kernel
set_option maxRecDepth 65536 in
theorem w_case : (Jvm.Cond.and given_1 narrow_1).before args0 about1 = true := by decide +kernel
theorem w_applies : (headSpec (Jvm.Cond.code x code maxLocals ret :: tables_1) room_1).applies x e0.platform about1 = true :=
  (Spec.applies_iff w_frames).mpr ⟨w_running, w_runnable, w_alone, w_named, w_hears, w_ripe, w_room, w_tables⟩
theorem atStart : AtStart classFile x code maxLocals ret World_1 tables_1 room_1 Calls_1 rest_1 Pre_1 launch0 p0 e0 about1 theMethod args0 below0 :=
  ⟨lists_1, trivial, launch0.admits_env _ _ _, launch0.least_env, fairChoices_fair.cas, fairChoices_fair.clock, w_frames, w_args, w_heap, w_applies, trivial, w_rest, w_case⟩
end start1
theorem witness_1 : WitnessClaimed_1 := ⟨start1.p0, start1.e0, start1.about1, start1.theMethod, start1.args0, start1.below0, start1.atStart⟩
end Jvm.Pilot.@@N@@
