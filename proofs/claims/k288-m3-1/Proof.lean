import JvmDerived
import JvmDerived.Pilot.@@N@@Statement
import JvmDerived.Pilot.@@N@@Code
set_option linter.unusedVariables false
set_option linter.unusedSimpArgs false
namespace Jvm.Pilot.@@N@@
open Jvm Jvm.ClassFile Sem Op Lib Jvm.Free Jvm.Stand Jvm.LawKit Jvm.RoadKit Bundle Jvm.Pilot.@@N@@.Jvm.D
section Own
variable {p : Program} {l : Launch} {e : Env} {R : Room} {s : State} {m : MethodId} {args : Array Value} {below : List Frame} {meth : Method} {c : Code} {T : State} {locs : List Loc} {cells slots : Nat} {Z : State} {a0 : Array Value} {h : Heap}
/-- from this frame on the run ends, and P holds at the end -/
def own_Go (p : Program) (e : Env) (below : List Frame) (P : Outcome → State → Prop) (T : State) (f : JFrame) : Prop :=
  ∃ s₂ o, Steps p.tables e below (T.setTop f) s₂ ∧ s₂.status = .running ∧ Ended s₂ below o ∧ P o s₂
theorem own_go {P : Outcome → State → Prop} {T T' : State} {f f' : JFrame} (st : ∀ target, Steps p.tables e below (T'.setTop f') target → Steps p.tables e below (T.setTop f) target) (hg : own_Go p e below P T' f') : own_Go p e below P T f := by
  obtain ⟨s₂, o, h1, h2⟩ := hg
  exact ⟨s₂, o, st _ h1, h2⟩
/-- what a contract says of the end -/
def own_P (Q : Option Value → Heap → List Loc → Prop) (rm : Room) (s : State) (o : Outcome) (U : State) : Prop :=
  ∃ v L, o = .returned v ∧ Q v U.heap L ∧ FrameEnd s o U L rm.cells rm.slots
/-- a contract of a body that writes nothing and returns v -/
def own_pure (v : Option Value) (h0 : Heap) (n0 : Nat) (w : Option Value) (h : Heap) (L : List Loc) : Prop := w = v ∧ Fr n0 L ∧ h = h0
/-- a contract's word, held together -/
def own_R (Q : Option Value → Heap → List Loc → Prop) : Option Value → Heap → List Loc → Prop := Q
theorem own_endZ {Q : Option Value → Heap → List Loc → Prop} (X : Stand p l e R s m args below meth c T locs cells slots) (hx : p.tables.exec = Jvm.exec) (hret : meth.sig.returnType = some .boolean) (hlk : meth.locks = false) {pc : Nat} {Ls : Array Slot} {z : Int32} {rest : List Value}
    (hd : decode c.code pc = .ok (.ireturn, 1)) (hn : narrow .boolean (.int z) = .int z) (hc : cells ≤ R.cells) (hs : slots ≤ R.slots) (hQ : Q (some (.int z)) T.heap locs) : own_Go p e below (own_P Q R s) T (mkF m pc Ls (.int z :: rest)) := by
  obtain ⟨fs, hr, hrun, hended, hW, hsame⟩ := X.leave (v := some (.int z)) (fun h => by rw [hret] at h; cases h) hlk
  exact ⟨_, _, retOut X hx hret hn (Or.inl ⟨rfl, Or.inr (Or.inl rfl), z, rfl⟩) hd hr, hrun, hended, _, _, rfl, hQ, ⟨_, rfl⟩, hW, hsame.mono hc hs⟩
theorem own_endI {Q : Option Value → Heap → List Loc → Prop} (X : Stand p l e R s m args below meth c T locs cells slots) (hx : p.tables.exec = Jvm.exec) (hret : meth.sig.returnType = some .int) (hlk : meth.locks = false) {pc : Nat} {Ls : Array Slot} {z : Int32} {rest : List Value}
    (hd : decode c.code pc = .ok (.ireturn, 1)) (hc : cells ≤ R.cells) (hs : slots ≤ R.slots) (hQ : Q (some (.int z)) T.heap locs) : own_Go p e below (own_P Q R s) T (mkF m pc Ls (.int z :: rest)) := by
  obtain ⟨fs, hr, hrun, hended, hW, hsame⟩ := X.leave (v := some (.int z)) (fun h => by rw [hret] at h; cases h) hlk
  exact ⟨_, _, retOut X hx hret rfl (Or.inl ⟨rfl, Or.inl rfl, z, rfl⟩) hd hr, hrun, hended, _, _, rfl, hQ, ⟨_, rfl⟩, hW, hsame.mono hc hs⟩
theorem own_endJ {Q : Option Value → Heap → List Loc → Prop} (X : Stand p l e R s m args below meth c T locs cells slots) (hx : p.tables.exec = Jvm.exec) (hret : meth.sig.returnType = some .long) (hlk : meth.locks = false) {pc : Nat} {Ls : Array Slot} {z : Int64} {rest : List Value}
    (hd : decode c.code pc = .ok (.lreturn, 1)) (hc : cells ≤ R.cells) (hs : slots ≤ R.slots) (hQ : Q (some (.long z)) T.heap locs) : own_Go p e below (own_P Q R s) T (mkF m pc Ls (.long z :: rest)) := by
  obtain ⟨fs, hr, hrun, hended, hW, hsame⟩ := X.leave (v := some (.long z)) (fun h => by rw [hret] at h; cases h) hlk
  exact ⟨_, _, retOut X hx hret rfl (Or.inr (Or.inl ⟨rfl, rfl, z, rfl⟩)) hd hr, hrun, hended, _, _, rfl, hQ, ⟨_, rfl⟩, hW, hsame.mono hc hs⟩
theorem own_endA {Q : Option Value → Heap → List Loc → Prop} {t : FieldType} (X : Stand p l e R s m args below meth c T locs cells slots) (hx : p.tables.exec = Jvm.exec) (hret : meth.sig.returnType = some t) (ht : t.isReference = true) (hlk : meth.locks = false) {pc : Nat} {Ls : Array Slot} {a : Addr} {rest : List Value}
    (hd : decode c.code pc = .ok (.areturn, 1)) (hn : narrow t (.ref a) = .ref a) (hc : cells ≤ R.cells) (hs : slots ≤ R.slots) (hQ : Q (some (.ref a)) T.heap locs) : own_Go p e below (own_P Q R s) T (mkF m pc Ls (.ref a :: rest)) := by
  obtain ⟨fs, hr, hrun, hended, hW, hsame⟩ := X.leave (v := some (.ref a)) (fun h => by rw [hret] at h; cases h) hlk
  exact ⟨_, _, retOut X hx hret hn (Or.inr (Or.inr (Or.inr (Or.inr ⟨rfl, ht, rfl⟩)))) hd hr, hrun, hended, _, _, rfl, hQ, ⟨_, rfl⟩, hW, hsame.mono hc hs⟩
theorem own_endV {Q : Option Value → Heap → List Loc → Prop} (X : Stand p l e R s m args below meth c T locs cells slots) (hx : p.tables.exec = Jvm.exec) (hret : meth.sig.returnType = none) (hlk : meth.locks = false) {pc : Nat} {Ls : Array Slot}
    (hd : decode c.code pc = .ok (.return_, 1)) (hc : cells ≤ R.cells) (hs : slots ≤ R.slots) (hQ : Q none T.heap locs) : own_Go p e below (own_P Q R s) T (mkF m pc Ls []) := by
  obtain ⟨fs, hr, hrun, hended, hW, hsame⟩ := X.leave (v := none) (fun _ => rfl) hlk
  exact ⟨_, _, X.returnOut hx hret hd hr, hrun, hended, _, _, rfl, hQ, ⟨_, rfl⟩, hW, hsame.mono hc hs⟩
/-- a static call, paid by the callee's contract -/
theorem own_callS (X : Stand p l e R s m args below meth c T locs cells slots) (hx : p.tables.exec = Jvm.exec) (hZ : Z.Warmed39 s.vm) {own : String} {index : Nat} {y : MethodName} {bytes : ByteArray} {maxL : Nat} {ret : Option FieldType} (hown : s.vm.findClass own = some m.cls)
    (w1 : (Cond.methodLink own index y).before a0 Z = true) (w2 : (Cond.static y).before a0 Z = true) (w3 : (Cond.initialized y.cls).before a0 Z = true) (w4 : (Cond.code y bytes maxL ret).before a0 Z = true) (hy : y.cls ≠ "java/lang/invoke/MethodHandle" ∧ y.cls ≠ "java/lang/invoke/VarHandle")
    {rm : Room} {as' : Array Value} {Q : Option Value → Heap → List Loc → Prop}
    (hM : MetFree l y (head1 [Cond.code y bytes maxL ret] rm) (fun a U => a = as' ∧ Z.Warmed39 U.vm ∧ U.heap = h) (fun _ _ _ _ _ => True) (fun _ U o U' => ∃ v L, o = .returned v ∧ Q v U'.heap L ∧ FrameEnd U o U' L rm.cells rm.slots))
    {Ls : Array Slot} {st : List Value} {W : Nat} (hf : rm.frames + 1 ≤ R.frames) (hl : W + (maxL + 11) + rm.locals ≤ R.locals) {pc : Nat} (hsize : Ls.size = c.maxLocals) {argsL rest : List Value} (hlen : ∀ sig, parseMethodDescriptor y.desc = some sig → argsL.length = sig.parameters.length)
    (has : argsL.toArray = as') (hstack : st = argsL.reverse ++ rest) (hW : (rest.map fun v => v.category).sum ≤ W) (hd : decode c.code pc = .ok (.invokestatic index, 3)) (eT : T.heap = h) (hc : cells + rm.cells ≤ R.cells) (hs : slots + rm.slots ≤ R.slots) :
    ∃ T' v L, Stand p l e R s m args below meth c T' (locs ++ L) (cells + rm.cells) (slots + rm.slots) ∧ Q v T'.heap L ∧ ∀ target, Steps p.tables e below (T'.setTop (mkF m (pc + 3) Ls (v.toList ++ rest))) target → Steps p.tables e below (T.setTop (mkF m pc Ls st)) target := by
  obtain ⟨v, _, ⟨T', L', k', n'⟩, -, X', ⟨L, hQ, l1, l2, l3⟩, st'⟩ := Jvm.LawKit.callS X hx (y := y) hown (mvT hZ w1) (mvT hZ w2) (mvT hZ w3) (mvT hZ w4) hy (backOf (W := W) hM hZ w4 w3 hf hl) (g := mkF m pc Ls st) rfl hsize (argsL := argsL) (rest := rest) hlen hstack (by show 2 * 0 + _ ≤ _; omega) hd (fun _ _ => ⟨has, eT, hc, hs⟩)
  dsimp only [Pt.U, Pt.locs, Pt.cells, Pt.slots] at X' l1 l2 l3 st' hQ
  subst l1 l2 l3
  exact ⟨T', v, L, X', hQ, st'⟩
/-- a constructor's call, paid by its contract -/
theorem own_callC (X : Stand p l e R s m args below meth c T locs cells slots) (hx : p.tables.exec = Jvm.exec) (hZ : Z.Warmed39 s.vm) {own : String} {index : Nat} {y : MethodName} {bytes : ByteArray} {maxL : Nat} (hy1 : y.name = "<init>") (hown : s.vm.findClass own = some m.cls)
    (w1 : (Cond.methodLink own index y).before a0 Z = true) (w2 : (Cond.instanceMethod y).before a0 Z = true) (w3 : (Cond.initialized y.cls).before a0 Z = true) (w4 : (Cond.code y bytes maxL none).before a0 Z = true) (hy : y.cls ≠ "java/lang/invoke/MethodHandle" ∧ y.cls ≠ "java/lang/invoke/VarHandle")
    {rm : Room} {as' : Array Value} {Q : Option Value → Heap → List Loc → Prop}
    (hM : MetFree l y (head1 [Cond.code y bytes maxL none] rm) (fun a U => a = as' ∧ Z.Warmed39 U.vm ∧ U.heap = h) (fun _ _ _ _ _ => True) (fun _ U o U' => ∃ v L, o = .returned v ∧ Q v U'.heap L ∧ FrameEnd U o U' L rm.cells rm.slots))
    {Ls : Array Slot} {st : List Value} {W : Nat} (hf : rm.frames + 1 ≤ R.frames) (hl : W + (maxL + 11) + rm.locals ≤ R.locals) {pc : Nat} (hsize : Ls.size = c.maxLocals) {a : Addr} {argsL rest : List Value} (hlen : ∀ sig, parseMethodDescriptor y.desc = some sig → argsL.length = sig.parameters.length)
    (has : (.ref a :: argsL).toArray = as') (hstack : st = argsL.reverse ++ .ref a :: rest) (hW : (rest.map fun v => v.category).sum ≤ W) (hd : decode c.code pc = .ok (.invokespecial index, 3)) (eT : T.heap = h) (hc : cells + rm.cells ≤ R.cells) (hs : slots + rm.slots ≤ R.slots) :
    ∃ T' v L, Stand p l e R s m args below meth c T' (locs ++ L) (cells + rm.cells) (slots + rm.slots) ∧ Q v T'.heap L ∧ ∀ target, Steps p.tables e below (T'.setTop (mkF m (pc + 3) Ls (v.toList ++ rest))) target → Steps p.tables e below (T.setTop (mkF m pc Ls st)) target := by
  obtain ⟨v, _, ⟨T', L', k', n'⟩, -, X', ⟨L, hQ, l1, l2, l3⟩, st'⟩ := X.specialBack hx (y := y) hy1 hown (mvT hZ w1) (mvT hZ w2) (mvT hZ w4) hy (backOf (W := W) hM hZ w4 w3 hf hl) (g := mkF m pc Ls st) rfl hsize (Steps.refl _) (a := a) (argsL := argsL) (rest := rest) hlen hstack (by show 2 * 0 + _ ≤ _; omega) hd (fun _ _ => ⟨has, eT, hc, hs⟩)
  dsimp only [Pt.U, Pt.locs, Pt.cells, Pt.slots] at X' l1 l2 l3 st' hQ
  subst l1 l2 l3
  exact ⟨T', v, L, X', hQ, fun _ k => st'.trans k⟩
/-- an instance method's call, paid by its contract -/
theorem own_callV (X : Stand p l e R s m args below meth c T locs cells slots) (hx : p.tables.exec = Jvm.exec) (hZ : Z.Warmed39 s.vm) {own : String} {index : Nat} {y : MethodName} {bytes : ByteArray} {maxL : Nat} {ret : Option FieldType} (hown : s.vm.findClass own = some m.cls)
    (w1 : (Cond.methodLink own index y).before a0 Z = true) (w2 : (Cond.declares y).before a0 Z = true) (w5 : (Cond.selects y.cls y y).before a0 Z = true) (w6 : (Cond.instanceMethod y).before a0 Z = true) (w3 : (Cond.initialized y.cls).before a0 Z = true) (w4 : (Cond.code y bytes maxL ret).before a0 Z = true) (hy : y.cls ≠ "java/lang/invoke/MethodHandle" ∧ y.cls ≠ "java/lang/invoke/VarHandle")
    {rm : Room} {as' : Array Value} {Q : Option Value → Heap → List Loc → Prop}
    (hM : MetFree l y (head1 [Cond.code y bytes maxL ret] rm) (fun a U => a = as' ∧ Z.Warmed39 U.vm ∧ U.heap = h) (fun _ _ _ _ _ => True) (fun _ U o U' => ∃ v L, o = .returned v ∧ Q v U'.heap L ∧ FrameEnd U o U' L rm.cells rm.slots))
    {a : Addr} (E : Exa Z h a y.cls)
    {Ls : Array Slot} {st : List Value} {W : Nat} (hf : rm.frames + 1 ≤ R.frames) (hl : W + (maxL + 11) + rm.locals ≤ R.locals) {pc : Nat} (hsize : Ls.size = c.maxLocals) {argsL rest : List Value} (hlen : ∀ sig, parseMethodDescriptor y.desc = some sig → argsL.length = sig.parameters.length)
    (has : (.ref a :: argsL).toArray = as') (hstack : st = argsL.reverse ++ .ref a :: rest) (hW : (rest.map fun v => v.category).sum ≤ W) (hd : decode c.code pc = .ok (.invokevirtual index, 3)) (eT : T.heap = h) (hc : cells + rm.cells ≤ R.cells) (hs : slots + rm.slots ≤ R.slots) :
    ∃ T' v L, Stand p l e R s m args below meth c T' (locs ++ L) (cells + rm.cells) (slots + rm.slots) ∧ Q v T'.heap L ∧ ∀ target, Steps p.tables e below (T'.setTop (mkF m (pc + 3) Ls (v.toList ++ rest))) target → Steps p.tables e below (T.setTop (mkF m pc Ls st)) target := by
  obtain ⟨cq, kq, qa, qb, qc⟩ := isOf hZ eT E
  obtain ⟨v, _, ⟨T', L', k', n'⟩, -, X', ⟨L, hQ, l1, l2, l3⟩, st'⟩ := X.virtualBack hx (y := y) (z := y) hown (mvT hZ w1) (mvT hZ w2) (notFace_of_selects (args := #[]) (mvT hZ w5)) (mvT hZ w5) (mvT hZ w6) hy (backOf (W := W) hM hZ w4 w3 hf hl) qa qc (g := mkF m pc Ls st) rfl hsize (Steps.refl _) (argsL := argsL) (rest := rest) hlen hstack (by show 2 * 0 + _ ≤ _; omega) hd (fun _ _ => ⟨has, eT, hc, hs⟩)
  dsimp only [Pt.U, Pt.locs, Pt.cells, Pt.slots] at X' l1 l2 l3 st' hQ
  subst l1 l2 l3
  exact ⟨T', v, L, X', hQ, fun _ k => st'.trans k⟩
/-- a private instance method's call by invokevirtual, paid by its contract; that the class is no interface, another method's 'selects' word says -/
theorem own_callP (X : Stand p l e R s m args below meth c T locs cells slots) (hx : p.tables.exec = Jvm.exec) (hZ : Z.Warmed39 s.vm) {own : String} {index : Nat} {y z : MethodName} {bytes : ByteArray} {maxL : Nat} {ret : Option FieldType} (hown : s.vm.findClass own = some m.cls)
    (w1 : (Cond.methodLink own index y).before a0 Z = true) (wp : (Cond.privateMethod y).before a0 Z = true) (w5 : (Cond.selects y.cls z z).before a0 Z = true) (hz : z.cls = y.cls) (w6 : (Cond.instanceMethod y).before a0 Z = true) (w3 : (Cond.initialized y.cls).before a0 Z = true) (w4 : (Cond.code y bytes maxL ret).before a0 Z = true) (hy : y.cls ≠ "java/lang/invoke/MethodHandle" ∧ y.cls ≠ "java/lang/invoke/VarHandle")
    {rm : Room} {as' : Array Value} {Q : Option Value → Heap → List Loc → Prop}
    (hM : MetFree l y (head1 [Cond.code y bytes maxL ret] rm) (fun a U => a = as' ∧ Z.Warmed39 U.vm ∧ U.heap = h) (fun _ _ _ _ _ => True) (fun _ U o U' => ∃ v L, o = .returned v ∧ Q v U'.heap L ∧ FrameEnd U o U' L rm.cells rm.slots))
    {a : Addr} (E : Exa Z h a y.cls)
    {Ls : Array Slot} {st : List Value} {W : Nat} (hf : rm.frames + 1 ≤ R.frames) (hl : W + (maxL + 11) + rm.locals ≤ R.locals) {pc : Nat} (hsize : Ls.size = c.maxLocals) {argsL rest : List Value} (hlen : ∀ sig, parseMethodDescriptor y.desc = some sig → argsL.length = sig.parameters.length)
    (has : (.ref a :: argsL).toArray = as') (hstack : st = argsL.reverse ++ .ref a :: rest) (hW : (rest.map fun v => v.category).sum ≤ W) (hd : decode c.code pc = .ok (.invokevirtual index, 3)) (eT : T.heap = h) (hc : cells + rm.cells ≤ R.cells) (hs : slots + rm.slots ≤ R.slots) :
    ∃ T' v L, Stand p l e R s m args below meth c T' (locs ++ L) (cells + rm.cells) (slots + rm.slots) ∧ Q v T'.heap L ∧ ∀ target, Steps p.tables e below (T'.setTop (mkF m (pc + 3) Ls (v.toList ++ rest))) target → Steps p.tables e below (T.setTop (mkF m pc Ls st)) target := by
  have hpriv : s.PrivateAt y := Cond.privateMethod_at (mvP hZ wp (args := #[]))
  obtain ⟨c2, r2, m2, q1, q2, q3, q4, kP, hkP, hkPi⟩ := Cond.selects_spec (show (Cond.selects y.cls z z).before args s = true from mvT hZ w5)
  have hcl : s.vm.findClass y.cls = some m2.cls := by rw [← hz]; exact findClass_of_methodNamed q3
  have hsel := selects_self_of_private (args := args) hcl hkP hkPi hpriv (mvT hZ w6) hy
  obtain ⟨cell, hcell, hobj⟩ := E.cell
  obtain ⟨v, _, ⟨T', L', k', n'⟩, -, X', ⟨L, hQ, l1, l2, l3⟩, st'⟩ := X.privateBack hx (y := y) hown (mvT hZ w1) (mvT hZ w6) hsel hpriv (mvT hZ w4) hy (backOf (W := W) hM hZ w4 w3 hf hl) (g := mkF m pc Ls st) rfl hsize (Steps.refl _) (a := a) (by rw [eT]; exact hcell) hobj (argsL := argsL) (rest := rest) hlen hstack (by show 2 * 0 + _ ≤ _; omega) hd (fun _ _ => ⟨has, eT, hc, hs⟩)
  dsimp only [Pt.U, Pt.locs, Pt.cells, Pt.slots] at X' l1 l2 l3 st' hQ
  subst l1 l2 l3
  exact ⟨T', v, L, X', hQ, fun _ k => st'.trans k⟩
end Own
theorem pd_0 : parseMethodDescriptor "(JJ)J" = some ⟨[.long, .long], some .long⟩ := by decide +kernel
theorem pn_0 : plainName "com/example/vestledger/vestledger/accounts/FixedPoint" = true := by first | (simp [plainName, overriddenIn]; done) | decide +kernel
theorem pn_1 : plainName "com/example/vestledger/vestledger/accounts/FixedPointDivideHalfUpPinLaw" = true := by first | (simp [plainName, overriddenIn]; done) | decide +kernel
theorem d1_0 : decode prog_16_method_4_code 0 = .ok (.lload_n 0, 1) := by decide +kernel
theorem d1_1 : decode prog_16_method_4_code 1 = .ok (.lconst 0, 1) := by decide +kernel
theorem d1_2 : decode prog_16_method_4_code 2 = .ok (.lcmp, 1) := by decide +kernel
theorem d1_3 : decode prog_16_method_4_code 3 = .ok (.ifCond .ge 18, 3) := by decide +kernel
theorem d1_21 : decode prog_16_method_4_code 21 = .ok (.lload_n 0, 1) := by decide +kernel
theorem d1_22 : decode prog_16_method_4_code 22 = .ok (.lload_n 2, 1) := by decide +kernel
theorem d1_23 : decode prog_16_method_4_code 23 = .ok (.ldiv, 1) := by decide +kernel
theorem d1_24 : decode prog_16_method_4_code 24 = .ok (.lstore 4, 2) := by decide +kernel
theorem d1_26 : decode prog_16_method_4_code 26 = .ok (.lload_n 0, 1) := by decide +kernel
theorem d1_27 : decode prog_16_method_4_code 27 = .ok (.lload_n 2, 1) := by decide +kernel
theorem d1_28 : decode prog_16_method_4_code 28 = .ok (.lrem, 1) := by decide +kernel
theorem d1_29 : decode prog_16_method_4_code 29 = .ok (.lstore 6, 2) := by decide +kernel
theorem d1_31 : decode prog_16_method_4_code 31 = .ok (.lload 6, 2) := by decide +kernel
theorem d1_33 : decode prog_16_method_4_code 33 = .ok (.lload_n 2, 1) := by decide +kernel
theorem d1_34 : decode prog_16_method_4_code 34 = .ok (.lload 6, 2) := by decide +kernel
theorem d1_36 : decode prog_16_method_4_code 36 = .ok (.lsub, 1) := by decide +kernel
theorem d1_37 : decode prog_16_method_4_code 37 = .ok (.lcmp, 1) := by decide +kernel
theorem d1_38 : decode prog_16_method_4_code 38 = .ok (.ifCond .lt 10, 3) := by decide +kernel
theorem d1_41 : decode prog_16_method_4_code 41 = .ok (.lload 4, 2) := by decide +kernel
theorem d1_43 : decode prog_16_method_4_code 43 = .ok (.lconst 1, 1) := by decide +kernel
theorem d1_44 : decode prog_16_method_4_code 44 = .ok (.ladd, 1) := by decide +kernel
theorem d1_45 : decode prog_16_method_4_code 45 = .ok (.goto 5, 3) := by decide +kernel
theorem d1_48 : decode prog_16_method_4_code 48 = .ok (.lload 4, 2) := by decide +kernel
theorem d1_50 : decode prog_16_method_4_code 50 = .ok (.lreturn, 1) := by decide +kernel
theorem d2_0 : decode method_2_code 0 = .ok (.lload_n 2, 1) := by decide +kernel
theorem d2_1 : decode method_2_code 1 = .ok (.ldc2_w 7, 3) := by decide +kernel
theorem d2_4 : decode method_2_code 4 = .ok (.ldiv, 1) := by decide +kernel
theorem d2_5 : decode method_2_code 5 = .ok (.lstore 4, 2) := by decide +kernel
theorem d2_7 : decode method_2_code 7 = .ok (.lload_n 0, 1) := by decide +kernel
theorem d2_8 : decode method_2_code 8 = .ok (.ldc2_w 11, 3) := by decide +kernel
theorem d2_11 : decode method_2_code 11 = .ok (.lload 4, 2) := by decide +kernel
theorem d2_13 : decode method_2_code 13 = .ok (.lsub, 1) := by decide +kernel
theorem d2_14 : decode method_2_code 14 = .ok (.lcmp, 1) := by decide +kernel
theorem d2_15 : decode method_2_code 15 = .ok (.ifCond .gt 10, 3) := by decide +kernel
theorem d2_18 : decode method_2_code 18 = .ok (.lload_n 0, 1) := by decide +kernel
theorem d2_19 : decode method_2_code 19 = .ok (.lload 4, 2) := by decide +kernel
theorem d2_21 : decode method_2_code 21 = .ok (.ladd, 1) := by decide +kernel
theorem d2_22 : decode method_2_code 22 = .ok (.lload_n 2, 1) := by decide +kernel
theorem d2_23 : decode method_2_code 23 = .ok (.ldiv, 1) := by decide +kernel
theorem d2_24 : decode method_2_code 24 = .ok (.lreturn, 1) := by decide +kernel
theorem d2_25 : decode method_2_code 25 = .ok (.lload_n 2, 1) := by decide +kernel
theorem d2_26 : decode method_2_code 26 = .ok (.lload 4, 2) := by decide +kernel
theorem d2_28 : decode method_2_code 28 = .ok (.lsub, 1) := by decide +kernel
theorem d2_29 : decode method_2_code 29 = .ok (.lstore 6, 2) := by decide +kernel
theorem d2_31 : decode method_2_code 31 = .ok (.lload_n 0, 1) := by decide +kernel
theorem d2_32 : decode method_2_code 32 = .ok (.lload 6, 2) := by decide +kernel
theorem d2_34 : decode method_2_code 34 = .ok (.lsub, 1) := by decide +kernel
theorem d2_35 : decode method_2_code 35 = .ok (.lload_n 2, 1) := by decide +kernel
theorem d2_36 : decode method_2_code 36 = .ok (.ldiv, 1) := by decide +kernel
theorem d2_37 : decode method_2_code 37 = .ok (.lconst 1, 1) := by decide +kernel
theorem d2_38 : decode method_2_code 38 = .ok (.ladd, 1) := by decide +kernel
theorem d2_39 : decode method_2_code 39 = .ok (.lreturn, 1) := by decide +kernel
/-- what divideHalfUp returns -/
def own_dh (n d : Int64) : Int64 := if (n - (n / d) * d) < (d - (n - (n / d) * d)) then n / d else n / d + (1 : Int64)
/-- what reference returns -/
def own_rf (n d : Int64) : Int64 := if ((9223372036854775807 : Int64) - (d / (2 : Int64))) < n then ((n - (d - (d / (2 : Int64)))) / d) + (1 : Int64) else (n + (d / (2 : Int64))) / d
theorem own_quot {D q k : Int} (hD : 0 < D) (h1 : D * q ≤ k) (h2 : k < D * q + D) : k / D = q := by
  have e1 := Int.mul_ediv_add_emod k D
  have e2 := Int.emod_nonneg k (Int.ne_of_gt hD)
  have e3 := Int.emod_lt_of_pos k hD
  have a1 : D * (k / D) < D * (q + 1) := by rw [Int.mul_add, Int.mul_one]; omega
  have a2 : D * q < D * (k / D + 1) := by rw [Int.mul_add, Int.mul_one]; omega
  have b1 := Int.lt_of_mul_lt_mul_left a1 (Int.le_of_lt hD)
  have b2 := Int.lt_of_mul_lt_mul_left a2 (Int.le_of_lt hD)
  omega
theorem own_max : (9223372036854775807 : Int64).toInt = 9223372036854775807 := by decide +kernel
theorem own_subM (M h : Int64) (hM : M.toInt = 9223372036854775807) (h0 : 0 ≤ h.toInt) : (M - h).toInt = 9223372036854775807 - h.toInt := by
  have a := c_lsub M h
  have b := rng64 (M - h)
  have c := rng64 h
  omega
theorem own_pos {a : Int64} (h : ¬ a < 0) : 0 ≤ a.toInt := by
  rw [Int64.lt_iff_toInt_lt] at h
  exact Int.not_lt.mp h
theorem own_sub64 {a b : Int64} {x y : Int} (ha : a.toInt = x) (hb : b.toInt = y) (h1 : -9223372036854775808 ≤ x - y) (h2 : x - y < 9223372036854775808) : (a - b).toInt = x - y := by
  have c1 := c_lsub a b
  have c2 := rng64 (a - b)
  rw [ha, hb] at c1
  omega
theorem own_add64 {a b : Int64} {x y : Int} (ha : a.toInt = x) (hb : b.toInt = y) (h1 : -9223372036854775808 ≤ x + y) (h2 : x + y < 9223372036854775808) : (a + b).toInt = x + y := by
  have c1 := c_ladd a b
  have c2 := rng64 (a + b)
  rw [ha, hb] at c1
  omega
theorem own_one : (1 : Int64).toInt = 1 := rfl
/-- the quotient rounded half up -/
def own_ru (D q r : Int) : Int := if r < D - r then q else q + 1
theorem own_R1 {N D q r H : Int} (hD : 1 ≤ D) (em : D * q + r = N) (r0 : 0 ≤ r) (r1 : r < D) (h1 : 2 * H ≤ D) (h2 : D < 2 * H + 2) : (N + H) / D = own_ru D q r := by
  unfold own_ru
  by_cases hk : r < D - r
  · rw [if_pos hk]
    exact own_quot (by omega) (by omega) (by omega)
  · rw [if_neg hk]
    exact own_quot (by omega) (by rw [Int.mul_add, Int.mul_one]; omega) (by rw [Int.mul_add, Int.mul_one]; omega)
theorem own_R2 {N D q r H : Int} (hD : 1 ≤ D) (em : D * q + r = N) (r0 : 0 ≤ r) (r1 : r < D) (h1 : 2 * H ≤ D) (h2 : D < 2 * H + 2) : (N - (D - H)) / D + 1 = own_ru D q r := by
  unfold own_ru
  by_cases hk : r < D - r
  · rw [if_pos hk]
    have v : (N - (D - H)) / D = q - 1 := own_quot (by omega) (by rw [Int.mul_sub, Int.mul_one]; omega) (by rw [Int.mul_sub, Int.mul_one]; omega)
    omega
  · rw [if_neg hk]
    have v : (N - (D - H)) / D = q := own_quot (by omega) (by omega) (by omega)
    omega
theorem own_ruB {N D q r : Int} (hD : 1 ≤ D) (em : D * q + r = N) (qn : 0 ≤ q) (r0 : 0 ≤ r) (r1 : r < D) (hN : N < 9223372036854775808) : -9223372036854775808 ≤ q + 1 ∧ own_ru D q r < 9223372036854775808 := by
  have dq : q ≤ D * q := by
    have := Int.mul_le_mul_of_nonneg_right hD qn
    rwa [Int.one_mul] at this
  refine ⟨by omega, ?_⟩
  unfold own_ru
  by_cases hk : r < D - r
  · rw [if_pos hk]; omega
  · rw [if_neg hk]; omega
theorem own_L (n d : Int64) (hn : 0 ≤ n.toInt) (hd : 1 ≤ d.toInt) (dm : d ≠ -1) {q r : Int} (hq : (n / d).toInt = q) (hr : (n - (n / d) * d).toInt = r) (r0 : 0 ≤ r) (r1 : r < d.toInt) (hb1 : -9223372036854775808 ≤ q + 1) (hb2 : own_ru d.toInt q r < 9223372036854775808) : (own_dh n d).toInt = own_ru d.toInt q r := by
  have rd := rng64 d
  have sb : (d - (n - (n / d) * d)).toInt = d.toInt - r := own_sub64 rfl hr (by omega) (by omega)
  have hiff : (n - (n / d) * d) < (d - (n - (n / d) * d)) ↔ r < d.toInt - r := by rw [Int64.lt_iff_toInt_lt, sb, hr]
  unfold own_dh
  unfold own_ru at hb2 ⊢
  by_cases hc : r < d.toInt - r
  · rw [if_pos (hiff.mpr hc), if_pos hc, hq]
  · rw [if_neg hc] at hb2
    rw [if_neg (fun z => hc (hiff.mp z)), if_neg hc]
    exact own_add64 hq own_one hb1 hb2
theorem own_Rg (n d : Int64) (hn : 0 ≤ n.toInt) (hd : 1 ≤ d.toInt) (dm : d ≠ -1) {q r : Int} (em : d.toInt * q + r = n.toInt) (qn : 0 ≤ q) (r0 : 0 ≤ r) (r1 : r < d.toInt) (hb1 : -9223372036854775808 ≤ q + 1) (hb2 : own_ru d.toInt q r < 9223372036854775808) : (own_rf n d).toInt = own_ru d.toInt q r := by
  have rn := rng64 n
  have rd := rng64 d
  have hh := (c_ldiv d 2 2 rfl (by decide)).1 (by omega)
  obtain ⟨H, hH⟩ : ∃ H, H = d.toInt / 2 := ⟨_, rfl⟩
  have h1 : 2 * H ≤ d.toInt := by omega
  have h2 : d.toInt < 2 * H + 2 := by omega
  rw [← hH] at hh
  clear hH
  have tb : ((9223372036854775807 : Int64) - d / 2).toInt = 9223372036854775807 - H := by rw [own_subM _ _ own_max (by omega), hh]
  have hiff : ((9223372036854775807 : Int64) - (d / (2 : Int64))) < n ↔ 9223372036854775807 - H < n.toInt := by rw [Int64.lt_iff_toInt_lt, tb]
  unfold own_rf
  by_cases hc : 9223372036854775807 - H < n.toInt
  · rw [if_pos (hiff.mpr hc)]
    have u3 : (d - d / 2).toInt = d.toInt - H := own_sub64 rfl hh (by omega) (by omega)
    have u6 : (n - (d - d / 2)).toInt = n.toInt - (d.toInt - H) := own_sub64 rfl u3 (by omega) (by omega)
    have u7 := (c_ldiv (n - (d - d / 2)) d d.toInt rfl dm).1 (by omega)
    rw [u6] at u7
    have e := own_R2 hd em r0 r1 h1 h2
    rw [← e] at hb2 ⊢
    have qz : 0 ≤ (n.toInt - (d.toInt - H)) / d.toInt := Int.ediv_nonneg (by omega) (by omega)
    exact own_add64 u7 own_one (by omega) hb2
  · rw [if_neg (fun z => hc (hiff.mp z))]
    have u6 : (n + d / 2).toInt = n.toInt + H := own_add64 rfl hh (by omega) (by omega)
    have u7 := (c_ldiv (n + d / 2) d d.toInt rfl dm).1 (by omega)
    rw [u7, u6]
    exact own_R1 hd em r0 r1 h1 h2
/-- both, as whole numbers -/
theorem own_same (n d : Int64) (hn : 0 ≤ n.toInt) (hd : 1 ≤ d.toInt) : own_dh n d = own_rf n d := by
  have dm : d ≠ -1 := fun q => by rw [q] at hd; exact absurd hd (by decide)
  have hq := (c_ldiv n d d.toInt rfl dm).1 hn
  have hr := (c_lrem n d d.toInt rfl).1 hn
  have em := Int.mul_ediv_add_emod n.toInt d.toInt
  have e2 := Int.emod_nonneg n.toInt (show d.toInt ≠ 0 by omega)
  have e3 := Int.emod_lt_of_pos n.toInt (show 0 < d.toInt by omega)
  have qn : 0 ≤ n.toInt / d.toInt := Int.ediv_nonneg hn (by omega)
  obtain ⟨b1, b2⟩ := own_ruB hd em qn e2 e3 (rng64 n).2
  apply Int64.toInt_inj.mp
  rw [own_L n d hn hd dm hq hr e2 e3 b1 b2, own_Rg n d hn hd dm em qn e2 e3 b1 b2]
theorem own_m63 (x : Int64) : 0 ≤ (x &&& (9223372036854775807 : Int64)).toInt := by
  have := c_maskL x 9223372036854775807 63 (by decide) (by decide)
  omega
theorem ef_1 (m : MethodId) (x0 : Int64) (x1 : Int64) : entryFrame m #[(.long x0), (.long x1)] 8 = mkF m 0 #[.val (.long x0), .second, .val (.long x1), .second, .unset, .unset, .unset, .unset] [] := by first | (simp [entryFrame, mkF, argsToLocals, Value.category]; done) | rfl
set_option maxRecDepth 65536 in
set_option maxHeartbeats 40000000 in
theorem rm1 (l : Launch) (Z : State) (a0 : Array Value) (hw : ∀ d ∈ tables_1, d.before a0 Z = true) (ws : List Jvm.Cond) (q1 : Int64) (q2 : Int64) (h0 : Heap) (n0 : Nat) (Z0 : n0 ≤ h0.size) (hn : ¬ q1 < (0 : Int64)) (hd : q2 ≠ 0) :
    MetFree l (⟨"com/example/vestledger/vestledger/accounts/FixedPoint", "divideHalfUp", "(JJ)J"⟩ : MethodName) (head1 (Jvm.Cond.code (⟨"com/example/vestledger/vestledger/accounts/FixedPoint", "divideHalfUp", "(JJ)J"⟩ : MethodName) prog_16_method_4_code 8 (some .long) :: ws) ({ frames := 0, cells := 0, slots := 0, locals := 0 } : Room)) (fun a U => a = #[(.long q1), (.long q2)] ∧ Z.Warmed39 U.vm ∧ U.heap = h0) (fun _ _ _ _ _ => True) (fun _ U o U' => ∃ v L, o = .returned v ∧ (own_pure (some (.long (own_dh q1 q2))) h0 n0) v U'.heap L ∧ FrameEnd U o U' L ({ frames := 0, cells := 0, slots := 0, locals := 0 } : Room).cells ({ frames := 0, cells := 0, slots := 0, locals := 0 } : Room).slots) := by
  refine MetFree.of_bodySF (plainFor_of_name pn_0) hisR ?_
  intro p e s m args below meth c s₁ Bd hml0 hP hK
  obtain ⟨rfl, hZ, hh⟩ := hP
  have hx := Bd.exec
  have hby := Bd.bytes
  have hml : c.maxLocals = 8 := hml0
  have hown : s.vm.findClass "com/example/vestledger/vestledger/accounts/FixedPoint" = some m.cls := findClass_of_methodNamed Bd.named
  have hnm := (name_of_methodNamed Bd.named Bd.method).1
  have hret := Bd.returns
  have hlk : meth.locks = false := Bd.notSynchronized
  have X0 : Stand p l e ({ frames := 0, cells := 0, slots := 0, locals := 0 } : Room) s m #[(.long q1), (.long q2)] below meth c s₁ [] 0 0 := Stand.of_body Bd
  have e0 : s₁.heap = h0 := by rw [← hh, Bd.state]; rfl
  have N0 := Fr.nil n0
  show own_Go p e below (own_P (own_pure (some (.long (own_dh q1 q2))) h0 n0) ({ frames := 0, cells := 0, slots := 0, locals := 0 } : Room) s) s₁ (entryFrame m #[(.long q1), (.long q2)] 8)
  rw [ef_1 m q1 q2]
  show own_Go p e below _ s₁ (mkF m 0 #[.val (.long q1), .second, .val (.long q2), .second, .unset, .unset, .unset, .unset] [])
  refine own_go (fun _ k => XS.lloadN X0.here hx rfl (hb hby d1_0) rfl  k) ?_
  show own_Go p e below _ s₁ (mkF m 1 #[.val (.long q1), .second, .val (.long q2), .second, .unset, .unset, .unset, .unset] [(.long q1)])
  refine own_go (fun _ k => XS.lconst X0.here hx rfl (hb hby d1_1) k) ?_
  show own_Go p e below _ s₁ (mkF m 2 #[.val (.long q1), .second, .val (.long q2), .second, .unset, .unset, .unset, .unset] [(.long (0 : Int64)), (.long q1)])
  refine own_go (fun _ k => XS.lcmp X0.here hx rfl (hb hby d1_2) rfl k) ?_
  show own_Go p e below _ s₁ (mkF m 3 #[.val (.long q1), .second, .val (.long q2), .second, .unset, .unset, .unset, .unset] [(.int (lcmpW q1 (0 : Int64)))])
  refine own_go (fun _ k => XS.ifYes X0.here hx rfl (pc0 := 3) (pc' := 21) rfl (hb hby d1_3) rfl ((if0 _ _).trans (flt ((not_congr (lw_lt _ _)).mpr hn)).2.1) (by decide) (by decide) k) ?_
  show own_Go p e below _ s₁ (mkF m 21 #[.val (.long q1), .second, .val (.long q2), .second, .unset, .unset, .unset, .unset] [])
  refine own_go (fun _ k => XS.lloadN X0.here hx rfl (hb hby d1_21) rfl  k) ?_
  show own_Go p e below _ s₁ (mkF m 22 #[.val (.long q1), .second, .val (.long q2), .second, .unset, .unset, .unset, .unset] [(.long q1)])
  refine own_go (fun _ k => XS.lloadN X0.here hx rfl (hb hby d1_22) rfl  k) ?_
  show own_Go p e below _ s₁ (mkF m 23 #[.val (.long q1), .second, .val (.long q2), .second, .unset, .unset, .unset, .unset] [(.long q2), (.long q1)])
  refine own_go (fun _ k => XS.ldiv X0.here hx rfl (hb hby d1_23) rfl hd k) ?_
  show own_Go p e below _ s₁ (mkF m 24 #[.val (.long q1), .second, .val (.long q2), .second, .unset, .unset, .unset, .unset] [(.long (q1 / q2))])
  refine own_go (fun _ k => XS.lstore X0.here hx rfl (hb hby d1_24) rfl (l' := #[.val (.long q1), .second, .val (.long q2), .second, .val (.long (q1 / q2)), .second, .unset, .unset]) rfl k) ?_
  show own_Go p e below _ s₁ (mkF m 26 #[.val (.long q1), .second, .val (.long q2), .second, .val (.long (q1 / q2)), .second, .unset, .unset] [])
  refine own_go (fun _ k => XS.lloadN X0.here hx rfl (hb hby d1_26) rfl  k) ?_
  show own_Go p e below _ s₁ (mkF m 27 #[.val (.long q1), .second, .val (.long q2), .second, .val (.long (q1 / q2)), .second, .unset, .unset] [(.long q1)])
  refine own_go (fun _ k => XS.lloadN X0.here hx rfl (hb hby d1_27) rfl  k) ?_
  show own_Go p e below _ s₁ (mkF m 28 #[.val (.long q1), .second, .val (.long q2), .second, .val (.long (q1 / q2)), .second, .unset, .unset] [(.long q2), (.long q1)])
  refine own_go (fun _ k => XS.lrem X0.here hx rfl (hb hby d1_28) rfl hd k) ?_
  show own_Go p e below _ s₁ (mkF m 29 #[.val (.long q1), .second, .val (.long q2), .second, .val (.long (q1 / q2)), .second, .unset, .unset] [(.long (q1 - (q1 / q2) * q2))])
  refine own_go (fun _ k => XS.lstore X0.here hx rfl (hb hby d1_29) rfl (l' := #[.val (.long q1), .second, .val (.long q2), .second, .val (.long (q1 / q2)), .second, .val (.long (q1 - (q1 / q2) * q2)), .second]) rfl k) ?_
  show own_Go p e below _ s₁ (mkF m 31 #[.val (.long q1), .second, .val (.long q2), .second, .val (.long (q1 / q2)), .second, .val (.long (q1 - (q1 / q2) * q2)), .second] [])
  refine own_go (fun _ k => XS.lload X0.here hx rfl (hb hby d1_31) rfl  k) ?_
  show own_Go p e below _ s₁ (mkF m 33 #[.val (.long q1), .second, .val (.long q2), .second, .val (.long (q1 / q2)), .second, .val (.long (q1 - (q1 / q2) * q2)), .second] [(.long (q1 - (q1 / q2) * q2))])
  refine own_go (fun _ k => XS.lloadN X0.here hx rfl (hb hby d1_33) rfl  k) ?_
  show own_Go p e below _ s₁ (mkF m 34 #[.val (.long q1), .second, .val (.long q2), .second, .val (.long (q1 / q2)), .second, .val (.long (q1 - (q1 / q2) * q2)), .second] [(.long q2), (.long (q1 - (q1 / q2) * q2))])
  refine own_go (fun _ k => XS.lload X0.here hx rfl (hb hby d1_34) rfl  k) ?_
  show own_Go p e below _ s₁ (mkF m 36 #[.val (.long q1), .second, .val (.long q2), .second, .val (.long (q1 / q2)), .second, .val (.long (q1 - (q1 / q2) * q2)), .second] [(.long (q1 - (q1 / q2) * q2)), (.long q2), (.long (q1 - (q1 / q2) * q2))])
  refine own_go (fun _ k => XS.lsub X0.here hx rfl (hb hby d1_36) rfl k) ?_
  show own_Go p e below _ s₁ (mkF m 37 #[.val (.long q1), .second, .val (.long q2), .second, .val (.long (q1 / q2)), .second, .val (.long (q1 - (q1 / q2) * q2)), .second] [(.long (q2 - (q1 - (q1 / q2) * q2))), (.long (q1 - (q1 / q2) * q2))])
  refine own_go (fun _ k => XS.lcmp X0.here hx rfl (hb hby d1_37) rfl k) ?_
  show own_Go p e below _ s₁ (mkF m 38 #[.val (.long q1), .second, .val (.long q2), .second, .val (.long (q1 / q2)), .second, .val (.long (q1 - (q1 / q2) * q2)), .second] [(.int (lcmpW (q1 - (q1 / q2) * q2) (q2 - (q1 - (q1 / q2) * q2))))])
  by_cases hc : (q1 - (q1 / q2) * q2) < (q2 - (q1 - (q1 / q2) * q2))
  · refine own_go (fun _ k => XS.ifYes X0.here hx rfl (pc0 := 38) (pc' := 48) rfl (hb hby d1_38) rfl ((if0 _ _).trans (tlt ((lw_lt _ _).mpr hc)).1) (by decide) (by decide) k) ?_
    show own_Go p e below _ s₁ (mkF m 48 #[.val (.long q1), .second, .val (.long q2), .second, .val (.long (q1 / q2)), .second, .val (.long (q1 - (q1 / q2) * q2)), .second] [])
    refine own_go (fun _ k => XS.lload X0.here hx rfl (hb hby d1_48) rfl  k) ?_
    show own_Go p e below _ s₁ (mkF m 50 #[.val (.long q1), .second, .val (.long q2), .second, .val (.long (q1 / q2)), .second, .val (.long (q1 - (q1 / q2) * q2)), .second] [(.long (q1 / q2))])
    exact own_endJ X0 hx hret hlk (hb hby d1_50) (by decide) (by decide) ⟨by rw [own_dh, if_pos hc], N0, e0⟩
  · refine own_go (fun _ k => XS.ifNo X0.here hx rfl (hb hby d1_38) rfl ((if0 _ _).trans (flt ((not_congr (lw_lt _ _)).mpr hc)).1) k) ?_
    show own_Go p e below _ s₁ (mkF m 41 #[.val (.long q1), .second, .val (.long q2), .second, .val (.long (q1 / q2)), .second, .val (.long (q1 - (q1 / q2) * q2)), .second] [])
    refine own_go (fun _ k => XS.lload X0.here hx rfl (hb hby d1_41) rfl  k) ?_
    show own_Go p e below _ s₁ (mkF m 43 #[.val (.long q1), .second, .val (.long q2), .second, .val (.long (q1 / q2)), .second, .val (.long (q1 - (q1 / q2) * q2)), .second] [(.long (q1 / q2))])
    refine own_go (fun _ k => XS.lconst X0.here hx rfl (hb hby d1_43) k) ?_
    show own_Go p e below _ s₁ (mkF m 44 #[.val (.long q1), .second, .val (.long q2), .second, .val (.long (q1 / q2)), .second, .val (.long (q1 - (q1 / q2) * q2)), .second] [(.long (1 : Int64)), (.long (q1 / q2))])
    refine own_go (fun _ k => XS.ladd X0.here hx rfl (hb hby d1_44) rfl k) ?_
    show own_Go p e below _ s₁ (mkF m 45 #[.val (.long q1), .second, .val (.long q2), .second, .val (.long (q1 / q2)), .second, .val (.long (q1 - (q1 / q2) * q2)), .second] [(.long ((q1 / q2) + (1 : Int64)))])
    refine own_go (fun _ k => XS.goto X0.here hx rfl (pc0 := 45) (pc' := 50) rfl (hb hby d1_45) (by decide) (by decide) k) ?_
    show own_Go p e below _ s₁ (mkF m 50 #[.val (.long q1), .second, .val (.long q2), .second, .val (.long (q1 / q2)), .second, .val (.long (q1 - (q1 / q2) * q2)), .second] [(.long ((q1 / q2) + (1 : Int64)))])
    exact own_endJ X0 hx hret hlk (hb hby d1_50) (by decide) (by decide) ⟨by rw [own_dh, if_neg hc], N0, e0⟩
theorem ef_2 (m : MethodId) (x0 : Int64) (x1 : Int64) : entryFrame m #[(.long x0), (.long x1)] 8 = mkF m 0 #[.val (.long x0), .second, .val (.long x1), .second, .unset, .unset, .unset, .unset] [] := by first | (simp [entryFrame, mkF, argsToLocals, Value.category]; done) | rfl
set_option maxRecDepth 65536 in
set_option maxHeartbeats 40000000 in
theorem rm2 (l : Launch) (Z : State) (a0 : Array Value) (hw : ∀ d ∈ tables_1, d.before a0 Z = true) (ws : List Jvm.Cond) (q1 : Int64) (q2 : Int64) (h0 : Heap) (n0 : Nat) (Z0 : n0 ≤ h0.size) (hd : q2 ≠ 0) :
    MetFree l (⟨"com/example/vestledger/vestledger/accounts/FixedPointDivideHalfUpPinLaw", "reference", "(JJ)J"⟩ : MethodName) (head1 (Jvm.Cond.code (⟨"com/example/vestledger/vestledger/accounts/FixedPointDivideHalfUpPinLaw", "reference", "(JJ)J"⟩ : MethodName) method_2_code 8 (some .long) :: ws) ({ frames := 0, cells := 0, slots := 0, locals := 0 } : Room)) (fun a U => a = #[(.long q1), (.long q2)] ∧ Z.Warmed39 U.vm ∧ U.heap = h0) (fun _ _ _ _ _ => True) (fun _ U o U' => ∃ v L, o = .returned v ∧ (own_pure (some (.long (own_rf q1 q2))) h0 n0) v U'.heap L ∧ FrameEnd U o U' L ({ frames := 0, cells := 0, slots := 0, locals := 0 } : Room).cells ({ frames := 0, cells := 0, slots := 0, locals := 0 } : Room).slots) := by
  refine MetFree.of_bodySF (plainFor_of_name pn_1) hisR ?_
  intro p e s m args below meth c s₁ Bd hml0 hP hK
  obtain ⟨rfl, hZ, hh⟩ := hP
  have hx := Bd.exec
  have hby := Bd.bytes
  have hml : c.maxLocals = 8 := hml0
  have hown : s.vm.findClass "com/example/vestledger/vestledger/accounts/FixedPointDivideHalfUpPinLaw" = some m.cls := findClass_of_methodNamed Bd.named
  have hnm := (name_of_methodNamed Bd.named Bd.method).1
  have hret := Bd.returns
  have hlk : meth.locks = false := Bd.notSynchronized
  have X0 : Stand p l e ({ frames := 0, cells := 0, slots := 0, locals := 0 } : Room) s m #[(.long q1), (.long q2)] below meth c s₁ [] 0 0 := Stand.of_body Bd
  have e0 : s₁.heap = h0 := by rw [← hh, Bd.state]; rfl
  have N0 := Fr.nil n0
  show own_Go p e below (own_P (own_pure (some (.long (own_rf q1 q2))) h0 n0) ({ frames := 0, cells := 0, slots := 0, locals := 0 } : Room) s) s₁ (entryFrame m #[(.long q1), (.long q2)] 8)
  rw [ef_2 m q1 q2]
  show own_Go p e below _ s₁ (mkF m 0 #[.val (.long q1), .second, .val (.long q2), .second, .unset, .unset, .unset, .unset] [])
  refine own_go (fun _ k => XS.lloadN X0.here hx rfl (hb hby d2_0) rfl  k) ?_
  show own_Go p e below _ s₁ (mkF m 1 #[.val (.long q1), .second, .val (.long q2), .second, .unset, .unset, .unset, .unset] [(.long q2)])
  refine own_go (fun _ k => X0.ldc2Long hx hown (mvT hZ (hw _ (List.mem_of_getElem? (i := 9) rfl))) (g := (mkF m 1 #[.val (.long q1), .second, .val (.long q2), .second, .unset, .unset, .unset, .unset] [(.long q2)])) rfl (hb hby d2_1) _ k) ?_
  show own_Go p e below _ s₁ (mkF m 4 #[.val (.long q1), .second, .val (.long q2), .second, .unset, .unset, .unset, .unset] [(.long (2 : Int64)), (.long q2)])
  refine own_go (fun _ k => XS.ldiv X0.here hx rfl (hb hby d2_4) rfl (by decide) k) ?_
  show own_Go p e below _ s₁ (mkF m 5 #[.val (.long q1), .second, .val (.long q2), .second, .unset, .unset, .unset, .unset] [(.long (q2 / (2 : Int64)))])
  refine own_go (fun _ k => XS.lstore X0.here hx rfl (hb hby d2_5) rfl (l' := #[.val (.long q1), .second, .val (.long q2), .second, .val (.long (q2 / (2 : Int64))), .second, .unset, .unset]) rfl k) ?_
  show own_Go p e below _ s₁ (mkF m 7 #[.val (.long q1), .second, .val (.long q2), .second, .val (.long (q2 / (2 : Int64))), .second, .unset, .unset] [])
  refine own_go (fun _ k => XS.lloadN X0.here hx rfl (hb hby d2_7) rfl  k) ?_
  show own_Go p e below _ s₁ (mkF m 8 #[.val (.long q1), .second, .val (.long q2), .second, .val (.long (q2 / (2 : Int64))), .second, .unset, .unset] [(.long q1)])
  refine own_go (fun _ k => X0.ldc2Long hx hown (mvT hZ (hw _ (List.mem_of_getElem? (i := 0) rfl))) (g := (mkF m 8 #[.val (.long q1), .second, .val (.long q2), .second, .val (.long (q2 / (2 : Int64))), .second, .unset, .unset] [(.long q1)])) rfl (hb hby d2_8) _ k) ?_
  show own_Go p e below _ s₁ (mkF m 11 #[.val (.long q1), .second, .val (.long q2), .second, .val (.long (q2 / (2 : Int64))), .second, .unset, .unset] [(.long (9223372036854775807 : Int64)), (.long q1)])
  refine own_go (fun _ k => XS.lload X0.here hx rfl (hb hby d2_11) rfl  k) ?_
  show own_Go p e below _ s₁ (mkF m 13 #[.val (.long q1), .second, .val (.long q2), .second, .val (.long (q2 / (2 : Int64))), .second, .unset, .unset] [(.long (q2 / (2 : Int64))), (.long (9223372036854775807 : Int64)), (.long q1)])
  refine own_go (fun _ k => XS.lsub X0.here hx rfl (hb hby d2_13) rfl k) ?_
  show own_Go p e below _ s₁ (mkF m 14 #[.val (.long q1), .second, .val (.long q2), .second, .val (.long (q2 / (2 : Int64))), .second, .unset, .unset] [(.long ((9223372036854775807 : Int64) - (q2 / (2 : Int64)))), (.long q1)])
  refine own_go (fun _ k => XS.lcmp X0.here hx rfl (hb hby d2_14) rfl k) ?_
  show own_Go p e below _ s₁ (mkF m 15 #[.val (.long q1), .second, .val (.long q2), .second, .val (.long (q2 / (2 : Int64))), .second, .unset, .unset] [(.int (lcmpW q1 ((9223372036854775807 : Int64) - (q2 / (2 : Int64)))))])
  by_cases hc : ((9223372036854775807 : Int64) - (q2 / (2 : Int64))) < q1
  · refine own_go (fun _ k => XS.ifYes X0.here hx rfl (pc0 := 15) (pc' := 25) rfl (hb hby d2_15) rfl ((if0 _ _).trans (tlt ((lw_gt _ _).mpr hc)).2.2.1) (by decide) (by decide) k) ?_
    show own_Go p e below _ s₁ (mkF m 25 #[.val (.long q1), .second, .val (.long q2), .second, .val (.long (q2 / (2 : Int64))), .second, .unset, .unset] [])
    refine own_go (fun _ k => XS.lloadN X0.here hx rfl (hb hby d2_25) rfl  k) ?_
    show own_Go p e below _ s₁ (mkF m 26 #[.val (.long q1), .second, .val (.long q2), .second, .val (.long (q2 / (2 : Int64))), .second, .unset, .unset] [(.long q2)])
    refine own_go (fun _ k => XS.lload X0.here hx rfl (hb hby d2_26) rfl  k) ?_
    show own_Go p e below _ s₁ (mkF m 28 #[.val (.long q1), .second, .val (.long q2), .second, .val (.long (q2 / (2 : Int64))), .second, .unset, .unset] [(.long (q2 / (2 : Int64))), (.long q2)])
    refine own_go (fun _ k => XS.lsub X0.here hx rfl (hb hby d2_28) rfl k) ?_
    show own_Go p e below _ s₁ (mkF m 29 #[.val (.long q1), .second, .val (.long q2), .second, .val (.long (q2 / (2 : Int64))), .second, .unset, .unset] [(.long (q2 - (q2 / (2 : Int64))))])
    refine own_go (fun _ k => XS.lstore X0.here hx rfl (hb hby d2_29) rfl (l' := #[.val (.long q1), .second, .val (.long q2), .second, .val (.long (q2 / (2 : Int64))), .second, .val (.long (q2 - (q2 / (2 : Int64)))), .second]) rfl k) ?_
    show own_Go p e below _ s₁ (mkF m 31 #[.val (.long q1), .second, .val (.long q2), .second, .val (.long (q2 / (2 : Int64))), .second, .val (.long (q2 - (q2 / (2 : Int64)))), .second] [])
    refine own_go (fun _ k => XS.lloadN X0.here hx rfl (hb hby d2_31) rfl  k) ?_
    show own_Go p e below _ s₁ (mkF m 32 #[.val (.long q1), .second, .val (.long q2), .second, .val (.long (q2 / (2 : Int64))), .second, .val (.long (q2 - (q2 / (2 : Int64)))), .second] [(.long q1)])
    refine own_go (fun _ k => XS.lload X0.here hx rfl (hb hby d2_32) rfl  k) ?_
    show own_Go p e below _ s₁ (mkF m 34 #[.val (.long q1), .second, .val (.long q2), .second, .val (.long (q2 / (2 : Int64))), .second, .val (.long (q2 - (q2 / (2 : Int64)))), .second] [(.long (q2 - (q2 / (2 : Int64)))), (.long q1)])
    refine own_go (fun _ k => XS.lsub X0.here hx rfl (hb hby d2_34) rfl k) ?_
    show own_Go p e below _ s₁ (mkF m 35 #[.val (.long q1), .second, .val (.long q2), .second, .val (.long (q2 / (2 : Int64))), .second, .val (.long (q2 - (q2 / (2 : Int64)))), .second] [(.long (q1 - (q2 - (q2 / (2 : Int64)))))])
    refine own_go (fun _ k => XS.lloadN X0.here hx rfl (hb hby d2_35) rfl  k) ?_
    show own_Go p e below _ s₁ (mkF m 36 #[.val (.long q1), .second, .val (.long q2), .second, .val (.long (q2 / (2 : Int64))), .second, .val (.long (q2 - (q2 / (2 : Int64)))), .second] [(.long q2), (.long (q1 - (q2 - (q2 / (2 : Int64)))))])
    refine own_go (fun _ k => XS.ldiv X0.here hx rfl (hb hby d2_36) rfl hd k) ?_
    show own_Go p e below _ s₁ (mkF m 37 #[.val (.long q1), .second, .val (.long q2), .second, .val (.long (q2 / (2 : Int64))), .second, .val (.long (q2 - (q2 / (2 : Int64)))), .second] [(.long ((q1 - (q2 - (q2 / (2 : Int64)))) / q2))])
    refine own_go (fun _ k => XS.lconst X0.here hx rfl (hb hby d2_37) k) ?_
    show own_Go p e below _ s₁ (mkF m 38 #[.val (.long q1), .second, .val (.long q2), .second, .val (.long (q2 / (2 : Int64))), .second, .val (.long (q2 - (q2 / (2 : Int64)))), .second] [(.long (1 : Int64)), (.long ((q1 - (q2 - (q2 / (2 : Int64)))) / q2))])
    refine own_go (fun _ k => XS.ladd X0.here hx rfl (hb hby d2_38) rfl k) ?_
    show own_Go p e below _ s₁ (mkF m 39 #[.val (.long q1), .second, .val (.long q2), .second, .val (.long (q2 / (2 : Int64))), .second, .val (.long (q2 - (q2 / (2 : Int64)))), .second] [(.long (((q1 - (q2 - (q2 / (2 : Int64)))) / q2) + (1 : Int64)))])
    exact own_endJ X0 hx hret hlk (hb hby d2_39) (by decide) (by decide) ⟨by rw [own_rf, if_pos hc], N0, e0⟩
  · refine own_go (fun _ k => XS.ifNo X0.here hx rfl (hb hby d2_15) rfl ((if0 _ _).trans (flt ((not_congr (lw_gt _ _)).mpr hc)).2.2.1) k) ?_
    show own_Go p e below _ s₁ (mkF m 18 #[.val (.long q1), .second, .val (.long q2), .second, .val (.long (q2 / (2 : Int64))), .second, .unset, .unset] [])
    refine own_go (fun _ k => XS.lloadN X0.here hx rfl (hb hby d2_18) rfl  k) ?_
    show own_Go p e below _ s₁ (mkF m 19 #[.val (.long q1), .second, .val (.long q2), .second, .val (.long (q2 / (2 : Int64))), .second, .unset, .unset] [(.long q1)])
    refine own_go (fun _ k => XS.lload X0.here hx rfl (hb hby d2_19) rfl  k) ?_
    show own_Go p e below _ s₁ (mkF m 21 #[.val (.long q1), .second, .val (.long q2), .second, .val (.long (q2 / (2 : Int64))), .second, .unset, .unset] [(.long (q2 / (2 : Int64))), (.long q1)])
    refine own_go (fun _ k => XS.ladd X0.here hx rfl (hb hby d2_21) rfl k) ?_
    show own_Go p e below _ s₁ (mkF m 22 #[.val (.long q1), .second, .val (.long q2), .second, .val (.long (q2 / (2 : Int64))), .second, .unset, .unset] [(.long (q1 + (q2 / (2 : Int64))))])
    refine own_go (fun _ k => XS.lloadN X0.here hx rfl (hb hby d2_22) rfl  k) ?_
    show own_Go p e below _ s₁ (mkF m 23 #[.val (.long q1), .second, .val (.long q2), .second, .val (.long (q2 / (2 : Int64))), .second, .unset, .unset] [(.long q2), (.long (q1 + (q2 / (2 : Int64))))])
    refine own_go (fun _ k => XS.ldiv X0.here hx rfl (hb hby d2_23) rfl hd k) ?_
    show own_Go p e below _ s₁ (mkF m 24 #[.val (.long q1), .second, .val (.long q2), .second, .val (.long (q2 / (2 : Int64))), .second, .unset, .unset] [(.long ((q1 + (q2 / (2 : Int64))) / q2))])
    exact own_endJ X0 hx hret hlk (hb hby d2_24) (by decide) (by decide) ⟨by rw [own_rf, if_neg hc], N0, e0⟩
set_option maxRecDepth 65536 in
set_option maxHeartbeats 40000000 in
theorem own_t24 {p : Program} {l : Launch} {e : Env} {s : State} {m : MethodId} {args : Array Value} {below : List Frame} {meth : Method} {c : Code} {T0 : State} {locs : List Loc} {Z : State} {a0 : Array Value} {h0 : Heap} {n0 : Nat} (q1 q2 n d : Int64) (X0 : Stand p l e room_1 s m args below meth c T0 locs 0 0)
    (hx : p.tables.exec = Jvm.exec) (hZ : Z.Warmed39 s.vm) (hw : ∀ d ∈ tables_1, d.before a0 Z = true) (hby : c.code = code) (hml : c.maxLocals = 10) (hown : s.vm.findClass "com/example/vestledger/vestledger/accounts/FixedPointDivideHalfUpPinLaw" = some m.cls) (hret : meth.sig.returnType = some .boolean) (hlk : meth.locks = false) (e0 : T0.heap = h0) (Z0 : n0 ≤ h0.size) (N0 : Fr n0 locs) (hn : 0 ≤ n.toInt) (hd : 1 ≤ d.toInt) :
    own_Go p e below (own_P (own_R (fun v _ L => v = some (.int 1) ∧ Fr n0 L)) room_1 s) T0 (mkF m 24 #[.val (.long q1), .second, .val (.long q2), .second, .val (.long n), .second, .val (.long d), .second, .unset, .unset] []) := by
  have hn' : ¬ n < (0 : Int64) := fun q => by rw [Int64.lt_iff_toInt_lt] at q; exact absurd hn (Int.not_le.mpr q)
  have hd' : d ≠ 0 := fun q => by rw [q] at hd; exact absurd hd (by decide)
  refine own_go (fun _ k => XS.lload X0.here hx rfl (hb hby at_24) rfl  k) ?_
  show own_Go p e below _ T0 (mkF m 26 #[.val (.long q1), .second, .val (.long q2), .second, .val (.long n), .second, .val (.long d), .second, .unset, .unset] [(.long n)])
  refine own_go (fun _ k => XS.lload X0.here hx rfl (hb hby at_26) rfl  k) ?_
  show own_Go p e below _ T0 (mkF m 28 #[.val (.long q1), .second, .val (.long q2), .second, .val (.long n), .second, .val (.long d), .second, .unset, .unset] [(.long d), (.long n)])
  obtain ⟨T1, v1, L1, X1, q1, st1⟩ := own_callS X0 hx hZ hown (y := (⟨"com/example/vestledger/vestledger/accounts/FixedPoint", "divideHalfUp", "(JJ)J"⟩ : MethodName)) (hw _ (List.mem_of_getElem? (i := 1) rfl)) (hw _ (List.mem_of_getElem? (i := 2) rfl)) (hw _ (List.mem_of_getElem? (i := 3) rfl)) (hw _ (List.mem_of_getElem? (i := 4) rfl)) (by decide) (rm1 l Z a0 hw [] n d h0 n0 Z0 hn' hd') (Ls := #[.val (.long q1), .second, .val (.long q2), .second, .val (.long n), .second, .val (.long d), .second, .unset, .unset]) (st := [(.long d), (.long n)]) (W := 0) (by decide) (by decide) (by rw [hml]; rfl) (argsL := [(.long n), (.long d)]) (rest := []) (lenOf pd_0 rfl) rfl rfl (Nat.le_of_eq rfl) (hb hby at_28) e0 (by decide) (by decide)
  obtain ⟨rfl, N1', e1⟩ := q1
  have N1 := Fr.app N0 N1'
  refine own_go st1 ?_
  show own_Go p e below _ T1 (mkF m 31 #[.val (.long q1), .second, .val (.long q2), .second, .val (.long n), .second, .val (.long d), .second, .unset, .unset] [(.long (own_dh n d))])
  refine own_go (fun _ k => XS.lstore X1.here hx rfl (hb hby at_31) rfl (l' := #[.val (.long q1), .second, .val (.long q2), .second, .val (.long n), .second, .val (.long d), .second, .val (.long (own_dh n d)), .second]) rfl k) ?_
  show own_Go p e below _ T1 (mkF m 33 #[.val (.long q1), .second, .val (.long q2), .second, .val (.long n), .second, .val (.long d), .second, .val (.long (own_dh n d)), .second] [])
  refine own_go (fun _ k => XS.lload X1.here hx rfl (hb hby at_33) rfl  k) ?_
  show own_Go p e below _ T1 (mkF m 35 #[.val (.long q1), .second, .val (.long q2), .second, .val (.long n), .second, .val (.long d), .second, .val (.long (own_dh n d)), .second] [(.long (own_dh n d))])
  refine own_go (fun _ k => XS.lload X1.here hx rfl (hb hby at_35) rfl  k) ?_
  show own_Go p e below _ T1 (mkF m 37 #[.val (.long q1), .second, .val (.long q2), .second, .val (.long n), .second, .val (.long d), .second, .val (.long (own_dh n d)), .second] [(.long n), (.long (own_dh n d))])
  refine own_go (fun _ k => XS.lload X1.here hx rfl (hb hby at_37) rfl  k) ?_
  show own_Go p e below _ T1 (mkF m 39 #[.val (.long q1), .second, .val (.long q2), .second, .val (.long n), .second, .val (.long d), .second, .val (.long (own_dh n d)), .second] [(.long d), (.long n), (.long (own_dh n d))])
  obtain ⟨T2, v2, L2, X2, q2, st2⟩ := own_callS X1 hx hZ hown (y := (⟨"com/example/vestledger/vestledger/accounts/FixedPointDivideHalfUpPinLaw", "reference", "(JJ)J"⟩ : MethodName)) (hw _ (List.mem_of_getElem? (i := 5) rfl)) (hw _ (List.mem_of_getElem? (i := 6) rfl)) (hw _ (List.mem_of_getElem? (i := 7) rfl)) (hw _ (List.mem_of_getElem? (i := 8) rfl)) (by decide) (rm2 l Z a0 hw [] n d h0 n0 Z0 hd') (Ls := #[.val (.long q1), .second, .val (.long q2), .second, .val (.long n), .second, .val (.long d), .second, .val (.long (own_dh n d)), .second]) (st := [(.long d), (.long n), (.long (own_dh n d))]) (W := 2) (by decide) (by decide) (by rw [hml]; rfl) (argsL := [(.long n), (.long d)]) (rest := [(.long (own_dh n d))]) (lenOf pd_0 rfl) rfl rfl (Nat.le_of_eq rfl) (hb hby at_39) e1 (by decide) (by decide)
  obtain ⟨rfl, N2', e2⟩ := q2
  have N2 := Fr.app N1 N2'
  refine own_go st2 ?_
  show own_Go p e below _ T2 (mkF m 42 #[.val (.long q1), .second, .val (.long q2), .second, .val (.long n), .second, .val (.long d), .second, .val (.long (own_dh n d)), .second] [(.long (own_rf n d)), (.long (own_dh n d))])
  refine own_go (fun _ k => XS.lcmp X2.here hx rfl (hb hby at_42) rfl k) ?_
  show own_Go p e below _ T2 (mkF m 43 #[.val (.long q1), .second, .val (.long q2), .second, .val (.long n), .second, .val (.long d), .second, .val (.long (own_dh n d)), .second] [(.int (lcmpW (own_dh n d) (own_rf n d)))])
  refine own_go (fun _ k => XS.ifNo X2.here hx rfl (hb hby at_43) rfl ((if0 _ _).trans (teq ((lw_eq _ _).mpr (own_same n d hn hd))).2) k) ?_
  show own_Go p e below _ T2 (mkF m 46 #[.val (.long q1), .second, .val (.long q2), .second, .val (.long n), .second, .val (.long d), .second, .val (.long (own_dh n d)), .second] [])
  refine own_go (fun _ k => XS.iconst X2.here hx rfl (hb hby at_46) k) ?_
  show own_Go p e below _ T2 (mkF m 47 #[.val (.long q1), .second, .val (.long q2), .second, .val (.long n), .second, .val (.long d), .second, .val (.long (own_dh n d)), .second] [(.int (1 : Int32))])
  refine own_go (fun _ k => XS.goto X2.here hx rfl (pc0 := 47) (pc' := 51) rfl (hb hby at_47) (by decide) (by decide) k) ?_
  show own_Go p e below _ T2 (mkF m 51 #[.val (.long q1), .second, .val (.long q2), .second, .val (.long n), .second, .val (.long d), .second, .val (.long (own_dh n d)), .second] [(.int (1 : Int32))])
  exact own_endZ X2 hx hret hlk (hb hby at_51) rfl (by decide) (by decide) ⟨rfl, N2⟩
theorem ef_0 (m : MethodId) (x0 : Int64) (x1 : Int64) : entryFrame m #[(.long x0), (.long x1)] maxLocals = mkF m 0 #[.val (.long x0), .second, .val (.long x1), .second, .unset, .unset, .unset, .unset, .unset, .unset] [] := by first | (simp [entryFrame, mkF, argsToLocals, Value.category, maxLocals]; done) | rfl
set_option maxRecDepth 65536 in
set_option maxHeartbeats 40000000 in
theorem rm0 (l : Launch) (Z : State) (a0 : Array Value) (hw : ∀ d ∈ tables_1, d.before a0 Z = true) (ws : List Jvm.Cond) (q1 : Int64) (q2 : Int64) (h0 : Heap) (n0 : Nat) (Z0 : n0 ≤ h0.size)  :
    MetFree l x (head1 (Jvm.Cond.code x code maxLocals ret :: ws) room_1) (fun a U => a = #[(.long q1), (.long q2)] ∧ Z.Warmed39 U.vm ∧ U.heap = h0) (fun _ _ _ _ _ => True) (fun _ U o U' => ∃ v L, o = .returned v ∧ (own_R (fun v _ L => v = some (.int 1) ∧ Fr n0 L)) v U'.heap L ∧ FrameEnd U o U' L room_1.cells room_1.slots) := by
  refine MetFree.of_bodySF (plainFor_of_name pn_1) hisR ?_
  intro p e s m args below meth c s₁ Bd hml0 hP hK
  obtain ⟨rfl, hZ, hh⟩ := hP
  have hx := Bd.exec
  have hby := Bd.bytes
  have hml : c.maxLocals = 10 := hml0
  have hown : s.vm.findClass "com/example/vestledger/vestledger/accounts/FixedPointDivideHalfUpPinLaw" = some m.cls := findClass_of_methodNamed Bd.named
  have hnm := (name_of_methodNamed Bd.named Bd.method).1
  have hret := Bd.returns
  have hlk : meth.locks = false := Bd.notSynchronized
  have X0 : Stand p l e room_1 s m #[(.long q1), (.long q2)] below meth c s₁ [] 0 0 := Stand.of_body Bd
  have e0 : s₁.heap = h0 := by rw [← hh, Bd.state]; rfl
  have N0 := Fr.nil n0
  show own_Go p e below (own_P (own_R (fun v _ L => v = some (.int 1) ∧ Fr n0 L)) room_1 s) s₁ (entryFrame m #[(.long q1), (.long q2)] maxLocals)
  rw [ef_0 m q1 q2]
  show own_Go p e below _ s₁ (mkF m 0 #[.val (.long q1), .second, .val (.long q2), .second, .unset, .unset, .unset, .unset, .unset, .unset] [])
  refine own_go (fun _ k => XS.lloadN X0.here hx rfl (hb hby at_0) rfl  k) ?_
  show own_Go p e below _ s₁ (mkF m 1 #[.val (.long q1), .second, .val (.long q2), .second, .unset, .unset, .unset, .unset, .unset, .unset] [(.long q1)])
  refine own_go (fun _ k => X0.ldc2Long hx hown (mvT hZ (hw _ (List.mem_of_getElem? (i := 0) rfl))) (g := (mkF m 1 #[.val (.long q1), .second, .val (.long q2), .second, .unset, .unset, .unset, .unset, .unset, .unset] [(.long q1)])) rfl (hb hby at_1) _ k) ?_
  show own_Go p e below _ s₁ (mkF m 4 #[.val (.long q1), .second, .val (.long q2), .second, .unset, .unset, .unset, .unset, .unset, .unset] [(.long (9223372036854775807 : Int64)), (.long q1)])
  refine own_go (fun _ k => XS.land X0.here hx rfl (hb hby at_4) rfl k) ?_
  show own_Go p e below _ s₁ (mkF m 5 #[.val (.long q1), .second, .val (.long q2), .second, .unset, .unset, .unset, .unset, .unset, .unset] [(.long (q1 &&& (9223372036854775807 : Int64)))])
  refine own_go (fun _ k => XS.lstore X0.here hx rfl (hb hby at_5) rfl (l' := #[.val (.long q1), .second, .val (.long q2), .second, .val (.long (q1 &&& (9223372036854775807 : Int64))), .second, .unset, .unset, .unset, .unset]) rfl k) ?_
  show own_Go p e below _ s₁ (mkF m 7 #[.val (.long q1), .second, .val (.long q2), .second, .val (.long (q1 &&& (9223372036854775807 : Int64))), .second, .unset, .unset, .unset, .unset] [])
  refine own_go (fun _ k => XS.lloadN X0.here hx rfl (hb hby at_7) rfl  k) ?_
  show own_Go p e below _ s₁ (mkF m 8 #[.val (.long q1), .second, .val (.long q2), .second, .val (.long (q1 &&& (9223372036854775807 : Int64))), .second, .unset, .unset, .unset, .unset] [(.long q2)])
  refine own_go (fun _ k => X0.ldc2Long hx hown (mvT hZ (hw _ (List.mem_of_getElem? (i := 0) rfl))) (g := (mkF m 8 #[.val (.long q1), .second, .val (.long q2), .second, .val (.long (q1 &&& (9223372036854775807 : Int64))), .second, .unset, .unset, .unset, .unset] [(.long q2)])) rfl (hb hby at_8) _ k) ?_
  show own_Go p e below _ s₁ (mkF m 11 #[.val (.long q1), .second, .val (.long q2), .second, .val (.long (q1 &&& (9223372036854775807 : Int64))), .second, .unset, .unset, .unset, .unset] [(.long (9223372036854775807 : Int64)), (.long q2)])
  refine own_go (fun _ k => XS.land X0.here hx rfl (hb hby at_11) rfl k) ?_
  show own_Go p e below _ s₁ (mkF m 12 #[.val (.long q1), .second, .val (.long q2), .second, .val (.long (q1 &&& (9223372036854775807 : Int64))), .second, .unset, .unset, .unset, .unset] [(.long (q2 &&& (9223372036854775807 : Int64)))])
  refine own_go (fun _ k => XS.lstore X0.here hx rfl (hb hby at_12) rfl (l' := #[.val (.long q1), .second, .val (.long q2), .second, .val (.long (q1 &&& (9223372036854775807 : Int64))), .second, .val (.long (q2 &&& (9223372036854775807 : Int64))), .second, .unset, .unset]) rfl k) ?_
  show own_Go p e below _ s₁ (mkF m 14 #[.val (.long q1), .second, .val (.long q2), .second, .val (.long (q1 &&& (9223372036854775807 : Int64))), .second, .val (.long (q2 &&& (9223372036854775807 : Int64))), .second, .unset, .unset] [])
  refine own_go (fun _ k => XS.lload X0.here hx rfl (hb hby at_14) rfl  k) ?_
  show own_Go p e below _ s₁ (mkF m 16 #[.val (.long q1), .second, .val (.long q2), .second, .val (.long (q1 &&& (9223372036854775807 : Int64))), .second, .val (.long (q2 &&& (9223372036854775807 : Int64))), .second, .unset, .unset] [(.long (q2 &&& (9223372036854775807 : Int64)))])
  refine own_go (fun _ k => XS.lconst X0.here hx rfl (hb hby at_16) k) ?_
  show own_Go p e below _ s₁ (mkF m 17 #[.val (.long q1), .second, .val (.long q2), .second, .val (.long (q1 &&& (9223372036854775807 : Int64))), .second, .val (.long (q2 &&& (9223372036854775807 : Int64))), .second, .unset, .unset] [(.long (0 : Int64)), (.long (q2 &&& (9223372036854775807 : Int64)))])
  refine own_go (fun _ k => XS.lcmp X0.here hx rfl (hb hby at_17) rfl k) ?_
  show own_Go p e below _ s₁ (mkF m 18 #[.val (.long q1), .second, .val (.long q2), .second, .val (.long (q1 &&& (9223372036854775807 : Int64))), .second, .val (.long (q2 &&& (9223372036854775807 : Int64))), .second, .unset, .unset] [(.int (lcmpW (q2 &&& (9223372036854775807 : Int64)) (0 : Int64)))])
  by_cases hz : (q2 &&& (9223372036854775807 : Int64)) = (0 : Int64)
  · refine own_go (fun _ k => XS.ifNo X0.here hx rfl (hb hby at_18) rfl ((if0 _ _).trans (teq ((lw_eq _ _).mpr hz)).2) k) ?_
    show own_Go p e below _ s₁ (mkF m 21 #[.val (.long q1), .second, .val (.long q2), .second, .val (.long (q1 &&& (9223372036854775807 : Int64))), .second, .val (.long (q2 &&& (9223372036854775807 : Int64))), .second, .unset, .unset] [])
    refine own_go (fun _ k => XS.lconst X0.here hx rfl (hb hby at_21) k) ?_
    show own_Go p e below _ s₁ (mkF m 22 #[.val (.long q1), .second, .val (.long q2), .second, .val (.long (q1 &&& (9223372036854775807 : Int64))), .second, .val (.long (q2 &&& (9223372036854775807 : Int64))), .second, .unset, .unset] [(.long (1 : Int64))])
    refine own_go (fun _ k => XS.lstore X0.here hx rfl (hb hby at_22) rfl (l' := #[.val (.long q1), .second, .val (.long q2), .second, .val (.long (q1 &&& (9223372036854775807 : Int64))), .second, .val (.long (1 : Int64)), .second, .unset, .unset]) rfl k) ?_
    show own_Go p e below _ s₁ (mkF m 24 #[.val (.long q1), .second, .val (.long q2), .second, .val (.long (q1 &&& (9223372036854775807 : Int64))), .second, .val (.long (1 : Int64)), .second, .unset, .unset] [])
    exact own_t24 q1 q2 _ _ X0 hx hZ hw hby hml hown hret hlk e0 Z0 N0 (own_m63 q1) (by decide)
  · refine own_go (fun _ k => XS.ifYes X0.here hx rfl (pc0 := 18) (pc' := 24) rfl (hb hby at_18) rfl ((if0 _ _).trans (feq ((not_congr (lw_eq _ _)).mpr hz)).2) (by decide) (by decide) k) ?_
    show own_Go p e below _ s₁ (mkF m 24 #[.val (.long q1), .second, .val (.long q2), .second, .val (.long (q1 &&& (9223372036854775807 : Int64))), .second, .val (.long (q2 &&& (9223372036854775807 : Int64))), .second, .unset, .unset] [])
    have hm := own_m63 q2
    have hz' : ¬ (q2 &&& (9223372036854775807 : Int64)).toInt = 0 := fun q => hz (Int64.toInt_inj.mp q)
    exact own_t24 q1 q2 _ _ X0 hx hZ hw hby hml hown hret hlk e0 Z0 N0 (own_m63 q1) (by omega)
set_option maxRecDepth 65536 in
set_option maxHeartbeats 40000000 in
theorem comes_1 {Post : Tables → Env → Array Value → State → Outcome → State → Prop} (hpost : ∀ tb e args s v u, (limb_1_1.after args s (.returned v) u = true ∧ limb_1_2.after args s (.returned v) u = true ∧ True) → FrameEnd s (.returned v) u (Jvm.fieldLocs frame_1_writes args s ++ Jvm.arrayLocs frame_1_arrays args s ++ Jvm.staticLocs frame_1_statics s) 0 0 → Post tb e args s (.returned v) u) :
    ArmFor flags0 classFile x code maxLocals ret World_1 tables_1 room_1 Calls_1 rest_1 Pre_1 Post := by
  intro l hfl _ _ p e ha hc hk s m args below hf hA hF happ hP
  obtain ⟨hcalls, hrest, hpre⟩ := hP
  obtain ⟨-, -, -, hnamed, -, -, -, hat⟩ := (Spec.applies_iff hf).mp happ
  obtain ⟨hg, hn⟩ := and_e (Cond.before_iff.mp (show (Jvm.Cond.and given_1 narrow_1).before args s = true from hpre))
  obtain ⟨k0, g0⟩ := and_e hg
  obtain ⟨k1, g1⟩ := and_e g0
  obtain ⟨w0, w1, rfl⟩ : ∃ w0 w1 : Value, args = #[w0, w1] := by
    have hs : args.size = 2 := by simpa [Cond.value, given_1] using k0
    obtain ⟨L⟩ := args
    match L, hs with
    | [w0, w1], _ => exact ⟨w0, w1, rfl⟩
  have hw := fun d (hd : d ∈ tables_1) => atoms_spec (ws := Jvm.Cond.code x code maxLocals ret :: tables_1) hat d (List.mem_cons_of_mem _ hd)
  obtain ⟨i0, ei0⟩ := isL_v k1
  obtain rfl : w0 = (.long i0) := Option.some.inj ei0
  obtain ⟨i1, ei1⟩ := isL_v g1
  obtain rfl : w1 = (.long i1) := Option.some.inj ei1
  obtain ⟨n, o, h1, h2, h3, _, L, rfl, ⟨rfl, N⟩, hq⟩ := rm0 l s _ hw tables_1 i0 i1 s.heap s.heap.size (Nat.le_refl _) p e ha hc hk s m _ below hf ((Spec.applies_iff_loose hf).mp happ).1 ⟨rfl, State.Warmed39.refl s, rfl⟩ trivial
  refine ⟨n, _, h1, h2, h3, hpost _ _ _ _ _ _ ⟨Cond.after_iff.mpr rfl, Cond.after_iff.mpr (eq_i res_at (Term.int_eval (1)) rfl), trivial⟩ ⟨hq.1, hq.2.1, (hq.2.2.sift fun y hy => Or.inr (N y hy)).mono (by decide) (by decide)⟩⟩
theorem main_1_1 : Claimed_1_1 := comes_1 fun _ _ _ _ _ _ h hF => ⟨h.1, hF⟩
theorem main_1_2 : Claimed_1_2 := comes_1 fun _ _ _ _ _ _ h hF => ⟨h.2.1, hF⟩
end Jvm.Pilot.@@N@@
namespace Jvm.Pilot.@@N@@
open Jvm Jvm.ClassFile Sem Op Lib Jvm.Free Jvm.Stand Jvm.Pilot.@@N@@.Jvm.D
/-! MADE BY PROGRAM (witnessworld.py) out of the Statement's table words and the real class files: 9 classes; the members and pool entries that the words name. The judged class is class 1, her method 2. -/
namespace start1
open Jvm.ClassFile
def u (s : String) : CpInfo := .utf8 (stringToUtf16 s)
/-- a pool by its gaps: so many unusable entries, then the entry; so many at the end -/
def gap : Nat → List CpInfo → List CpInfo
  | 0, r => r
  | n + 1, r => .unusable :: gap n r
def poolList (es : List (Nat × CpInfo)) (last : Nat) : List CpInfo := es.foldr (fun e r => gap e.1 (e.2 :: r)) (gap last [])
def pool (es : List (Nat × CpInfo)) (last : Nat) : Array CpInfo := ⟨poolList es last⟩
def fileOf (pool : Array CpInfo) (this : Nat) (attrs : Array Attribute := #[]) (ms : Array MethodInfo := #[]) (fl : Nat := 33) (sup : Nat := 0) (ifs : Array Nat := #[]) (fds : Array FieldInfo := #[]) : ClassFile where
  minorVersion := 0
  majorVersion := 65
  constantPool := pool
  accessFlags := fl
  thisClass := this
  superClass := sup
  interfaces := ifs
  fields := fds
  methods := ms
  attributes := attrs
def plain (name : String) (sup : Option ClassId) : Class where
  name := name
  kind := .ordinary
  loader := none
  accessFlags := 33
  super := sup
  interfaces := #[]
  cf := none
  fields := #[]
  methods := #[]
  instanceTypes := #[]
  staticTypes := #[]
  resolved := #[]
  callSites := []
  init := .initialized
  statics := none
  mirror := none

def pool0 : Array CpInfo := pool [(5, u "<init>"), (0, u "()V"), (1, .class_ 10), (1, u "java/lang/Object")] 113

def k0m0 : Method := { name := "<init>", desc := "()V", sig := { parameters := [], returnType := none }, accessFlags := 1, code := none }
/-- java/lang/Object -/
def k0 : Class := { plain "java/lang/Object" none with
  accessFlags := 33
  interfaces := #[]
  cf := some (fileOf pool0 8 #[] #[{ accessFlags := 1, nameIndex := 5, descriptorIndex := 6, attributes := #[] }] 33 0 #[] #[])
  fields := #[]
  methods := #[k0m0]
  instanceTypes := #[]
  staticTypes := #[]
  resolved := Array.replicate 124 none
  statics := none }

def pool1 : Array CpInfo := pool [(2, .class_ 4), (1, u "java/lang/Object"), (0, u "<init>"), (0, u "()V"), (0, .long 2), (3, .long 9223372036854775807), (1, .methodref 14 15), (0, .class_ 16), (0, .nameAndType 17 18), (0, u "com/example/vestledger/vestledger/accounts/FixedPoint"), (0, u "divideHalfUp"), (0, u "(JJ)J"), (0, .methodref 20 21), (0, .class_ 22), (0, .nameAndType 23 18), (0, u "com/example/vestledger/vestledger/accounts/FixedPointDivideHalfUpPinLaw"), (0, u "reference"), (3, u "law"), (0, u "(JJ)Z")] 2

def k1m0 : Method := { name := "<init>", desc := "()V", sig := { parameters := [], returnType := none }, accessFlags := 2, code := none }
def k1c1 : Code := { maxStack := 6, maxLocals := 8, code := method_2_code, exceptionTable := #[], attributes := #[] }
def k1m1 : Method := { name := "reference", desc := "(JJ)J", sig := { parameters := [.long, .long], returnType := some .long }, accessFlags := 10, code := some k1c1 }
def k1c2 : Code := { maxStack := 6, maxLocals := 10, code := code, exceptionTable := #[], attributes := #[] }
def k1m2 : Method := { name := "law", desc := "(JJ)Z", sig := { parameters := [.long, .long], returnType := some .boolean }, accessFlags := 9, code := some k1c2 }
/-- com/example/vestledger/vestledger/accounts/FixedPointDivideHalfUpPinLaw -/
def k1 : Class := { plain "com/example/vestledger/vestledger/accounts/FixedPointDivideHalfUpPinLaw" (some 0) with
  accessFlags := 49
  interfaces := #[]
  cf := some (fileOf pool1 20 #[] #[{ accessFlags := 2, nameIndex := 5, descriptorIndex := 6, attributes := #[] }, { accessFlags := 10, nameIndex := 23, descriptorIndex := 18, attributes := #[] }, { accessFlags := 9, nameIndex := 27, descriptorIndex := 28, attributes := #[] }] 49 2 #[] #[])
  fields := #[]
  methods := #[k1m0, k1m1, k1m2]
  instanceTypes := #[]
  staticTypes := #[]
  resolved := Array.replicate 31 none
  statics := none }

def pool2 : Array CpInfo := pool [(2, .class_ 4), (1, u "java/lang/Object"), (0, u "<init>"), (0, u "()V"), (17, .class_ 26), (1, u "com/example/vestledger/vestledger/accounts/FixedPoint"), (0, u "POWERS_OF_TEN"), (0, u "[J"), (55, u "divideHalfUp"), (0, u "(JJ)J")] 20

def k2m0 : Method := { name := "<init>", desc := "()V", sig := { parameters := [], returnType := none }, accessFlags := 2, code := none }
def k2c1 : Code := { maxStack := 6, maxLocals := 8, code := prog_16_method_4_code, exceptionTable := #[], attributes := #[] }
def k2m1 : Method := { name := "divideHalfUp", desc := "(JJ)J", sig := { parameters := [.long, .long], returnType := some .long }, accessFlags := 8, code := some k2c1 }
/-- com/example/vestledger/vestledger/accounts/FixedPoint -/
def k2 : Class := { plain "com/example/vestledger/vestledger/accounts/FixedPoint" (some 0) with
  accessFlags := 32
  interfaces := #[]
  cf := some (fileOf pool2 24 #[] #[{ accessFlags := 2, nameIndex := 5, descriptorIndex := 6, attributes := #[] }, { accessFlags := 8, nameIndex := 84, descriptorIndex := 85, attributes := #[] }] 32 2 #[] #[{ accessFlags := 26, nameIndex := 27, descriptorIndex := 28, attributes := #[] }])
  fields := #[{ name := "POWERS_OF_TEN", type := (.array .long), accessFlags := 26, slot := 0, constantValue := 0 }]
  methods := #[k2m0, k2m1]
  instanceTypes := #[]
  staticTypes := #[(.array .long)]
  resolved := Array.replicate 106 none
  statics := none }

def pool3 : Array CpInfo := pool [(1, u "java/lang/Cloneable"), (0, .class_ 1), (0, u "java/lang/Object"), (0, .class_ 3)] 3

/-- java/lang/Cloneable -/
def k3 : Class := { plain "java/lang/Cloneable" (some 0) with
  accessFlags := 1537
  interfaces := #[]
  cf := some (fileOf pool3 2 #[] #[] 1537 4 #[] #[])
  fields := #[]
  methods := #[]
  instanceTypes := #[]
  staticTypes := #[]
  resolved := Array.replicate 8 none
  statics := none }

def pool4 : Array CpInfo := pool [(1, u "java/io/Serializable"), (0, .class_ 1), (0, u "java/lang/Object"), (0, .class_ 3)] 3

/-- java/io/Serializable -/
def k4 : Class := { plain "java/io/Serializable" (some 0) with
  accessFlags := 1537
  interfaces := #[]
  cf := some (fileOf pool4 2 #[] #[] 1537 4 #[] #[])
  fields := #[]
  methods := #[]
  instanceTypes := #[]
  staticTypes := #[]
  resolved := Array.replicate 8 none
  statics := none }

/-- the primitive byte -/
def k5 : Class := { plain "byte" none with kind := .primitive 'B', accessFlags := 0x411 }
/-- [B -/
def k6 : Class := { plain "[B" (some 0) with kind := .array 5 .byte, interfaces := #[3, 4], accessFlags := 1041 }

/-- the primitive int -/
def k7 : Class := { plain "int" none with kind := .primitive 'I', accessFlags := 0x411 }
/-- [I -/
def k8 : Class := { plain "[I" (some 0) with kind := .array 7 .int, interfaces := #[3, 4], accessFlags := 1041 }

def heap : Heap := #[]
def classes : Array Class := #[k0, k1, k2, k3, k4, k5, k6, k7, k8]
def interned : List (Array UInt16 × Addr) := []
def slotsUsed : Nat := 0
def theMethod : MethodId := ⟨1, 2⟩
def args0 : Array Value := #[.long 5, .long 3]
def aboutOver (below : List Frame) : State where
  vm := { classes := classes, interned := interned.toArray }
  heap := heap
  slotsUsed := slotsUsed
  threads := #[{ frames := .invoking theMethod args0 :: below }]
def below0 : List Frame := [.native { method := ⟨0, 0⟩, args := #[] }]
def about1 : State := aboutOver below0
def p0 : Program := .bare "" "" ""
def e0 : Env := launch0.env 0 0 0
theorem w_frames : about1.frames = Frame.invoking theMethod args0 :: below0 := rfl
set_option maxRecDepth 65536 in
theorem w_args : argsFit about1.vm theMethod args0 = true := by decide +kernel
set_option maxRecDepth 65536 in
theorem w_heap : heapFits about1 = true := by decide +kernel
set_option maxRecDepth 65536 in
theorem w_runnable : about1.curStatus? = some .runnable := by decide +kernel
set_option maxRecDepth 65536 in
theorem w_alone : about1.alone = true := by decide +kernel
set_option maxRecDepth 65536 in
theorem w_named : about1.methodNamed? x = some theMethod := by decide +kernel
set_option maxRecDepth 65536 in
theorem w_hears : about1.hears theMethod below0 = true := by decide +kernel
set_option maxRecDepth 65536 in
theorem w_ripe : about1.ripe theMethod args0 below0 = true := by decide +kernel
theorem w_running : about1.status = .running := rfl
set_option maxRecDepth 65536 in
theorem w_room : about1.hasRoom e0.platform room_1 = true :=
  launch0.hasRoom_least _ room_1 (by decide +kernel) (by decide +kernel) (by decide +kernel) (by decide +kernel) (by decide +kernel) (by decide +kernel)
theorem allAtoms_all (ts : List Jvm.Cond) (a : Array Jvm.Value) (st : Jvm.State) : (allAtoms ts).before a st = ts.all (fun c => c.before a st) := by
  induction ts with
  | nil => rfl
  | cons c t ih =>
    show (Jvm.Cond.and c (allAtoms t)).before a st = _
    rw [Jvm.Cond.before_and, ih, List.all_cons]
def words1 : List Jvm.Cond := Jvm.Cond.code x code maxLocals ret :: tables_1
/-- a 'code' word, met by the world's own term for the bytes: nothing is compared byte by byte -/
theorem code_word {y : MethodName} {bytes : ByteArray} {mx : Nat} {rt : Option FieldType} {a : Array Value} {s : State} {m : MethodId} {meth : Method} {c : Code} (h1 : s.methodNamed? y = some m) (h2 : s.vm.method? m = some meth) (h3 : meth.code = some c) (h4 : c.code = bytes)
    (h5 : (c.maxLocals == mx && c.exceptionTable.isEmpty && decide (c.maxStack ≤ mostOperands) && decide (meth.sig.returnType = rt) && !meth.locks && decide (parseMethodDescriptor y.desc = some meth.sig)) = true) : (Jvm.Cond.code y bytes mx rt).before a s = true := by
  simp only [Bool.and_eq_true, beq_iff_eq, Bool.not_eq_true', decide_eq_true_eq] at h5
  obtain ⟨⟨⟨⟨⟨g1, g2⟩, g3⟩, g4⟩, g5⟩, g6⟩ := h5
  simp [Cond.before, Cond.holds, Cond.value, h1, h2, h3, h4, g1, g2, g3, g4, g5, g6]
def isCode : Jvm.Cond → Bool
  | .code _ _ _ _ => true
  | _ => false
theorem all_split {L : List Jvm.Cond} {P : Jvm.Cond → Bool} (h1 : L.all (fun c => isCode c || P c) = true) (h2 : ∀ c ∈ L.filter isCode, P c = true) : L.all P = true := by
  refine List.all_eq_true.mpr fun c hc => ?_
  have h := List.all_eq_true.mp h1 c hc
  rcases Bool.eq_false_or_eq_true (isCode c) with hi | hi
  · exact h2 c (List.mem_filter.mpr ⟨hc, hi⟩)
  · simpa [hi] using h
set_option maxRecDepth 65536 in
theorem w_c0 : (Jvm.Cond.code x code maxLocals ret).before args0 about1 = true := code_word (m := ⟨1, 2⟩) (meth := k1m2) (c := k1c2) (by decide +kernel) rfl rfl rfl (by decide +kernel)
set_option maxRecDepth 65536 in
theorem w_c1 : (Jvm.Cond.code ({ cls := "com/example/vestledger/vestledger/accounts/FixedPoint", name := "divideHalfUp", desc := "(JJ)J" } : Jvm.MethodName) prog_16_method_4_code (8 : Nat) (Option.some Jvm.ClassFile.FieldType.long)).before args0 about1 = true := code_word (m := ⟨2, 1⟩) (meth := k2m1) (c := k2c1) (by decide +kernel) rfl rfl rfl (by decide +kernel)
set_option maxRecDepth 65536 in
theorem w_c2 : (Jvm.Cond.code ({ cls := "com/example/vestledger/vestledger/accounts/FixedPointDivideHalfUpPinLaw", name := "reference", desc := "(JJ)J" } : Jvm.MethodName) method_2_code (8 : Nat) (Option.some Jvm.ClassFile.FieldType.long)).before args0 about1 = true := code_word (m := ⟨1, 1⟩) (meth := k1m1) (c := k1c1) (by decide +kernel) rfl rfl rfl (by decide +kernel)
def codes1 : List Jvm.Cond := [Jvm.Cond.code x code maxLocals ret, Jvm.Cond.code ({ cls := "com/example/vestledger/vestledger/accounts/FixedPoint", name := "divideHalfUp", desc := "(JJ)J" } : Jvm.MethodName) prog_16_method_4_code (8 : Nat) (Option.some Jvm.ClassFile.FieldType.long), Jvm.Cond.code ({ cls := "com/example/vestledger/vestledger/accounts/FixedPointDivideHalfUpPinLaw", name := "reference", desc := "(JJ)J" } : Jvm.MethodName) method_2_code (8 : Nat) (Option.some Jvm.ClassFile.FieldType.long)]
set_option maxRecDepth 65536 in
theorem codes_eq : words1.filter isCode = codes1 := rfl
theorem w_codes : ∀ c ∈ words1.filter isCode, c.before args0 about1 = true := by
  rw [codes_eq]
  intro c hc
  simp only [codes1, List.mem_cons, List.not_mem_nil, or_false] at hc
  rcases hc with rfl | rfl | rfl
  · exact w_c0
  · exact w_c1
  · exact w_c2
set_option maxRecDepth 65536 in
theorem w_t1 : words1.all (fun c => isCode c || c.before args0 about1) = true := by decide +kernel
theorem w_tables : (allAtoms (Jvm.Cond.code x code maxLocals ret :: tables_1)).before args0 about1 = true := by
  rw [allAtoms_all]
  show words1.all (fun c => c.before args0 about1) = true
  refine all_split ?_ w_codes
  rw [w_t1]
set_option maxRecDepth 65536 in
theorem w_case : (Jvm.Cond.and given_1 narrow_1).before args0 about1 = true := by decide +kernel
theorem w_applies : (headSpec (Jvm.Cond.code x code maxLocals ret :: tables_1) room_1).applies x e0.platform about1 = true :=
  (Spec.applies_iff w_frames).mpr ⟨w_running, w_runnable, w_alone, w_named, w_hears, w_ripe, w_room, w_tables⟩
theorem atStart : AtStart classFile x code maxLocals ret World_1 tables_1 room_1 Calls_1 rest_1 Pre_1 launch0 p0 e0 about1 theMethod args0 below0 :=
  ⟨lists_1, trivial, launch0.admits_env _ _ _, launch0.least_env, fairChoices_fair.cas, fairChoices_fair.clock, w_frames, w_args, w_heap, w_applies, trivial, trivial, w_case⟩
end start1
theorem witness_1 : WitnessClaimed_1 := ⟨start1.p0, start1.e0, start1.about1, start1.theMethod, start1.args0, start1.below0, start1.atStart⟩
end Jvm.Pilot.@@N@@
