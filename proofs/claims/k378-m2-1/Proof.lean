import JvmDerived
import JvmDerived.Pilot.@@N@@Statement
import JvmDerived.Pilot.@@N@@Code
set_option linter.unusedVariables false
set_option linter.unusedSimpArgs false
namespace Jvm.Pilot.@@N@@
open Jvm Jvm.ClassFile Sem Op Lib Jvm.Free Jvm.Stand Jvm.LawKit Jvm.RoadKit Bundle Jvm.Pilot.@@N@@.Jvm.D
section Own
variable {p : Program} {l : Launch} {e : Env} {R : Room} {s : State} {m : MethodId} {args : Array Value} {below : List Frame} {meth : Method} {c : Code} {T : State} {locs : List Loc} {cells slots : Nat} {Z : State} {a0 : Array Value} {h : Heap}
/-- from this frame on the run ends, and P holds at the end -/
def own_Go (p : Program) (e : Env) (below : List Frame) (P : Outcome → State → Prop) (T : State) (f : JFrame) : Prop :=
  ∃ s₂ o, Steps p.tables e below (T.setTop f) s₂ ∧ s₂.status = .running ∧ Ended s₂ below o ∧ P o s₂
theorem own_go {P : Outcome → State → Prop} {T T' : State} {f f' : JFrame} (st : ∀ target, Steps p.tables e below (T'.setTop f') target → Steps p.tables e below (T.setTop f) target) (hg : own_Go p e below P T' f') : own_Go p e below P T f := by
  obtain ⟨s₂, o, h1, h2⟩ := hg
  exact ⟨s₂, o, st _ h1, h2⟩
/-- what a contract says of the end -/
def own_P (Q : Option Value → Heap → List Loc → Prop) (rm : Room) (s : State) (o : Outcome) (U : State) : Prop :=
  ∃ v L, o = .returned v ∧ Q v U.heap L ∧ FrameEnd s o U L rm.cells rm.slots
/-- a contract of a body that writes nothing and returns v -/
def own_pure (v : Option Value) (h0 : Heap) (n0 : Nat) (w : Option Value) (h : Heap) (L : List Loc) : Prop := w = v ∧ Fr n0 L ∧ h = h0
/-- a contract's word, held together -/
def own_R (Q : Option Value → Heap → List Loc → Prop) : Option Value → Heap → List Loc → Prop := Q
theorem own_endZ {Q : Option Value → Heap → List Loc → Prop} (X : Stand p l e R s m args below meth c T locs cells slots) (hx : p.tables.exec = Jvm.exec) (hret : meth.sig.returnType = some .boolean) (hlk : meth.locks = false) {pc : Nat} {Ls : Array Slot} {z : Int32} {rest : List Value}
    (hd : decode c.code pc = .ok (.ireturn, 1)) (hn : narrow .boolean (.int z) = .int z) (hc : cells ≤ R.cells) (hs : slots ≤ R.slots) (hQ : Q (some (.int z)) T.heap locs) : own_Go p e below (own_P Q R s) T (mkF m pc Ls (.int z :: rest)) := by
  obtain ⟨fs, hr, hrun, hended, hW, hsame⟩ := X.leave (v := some (.int z)) (fun h => by rw [hret] at h; cases h) hlk
  exact ⟨_, _, retOut X hx hret hn (Or.inl ⟨rfl, Or.inr (Or.inl rfl), z, rfl⟩) hd hr, hrun, hended, _, _, rfl, hQ, ⟨_, rfl⟩, hW, hsame.mono hc hs⟩
theorem own_endI {Q : Option Value → Heap → List Loc → Prop} (X : Stand p l e R s m args below meth c T locs cells slots) (hx : p.tables.exec = Jvm.exec) (hret : meth.sig.returnType = some .int) (hlk : meth.locks = false) {pc : Nat} {Ls : Array Slot} {z : Int32} {rest : List Value}
    (hd : decode c.code pc = .ok (.ireturn, 1)) (hc : cells ≤ R.cells) (hs : slots ≤ R.slots) (hQ : Q (some (.int z)) T.heap locs) : own_Go p e below (own_P Q R s) T (mkF m pc Ls (.int z :: rest)) := by
  obtain ⟨fs, hr, hrun, hended, hW, hsame⟩ := X.leave (v := some (.int z)) (fun h => by rw [hret] at h; cases h) hlk
  exact ⟨_, _, retOut X hx hret rfl (Or.inl ⟨rfl, Or.inl rfl, z, rfl⟩) hd hr, hrun, hended, _, _, rfl, hQ, ⟨_, rfl⟩, hW, hsame.mono hc hs⟩
theorem own_endJ {Q : Option Value → Heap → List Loc → Prop} (X : Stand p l e R s m args below meth c T locs cells slots) (hx : p.tables.exec = Jvm.exec) (hret : meth.sig.returnType = some .long) (hlk : meth.locks = false) {pc : Nat} {Ls : Array Slot} {z : Int64} {rest : List Value}
    (hd : decode c.code pc = .ok (.lreturn, 1)) (hc : cells ≤ R.cells) (hs : slots ≤ R.slots) (hQ : Q (some (.long z)) T.heap locs) : own_Go p e below (own_P Q R s) T (mkF m pc Ls (.long z :: rest)) := by
  obtain ⟨fs, hr, hrun, hended, hW, hsame⟩ := X.leave (v := some (.long z)) (fun h => by rw [hret] at h; cases h) hlk
  exact ⟨_, _, retOut X hx hret rfl (Or.inr (Or.inl ⟨rfl, rfl, z, rfl⟩)) hd hr, hrun, hended, _, _, rfl, hQ, ⟨_, rfl⟩, hW, hsame.mono hc hs⟩
theorem own_endA {Q : Option Value → Heap → List Loc → Prop} {t : FieldType} (X : Stand p l e R s m args below meth c T locs cells slots) (hx : p.tables.exec = Jvm.exec) (hret : meth.sig.returnType = some t) (ht : t.isReference = true) (hlk : meth.locks = false) {pc : Nat} {Ls : Array Slot} {a : Addr} {rest : List Value}
    (hd : decode c.code pc = .ok (.areturn, 1)) (hn : narrow t (.ref a) = .ref a) (hc : cells ≤ R.cells) (hs : slots ≤ R.slots) (hQ : Q (some (.ref a)) T.heap locs) : own_Go p e below (own_P Q R s) T (mkF m pc Ls (.ref a :: rest)) := by
  obtain ⟨fs, hr, hrun, hended, hW, hsame⟩ := X.leave (v := some (.ref a)) (fun h => by rw [hret] at h; cases h) hlk
  exact ⟨_, _, retOut X hx hret hn (Or.inr (Or.inr (Or.inr (Or.inr ⟨rfl, ht, rfl⟩)))) hd hr, hrun, hended, _, _, rfl, hQ, ⟨_, rfl⟩, hW, hsame.mono hc hs⟩
theorem own_endV {Q : Option Value → Heap → List Loc → Prop} (X : Stand p l e R s m args below meth c T locs cells slots) (hx : p.tables.exec = Jvm.exec) (hret : meth.sig.returnType = none) (hlk : meth.locks = false) {pc : Nat} {Ls : Array Slot}
    (hd : decode c.code pc = .ok (.return_, 1)) (hc : cells ≤ R.cells) (hs : slots ≤ R.slots) (hQ : Q none T.heap locs) : own_Go p e below (own_P Q R s) T (mkF m pc Ls []) := by
  obtain ⟨fs, hr, hrun, hended, hW, hsame⟩ := X.leave (v := none) (fun _ => rfl) hlk
  exact ⟨_, _, X.returnOut hx hret hd hr, hrun, hended, _, _, rfl, hQ, ⟨_, rfl⟩, hW, hsame.mono hc hs⟩
/-- a static call, paid by the callee's contract -/
theorem own_callS (X : Stand p l e R s m args below meth c T locs cells slots) (hx : p.tables.exec = Jvm.exec) (hZ : Z.Warmed39 s.vm) {own : String} {index : Nat} {y : MethodName} {bytes : ByteArray} {maxL : Nat} {ret : Option FieldType} (hown : s.vm.findClass own = some m.cls)
    (w1 : (Cond.methodLink own index y).before a0 Z = true) (w2 : (Cond.static y).before a0 Z = true) (w3 : (Cond.initialized y.cls).before a0 Z = true) (w4 : (Cond.code y bytes maxL ret).before a0 Z = true) (hy : y.cls ≠ "java/lang/invoke/MethodHandle" ∧ y.cls ≠ "java/lang/invoke/VarHandle")
    {rm : Room} {as' : Array Value} {Q : Option Value → Heap → List Loc → Prop}
    (hM : MetFree l y (head1 [Cond.code y bytes maxL ret] rm) (fun a U => a = as' ∧ Z.Warmed39 U.vm ∧ U.heap = h) (fun _ _ _ _ _ => True) (fun _ U o U' => ∃ v L, o = .returned v ∧ Q v U'.heap L ∧ FrameEnd U o U' L rm.cells rm.slots))
    {Ls : Array Slot} {st : List Value} {W : Nat} (hf : rm.frames + 1 ≤ R.frames) (hl : W + (maxL + 11) + rm.locals ≤ R.locals) {pc : Nat} (hsize : Ls.size = c.maxLocals) {argsL rest : List Value} (hlen : ∀ sig, parseMethodDescriptor y.desc = some sig → argsL.length = sig.parameters.length)
    (has : argsL.toArray = as') (hstack : st = argsL.reverse ++ rest) (hW : (rest.map fun v => v.category).sum ≤ W) (hd : decode c.code pc = .ok (.invokestatic index, 3)) (eT : T.heap = h) (hc : cells + rm.cells ≤ R.cells) (hs : slots + rm.slots ≤ R.slots) :
    ∃ T' v L, Stand p l e R s m args below meth c T' (locs ++ L) (cells + rm.cells) (slots + rm.slots) ∧ Q v T'.heap L ∧ ∀ target, Steps p.tables e below (T'.setTop (mkF m (pc + 3) Ls (v.toList ++ rest))) target → Steps p.tables e below (T.setTop (mkF m pc Ls st)) target := by
  obtain ⟨v, _, ⟨T', L', k', n'⟩, -, X', ⟨L, hQ, l1, l2, l3⟩, st'⟩ := Jvm.LawKit.callS X hx (y := y) hown (mvT hZ w1) (mvT hZ w2) (mvT hZ w3) (mvT hZ w4) hy (backOf (W := W) hM hZ w4 w3 hf hl) (g := mkF m pc Ls st) rfl hsize (argsL := argsL) (rest := rest) hlen hstack (by show 2 * 0 + _ ≤ _; omega) hd (fun _ _ => ⟨has, eT, hc, hs⟩)
  dsimp only [Pt.U, Pt.locs, Pt.cells, Pt.slots] at X' l1 l2 l3 st' hQ
  subst l1 l2 l3
  exact ⟨T', v, L, X', hQ, st'⟩
/-- a constructor's call, paid by its contract -/
theorem own_callC (X : Stand p l e R s m args below meth c T locs cells slots) (hx : p.tables.exec = Jvm.exec) (hZ : Z.Warmed39 s.vm) {own : String} {index : Nat} {y : MethodName} {bytes : ByteArray} {maxL : Nat} (hy1 : y.name = "<init>") (hown : s.vm.findClass own = some m.cls)
    (w1 : (Cond.methodLink own index y).before a0 Z = true) (w2 : (Cond.instanceMethod y).before a0 Z = true) (w3 : (Cond.initialized y.cls).before a0 Z = true) (w4 : (Cond.code y bytes maxL none).before a0 Z = true) (hy : y.cls ≠ "java/lang/invoke/MethodHandle" ∧ y.cls ≠ "java/lang/invoke/VarHandle")
    {rm : Room} {as' : Array Value} {Q : Option Value → Heap → List Loc → Prop}
    (hM : MetFree l y (head1 [Cond.code y bytes maxL none] rm) (fun a U => a = as' ∧ Z.Warmed39 U.vm ∧ U.heap = h) (fun _ _ _ _ _ => True) (fun _ U o U' => ∃ v L, o = .returned v ∧ Q v U'.heap L ∧ FrameEnd U o U' L rm.cells rm.slots))
    {Ls : Array Slot} {st : List Value} {W : Nat} (hf : rm.frames + 1 ≤ R.frames) (hl : W + (maxL + 11) + rm.locals ≤ R.locals) {pc : Nat} (hsize : Ls.size = c.maxLocals) {a : Addr} {argsL rest : List Value} (hlen : ∀ sig, parseMethodDescriptor y.desc = some sig → argsL.length = sig.parameters.length)
    (has : (.ref a :: argsL).toArray = as') (hstack : st = argsL.reverse ++ .ref a :: rest) (hW : (rest.map fun v => v.category).sum ≤ W) (hd : decode c.code pc = .ok (.invokespecial index, 3)) (eT : T.heap = h) (hc : cells + rm.cells ≤ R.cells) (hs : slots + rm.slots ≤ R.slots) :
    ∃ T' v L, Stand p l e R s m args below meth c T' (locs ++ L) (cells + rm.cells) (slots + rm.slots) ∧ Q v T'.heap L ∧ ∀ target, Steps p.tables e below (T'.setTop (mkF m (pc + 3) Ls (v.toList ++ rest))) target → Steps p.tables e below (T.setTop (mkF m pc Ls st)) target := by
  obtain ⟨v, _, ⟨T', L', k', n'⟩, -, X', ⟨L, hQ, l1, l2, l3⟩, st'⟩ := X.specialBack hx (y := y) hy1 hown (mvT hZ w1) (mvT hZ w2) (mvT hZ w4) hy (backOf (W := W) hM hZ w4 w3 hf hl) (g := mkF m pc Ls st) rfl hsize (Steps.refl _) (a := a) (argsL := argsL) (rest := rest) hlen hstack (by show 2 * 0 + _ ≤ _; omega) hd (fun _ _ => ⟨has, eT, hc, hs⟩)
  dsimp only [Pt.U, Pt.locs, Pt.cells, Pt.slots] at X' l1 l2 l3 st' hQ
  subst l1 l2 l3
  exact ⟨T', v, L, X', hQ, fun _ k => st'.trans k⟩
/-- an instance method's call, paid by its contract -/
theorem own_callV (X : Stand p l e R s m args below meth c T locs cells slots) (hx : p.tables.exec = Jvm.exec) (hZ : Z.Warmed39 s.vm) {own : String} {index : Nat} {y : MethodName} {bytes : ByteArray} {maxL : Nat} {ret : Option FieldType} (hown : s.vm.findClass own = some m.cls)
    (w1 : (Cond.methodLink own index y).before a0 Z = true) (w2 : (Cond.declares y).before a0 Z = true) (w5 : (Cond.selects y.cls y y).before a0 Z = true) (w6 : (Cond.instanceMethod y).before a0 Z = true) (w3 : (Cond.initialized y.cls).before a0 Z = true) (w4 : (Cond.code y bytes maxL ret).before a0 Z = true) (hy : y.cls ≠ "java/lang/invoke/MethodHandle" ∧ y.cls ≠ "java/lang/invoke/VarHandle")
    {rm : Room} {as' : Array Value} {Q : Option Value → Heap → List Loc → Prop}
    (hM : MetFree l y (head1 [Cond.code y bytes maxL ret] rm) (fun a U => a = as' ∧ Z.Warmed39 U.vm ∧ U.heap = h) (fun _ _ _ _ _ => True) (fun _ U o U' => ∃ v L, o = .returned v ∧ Q v U'.heap L ∧ FrameEnd U o U' L rm.cells rm.slots))
    {a : Addr} (E : Exa Z h a y.cls)
    {Ls : Array Slot} {st : List Value} {W : Nat} (hf : rm.frames + 1 ≤ R.frames) (hl : W + (maxL + 11) + rm.locals ≤ R.locals) {pc : Nat} (hsize : Ls.size = c.maxLocals) {argsL rest : List Value} (hlen : ∀ sig, parseMethodDescriptor y.desc = some sig → argsL.length = sig.parameters.length)
    (has : (.ref a :: argsL).toArray = as') (hstack : st = argsL.reverse ++ .ref a :: rest) (hW : (rest.map fun v => v.category).sum ≤ W) (hd : decode c.code pc = .ok (.invokevirtual index, 3)) (eT : T.heap = h) (hc : cells + rm.cells ≤ R.cells) (hs : slots + rm.slots ≤ R.slots) :
    ∃ T' v L, Stand p l e R s m args below meth c T' (locs ++ L) (cells + rm.cells) (slots + rm.slots) ∧ Q v T'.heap L ∧ ∀ target, Steps p.tables e below (T'.setTop (mkF m (pc + 3) Ls (v.toList ++ rest))) target → Steps p.tables e below (T.setTop (mkF m pc Ls st)) target := by
  obtain ⟨cq, kq, qa, qb, qc⟩ := isOf hZ eT E
  obtain ⟨v, _, ⟨T', L', k', n'⟩, -, X', ⟨L, hQ, l1, l2, l3⟩, st'⟩ := X.virtualBack hx (y := y) (z := y) hown (mvT hZ w1) (mvT hZ w2) (notFace_of_selects (args := #[]) (mvT hZ w5)) (mvT hZ w5) (mvT hZ w6) hy (backOf (W := W) hM hZ w4 w3 hf hl) qa qc (g := mkF m pc Ls st) rfl hsize (Steps.refl _) (argsL := argsL) (rest := rest) hlen hstack (by show 2 * 0 + _ ≤ _; omega) hd (fun _ _ => ⟨has, eT, hc, hs⟩)
  dsimp only [Pt.U, Pt.locs, Pt.cells, Pt.slots] at X' l1 l2 l3 st' hQ
  subst l1 l2 l3
  exact ⟨T', v, L, X', hQ, fun _ k => st'.trans k⟩
/-- a private instance method's call by invokevirtual, paid by its contract; that the class is no interface, another method's 'selects' word says -/
theorem own_callP (X : Stand p l e R s m args below meth c T locs cells slots) (hx : p.tables.exec = Jvm.exec) (hZ : Z.Warmed39 s.vm) {own : String} {index : Nat} {y z : MethodName} {bytes : ByteArray} {maxL : Nat} {ret : Option FieldType} (hown : s.vm.findClass own = some m.cls)
    (w1 : (Cond.methodLink own index y).before a0 Z = true) (wp : (Cond.privateMethod y).before a0 Z = true) (w5 : (Cond.selects y.cls z z).before a0 Z = true) (hz : z.cls = y.cls) (w6 : (Cond.instanceMethod y).before a0 Z = true) (w3 : (Cond.initialized y.cls).before a0 Z = true) (w4 : (Cond.code y bytes maxL ret).before a0 Z = true) (hy : y.cls ≠ "java/lang/invoke/MethodHandle" ∧ y.cls ≠ "java/lang/invoke/VarHandle")
    {rm : Room} {as' : Array Value} {Q : Option Value → Heap → List Loc → Prop}
    (hM : MetFree l y (head1 [Cond.code y bytes maxL ret] rm) (fun a U => a = as' ∧ Z.Warmed39 U.vm ∧ U.heap = h) (fun _ _ _ _ _ => True) (fun _ U o U' => ∃ v L, o = .returned v ∧ Q v U'.heap L ∧ FrameEnd U o U' L rm.cells rm.slots))
    {a : Addr} (E : Exa Z h a y.cls)
    {Ls : Array Slot} {st : List Value} {W : Nat} (hf : rm.frames + 1 ≤ R.frames) (hl : W + (maxL + 11) + rm.locals ≤ R.locals) {pc : Nat} (hsize : Ls.size = c.maxLocals) {argsL rest : List Value} (hlen : ∀ sig, parseMethodDescriptor y.desc = some sig → argsL.length = sig.parameters.length)
    (has : (.ref a :: argsL).toArray = as') (hstack : st = argsL.reverse ++ .ref a :: rest) (hW : (rest.map fun v => v.category).sum ≤ W) (hd : decode c.code pc = .ok (.invokevirtual index, 3)) (eT : T.heap = h) (hc : cells + rm.cells ≤ R.cells) (hs : slots + rm.slots ≤ R.slots) :
    ∃ T' v L, Stand p l e R s m args below meth c T' (locs ++ L) (cells + rm.cells) (slots + rm.slots) ∧ Q v T'.heap L ∧ ∀ target, Steps p.tables e below (T'.setTop (mkF m (pc + 3) Ls (v.toList ++ rest))) target → Steps p.tables e below (T.setTop (mkF m pc Ls st)) target := by
  have hpriv : s.PrivateAt y := Cond.privateMethod_at (mvP hZ wp (args := #[]))
  obtain ⟨c2, r2, m2, q1, q2, q3, q4, kP, hkP, hkPi⟩ := Cond.selects_spec (show (Cond.selects y.cls z z).before args s = true from mvT hZ w5)
  have hcl : s.vm.findClass y.cls = some m2.cls := by rw [← hz]; exact findClass_of_methodNamed q3
  have hsel := selects_self_of_private (args := args) hcl hkP hkPi hpriv (mvT hZ w6) hy
  obtain ⟨cell, hcell, hobj⟩ := E.cell
  obtain ⟨v, _, ⟨T', L', k', n'⟩, -, X', ⟨L, hQ, l1, l2, l3⟩, st'⟩ := X.privateBack hx (y := y) hown (mvT hZ w1) (mvT hZ w6) hsel hpriv (mvT hZ w4) hy (backOf (W := W) hM hZ w4 w3 hf hl) (g := mkF m pc Ls st) rfl hsize (Steps.refl _) (a := a) (by rw [eT]; exact hcell) hobj (argsL := argsL) (rest := rest) hlen hstack (by show 2 * 0 + _ ≤ _; omega) hd (fun _ _ => ⟨has, eT, hc, hs⟩)
  dsimp only [Pt.U, Pt.locs, Pt.cells, Pt.slots] at X' l1 l2 l3 st' hQ
  subst l1 l2 l3
  exact ⟨T', v, L, X', hQ, fun _ k => st'.trans k⟩
end Own
theorem pd_0 : parseMethodDescriptor "()V" = some ⟨[], none⟩ := by decide +kernel
theorem pd_1 : parseMethodDescriptor "(JJ)J" = some ⟨[.long, .long], some .long⟩ := by decide +kernel
theorem pd_2 : parseMethodDescriptor "(JJ)V" = some ⟨[.long, .long], none⟩ := by decide +kernel
theorem pd_3 : parseMethodDescriptor "(J)J" = some ⟨[.long], some .long⟩ := by decide +kernel
theorem pd_4 : parseMethodDescriptor "(JJJ)Z" = some ⟨[.long, .long, .long], some .boolean⟩ := by decide +kernel
theorem pn_0 : plainName "java/lang/Record" = true := by first | (simp [plainName, overriddenIn]; done) | decide +kernel
theorem pn_1 : plainName "com/example/ossature/ossature/SequenceRangeElement" = true := by first | (simp [plainName, overriddenIn]; done) | decide +kernel
theorem pn_2 : plainName "com/example/ossature/ossature/SequenceRangeElementIndexCountPinLaw" = true := by first | (simp [plainName, overriddenIn]; done) | decide +kernel
theorem d1_0 : decode jdk_29_method_66_code 0 = .ok (.lload_n 0, 1) := by decide +kernel
theorem d1_1 : decode jdk_29_method_66_code 1 = .ok (.lload_n 2, 1) := by decide +kernel
theorem d1_2 : decode jdk_29_method_66_code 2 = .ok (.lcmp, 1) := by decide +kernel
theorem d1_3 : decode jdk_29_method_66_code 3 = .ok (.ifCond .lt 7, 3) := by decide +kernel
theorem d1_6 : decode jdk_29_method_66_code 6 = .ok (.lload_n 0, 1) := by decide +kernel
theorem d1_7 : decode jdk_29_method_66_code 7 = .ok (.goto 4, 3) := by decide +kernel
theorem d1_10 : decode jdk_29_method_66_code 10 = .ok (.lload_n 2, 1) := by decide +kernel
theorem d1_11 : decode jdk_29_method_66_code 11 = .ok (.lreturn, 1) := by decide +kernel
theorem d2_0 : decode prog_87_method_1_code 0 = .ok (.aload_n 0, 1) := by decide +kernel
theorem d2_1 : decode prog_87_method_1_code 1 = .ok (.invokespecial 1, 3) := by decide +kernel
theorem d2_4 : decode prog_87_method_1_code 4 = .ok (.aload_n 0, 1) := by decide +kernel
theorem d2_5 : decode prog_87_method_1_code 5 = .ok (.lload_n 1, 1) := by decide +kernel
theorem d2_6 : decode prog_87_method_1_code 6 = .ok (.putfield 7, 3) := by decide +kernel
theorem d2_9 : decode prog_87_method_1_code 9 = .ok (.aload_n 0, 1) := by decide +kernel
theorem d2_10 : decode prog_87_method_1_code 10 = .ok (.lload_n 3, 1) := by decide +kernel
theorem d2_11 : decode prog_87_method_1_code 11 = .ok (.putfield 13, 3) := by decide +kernel
theorem d2_14 : decode prog_87_method_1_code 14 = .ok (.return_, 1) := by decide +kernel
theorem d3_0 : decode jdk_30_method_1_code 0 = .ok (.aload_n 0, 1) := by decide +kernel
theorem d3_1 : decode jdk_30_method_1_code 1 = .ok (.invokespecial 1, 3) := by decide +kernel
theorem d3_4 : decode jdk_30_method_1_code 4 = .ok (.return_, 1) := by decide +kernel
theorem d5_0 : decode prog_87_method_2_code 0 = .ok (.aload_n 0, 1) := by decide +kernel
theorem d5_1 : decode prog_87_method_2_code 1 = .ok (.getfield 13, 3) := by decide +kernel
theorem d5_4 : decode prog_87_method_2_code 4 = .ok (.lconst 0, 1) := by decide +kernel
theorem d5_5 : decode prog_87_method_2_code 5 = .ok (.lcmp, 1) := by decide +kernel
theorem d5_6 : decode prog_87_method_2_code 6 = .ok (.ifCond .le 21, 3) := by decide +kernel
theorem d5_9 : decode prog_87_method_2_code 9 = .ok (.lload_n 1, 1) := by decide +kernel
theorem d5_10 : decode prog_87_method_2_code 10 = .ok (.lconst 1, 1) := by decide +kernel
theorem d5_11 : decode prog_87_method_2_code 11 = .ok (.lsub, 1) := by decide +kernel
theorem d5_12 : decode prog_87_method_2_code 12 = .ok (.aload_n 0, 1) := by decide +kernel
theorem d5_13 : decode prog_87_method_2_code 13 = .ok (.getfield 7, 3) := by decide +kernel
theorem d5_16 : decode prog_87_method_2_code 16 = .ok (.lsub, 1) := by decide +kernel
theorem d5_17 : decode prog_87_method_2_code 17 = .ok (.aload_n 0, 1) := by decide +kernel
theorem d5_18 : decode prog_87_method_2_code 18 = .ok (.getfield 13, 3) := by decide +kernel
theorem d5_21 : decode prog_87_method_2_code 21 = .ok (.ldiv, 1) := by decide +kernel
theorem d5_22 : decode prog_87_method_2_code 22 = .ok (.lconst 1, 1) := by decide +kernel
theorem d5_23 : decode prog_87_method_2_code 23 = .ok (.ladd, 1) := by decide +kernel
theorem d5_24 : decode prog_87_method_2_code 24 = .ok (.goto 15, 3) := by decide +kernel
theorem d5_27 : decode prog_87_method_2_code 27 = .ok (.aload_n 0, 1) := by decide +kernel
theorem d5_28 : decode prog_87_method_2_code 28 = .ok (.getfield 7, 3) := by decide +kernel
theorem d5_31 : decode prog_87_method_2_code 31 = .ok (.aload_n 0, 1) := by decide +kernel
theorem d5_32 : decode prog_87_method_2_code 32 = .ok (.getfield 13, 3) := by decide +kernel
theorem d5_35 : decode prog_87_method_2_code 35 = .ok (.lneg, 1) := by decide +kernel
theorem d5_36 : decode prog_87_method_2_code 36 = .ok (.ldiv, 1) := by decide +kernel
theorem d5_37 : decode prog_87_method_2_code 37 = .ok (.lconst 1, 1) := by decide +kernel
theorem d5_38 : decode prog_87_method_2_code 38 = .ok (.ladd, 1) := by decide +kernel
theorem d5_39 : decode prog_87_method_2_code 39 = .ok (.lreturn, 1) := by decide +kernel
theorem d6_0 : decode method_3_code 0 = .ok (.lload_n 0, 1) := by decide +kernel
theorem d6_1 : decode method_3_code 1 = .ok (.lconst 1, 1) := by decide +kernel
theorem d6_2 : decode method_3_code 2 = .ok (.lsub, 1) := by decide +kernel
theorem d6_3 : decode method_3_code 3 = .ok (.lstore 6, 2) := by decide +kernel
theorem d6_5 : decode method_3_code 5 = .ok (.lload 6, 2) := by decide +kernel
theorem d6_7 : decode method_3_code 7 = .ok (.lconst 0, 1) := by decide +kernel
theorem d6_8 : decode method_3_code 8 = .ok (.lcmp, 1) := by decide +kernel
theorem d6_9 : decode method_3_code 9 = .ok (.ifCond .lt 10, 3) := by decide +kernel
theorem d6_12 : decode method_3_code 12 = .ok (.lload 6, 2) := by decide +kernel
theorem d6_14 : decode method_3_code 14 = .ok (.lload_n 2, 1) := by decide +kernel
theorem d6_15 : decode method_3_code 15 = .ok (.lcmp, 1) := by decide +kernel
theorem d6_16 : decode method_3_code 16 = .ok (.ifCond .le 5, 3) := by decide +kernel
theorem d6_19 : decode method_3_code 19 = .ok (.iconst 0, 1) := by decide +kernel
theorem d6_20 : decode method_3_code 20 = .ok (.ireturn, 1) := by decide +kernel
theorem d6_21 : decode method_3_code 21 = .ok (.lload 6, 2) := by decide +kernel
theorem d6_23 : decode method_3_code 23 = .ok (.lconst 0, 1) := by decide +kernel
theorem d6_24 : decode method_3_code 24 = .ok (.lcmp, 1) := by decide +kernel
theorem d6_25 : decode method_3_code 25 = .ok (.ifCond .le 15, 3) := by decide +kernel
theorem d6_28 : decode method_3_code 28 = .ok (.lload 4, 2) := by decide +kernel
theorem d6_30 : decode method_3_code 30 = .ok (.lload_n 2, 1) := by decide +kernel
theorem d6_31 : decode method_3_code 31 = .ok (.lload 6, 2) := by decide +kernel
theorem d6_33 : decode method_3_code 33 = .ok (.ldiv, 1) := by decide +kernel
theorem d6_34 : decode method_3_code 34 = .ok (.lcmp, 1) := by decide +kernel
theorem d6_35 : decode method_3_code 35 = .ok (.ifCond .le 5, 3) := by decide +kernel
theorem d6_38 : decode method_3_code 38 = .ok (.iconst 0, 1) := by decide +kernel
theorem d6_39 : decode method_3_code 39 = .ok (.ireturn, 1) := by decide +kernel
theorem d6_40 : decode method_3_code 40 = .ok (.lload_n 2, 1) := by decide +kernel
theorem d6_41 : decode method_3_code 41 = .ok (.lload 6, 2) := by decide +kernel
theorem d6_43 : decode method_3_code 43 = .ok (.lconst 1, 1) := by decide +kernel
theorem d6_44 : decode method_3_code 44 = .ok (.ladd, 1) := by decide +kernel
theorem d6_45 : decode method_3_code 45 = .ok (.ldiv, 1) := by decide +kernel
theorem d6_46 : decode method_3_code 46 = .ok (.lload 4, 2) := by decide +kernel
theorem d6_48 : decode method_3_code 48 = .ok (.lcmp, 1) := by decide +kernel
theorem d6_49 : decode method_3_code 49 = .ok (.ifCond .ge 7, 3) := by decide +kernel
theorem d6_52 : decode method_3_code 52 = .ok (.iconst 1, 1) := by decide +kernel
theorem d6_53 : decode method_3_code 53 = .ok (.goto 4, 3) := by decide +kernel
theorem d6_56 : decode method_3_code 56 = .ok (.iconst 0, 1) := by decide +kernel
theorem d6_57 : decode method_3_code 57 = .ok (.ireturn, 1) := by decide +kernel
/-- what max returns -/
def own_max (a b : Int64) : Int64 := if a < b then b else a
/-- what indexCount returns -/
def own_ix (st sp cn : Int64) : Int64 := if (0 : Int64) < sp then ((cn - (1 : Int64)) - st) / sp + (1 : Int64) else st / (-sp) + (1 : Int64)
theorem own_lt {a b : Int64} : a < b ↔ a.toInt < b.toInt := Int64.lt_iff_toInt_lt
theorem own_eq {a b : Int64} : a = b ↔ a.toInt = b.toInt := Int64.toInt_inj.symm
theorem own_one : (1 : Int64).toInt = 1 := rfl
theorem own_zero : (0 : Int64).toInt = 0 := rfl
theorem own_min : (-9223372036854775808 : Int64).toInt = -9223372036854775808 := rfl
theorem own_m63 (x : Int64) : 0 ≤ (x &&& (9223372036854775807 : Int64)).toInt := by
  have := c_maskL x 9223372036854775807 63 (by decide) (by decide)
  omega
theorem own_cnt (x : Int64) : 1 ≤ (own_max (1 : Int64) (x &&& (9223372036854775807 : Int64))).toInt := by
  unfold own_max
  by_cases h : (1 : Int64) < (x &&& (9223372036854775807 : Int64))
  · rw [if_pos h]; rw [own_lt, own_one] at h; omega
  · rw [if_neg h, own_one]; exact Int.le_refl _
theorem own_start (x c : Int64) (hx : 0 ≤ x.toInt) (hc : 1 ≤ c.toInt) : 0 ≤ (x - (x / c) * c).toInt ∧ (x - (x / c) * c).toInt < c.toInt := by
  rw [(c_lrem x c c.toInt rfl).1 hx]
  exact ⟨Int.emod_nonneg _ (by omega), Int.emod_lt_of_pos _ (by omega)⟩
/-- what fitsExactly asks, met by q = room / m -/
theorem own_fit (r m : Int64) (hr : 0 ≤ r.toInt) (hr2 : r.toInt < 9223372036854775807) (hm : 1 ≤ m.toInt) :
    (r / m + (1 : Int64) - (1 : Int64)) = r / m ∧ ¬ (r / m) < (0 : Int64) ∧ ¬ r < (r / m) ∧ ((0 : Int64) < (r / m) → ¬ (r / (r / m)) < m) ∧ (r / m + (1 : Int64)) ≠ 0 ∧ (r / (r / m + (1 : Int64))) < m := by
  have dm : m ≠ -1 := fun q => by rw [q] at hm; exact absurd hm (by decide)
  have hq := (c_ldiv r m m.toInt rfl dm).1 hr
  have qn : 0 ≤ r.toInt / m.toInt := Int.ediv_nonneg hr (by omega)
  have ql : r.toInt / m.toInt ≤ r.toInt := Int.ediv_le_self _ hr
  have a1 := c_ladd (r / m) 1
  have a2 := rng64 (r / m + 1)
  have a3 := own_one
  have a4 : (r / m + (1 : Int64)).toInt = r.toInt / m.toInt + 1 := by omega
  have a5 := c_lsub (r / m + (1 : Int64)) 1
  have a6 := rng64 (r / m + (1 : Int64) - (1 : Int64))
  have z := own_zero
  have em := Int.mul_ediv_add_emod r.toInt m.toInt
  have e2 := Int.emod_nonneg r.toInt (show m.toInt ≠ 0 by omega)
  have e3 := Int.emod_lt_of_pos r.toInt (show 0 < m.toInt by omega)
  refine ⟨own_eq.mpr (by omega), fun h => ?_, fun h => ?_, fun h1 h => ?_, fun h => ?_, ?_⟩
  · rw [own_lt] at h; omega
  · rw [own_lt] at h; omega
  · rw [own_lt, z, hq] at h1
    have dq : (r / m) ≠ -1 := fun q => by rw [q] at hq; have : (-1 : Int64).toInt = -1 := rfl; omega
    rw [own_lt, (c_ldiv r (r / m) _ hq dq).1 hr] at h
    have := (Int.le_ediv_iff_mul_le h1 (a := m.toInt) (b := r.toInt)).mpr (by omega)
    omega
  · rw [own_eq, a4, z] at h; omega
  · have dq : (r / m + (1 : Int64)) ≠ -1 := fun q => by rw [q] at a4; have : (-1 : Int64).toInt = -1 := rfl; omega
    rw [own_lt, (c_ldiv r (r / m + (1 : Int64)) _ a4 dq).1 hr]
    refine (Int.ediv_lt_iff_lt_mul (by omega)).mpr ?_
    rw [Int.mul_add, Int.mul_one]
    omega
theorem own_ixMin (st sp cn : Int64) (h0 : 0 ≤ st.toInt) (h : sp = (-9223372036854775808 : Int64)) : own_ix st sp cn = (1 : Int64) := by
  subst h
  have r := rng64 st
  have e : (-(-9223372036854775808 : Int64)) = (-9223372036854775808 : Int64) := by decide
  unfold own_ix
  rw [if_neg (by decide), e]
  have q := (c_ldiv st (-9223372036854775808) (-9223372036854775808) rfl (by decide)).1 h0
  rw [Int.ediv_neg] at q
  have z : st / (-9223372036854775808 : Int64) = 0 := own_eq.mpr (by rw [own_zero]; omega)
  rw [z]; rfl
theorem own_neg0 (sp : Int64) (h : ¬ sp = (0 : Int64)) : (-sp) ≠ 0 := fun q => h (by
  have a := c_lneg sp
  have r := rng64 sp
  rw [own_eq, own_zero] at q
  rw [own_eq, own_zero]
  omega)
theorem ef_1 (m : MethodId) (x0 : Int64) (x1 : Int64) : entryFrame m #[(.long x0), (.long x1)] 4 = mkF m 0 #[.val (.long x0), .second, .val (.long x1), .second] [] := by first | (simp [entryFrame, mkF, argsToLocals, Value.category]; done) | rfl
set_option maxRecDepth 65536 in
set_option maxHeartbeats 40000000 in
theorem rmM (l : Launch) (Z : State) (a0 : Array Value) (hw : ∀ d ∈ tables_1, d.before a0 Z = true) (ws : List Jvm.Cond) (q1 : Int64) (q2 : Int64) (h0 : Heap) (n0 : Nat) (Z0 : n0 ≤ h0.size)  :
    MetFree l (⟨"java/lang/Math", "max", "(JJ)J"⟩ : MethodName) (head1 (Jvm.Cond.code (⟨"java/lang/Math", "max", "(JJ)J"⟩ : MethodName) jdk_29_method_66_code 4 (some .long) :: ws) ({ frames := 0, cells := 0, slots := 0, locals := 0 } : Room)) (fun a U => a = #[(.long q1), (.long q2)] ∧ Z.Warmed39 U.vm ∧ U.heap = h0) (fun _ _ _ _ _ => True) (fun _ U o U' => ∃ v L, o = .returned v ∧ (own_pure (some (.long (own_max q1 q2))) h0 n0) v U'.heap L ∧ FrameEnd U o U' L ({ frames := 0, cells := 0, slots := 0, locals := 0 } : Room).cells ({ frames := 0, cells := 0, slots := 0, locals := 0 } : Room).slots) := by
  refine MetFree.of_bodySF (Jvm.Free.JP.mathPlain rfl (by decide +kernel)) hisR ?_
  intro p e s m args below meth c s₁ Bd hml0 hP hK
  obtain ⟨rfl, hZ, hh⟩ := hP
  have hx := Bd.exec
  have hby := Bd.bytes
  have hml : c.maxLocals = 4 := hml0
  have hown : s.vm.findClass "java/lang/Math" = some m.cls := findClass_of_methodNamed Bd.named
  have hnm := (name_of_methodNamed Bd.named Bd.method).1
  have hret := Bd.returns
  have hlk : meth.locks = false := Bd.notSynchronized
  have X0 : Stand p l e ({ frames := 0, cells := 0, slots := 0, locals := 0 } : Room) s m #[(.long q1), (.long q2)] below meth c s₁ [] 0 0 := Stand.of_body Bd
  have e0 : s₁.heap = h0 := by rw [← hh, Bd.state]; rfl
  have N0 := Fr.nil n0
  show own_Go p e below (own_P (own_pure (some (.long (own_max q1 q2))) h0 n0) ({ frames := 0, cells := 0, slots := 0, locals := 0 } : Room) s) s₁ (entryFrame m #[(.long q1), (.long q2)] 4)
  rw [ef_1 m q1 q2]
  show own_Go p e below _ s₁ (mkF m 0 #[.val (.long q1), .second, .val (.long q2), .second] [])
  refine own_go (fun _ k => XS.lloadN X0.here hx rfl (hb hby d1_0) rfl  k) ?_
  show own_Go p e below _ s₁ (mkF m 1 #[.val (.long q1), .second, .val (.long q2), .second] [(.long q1)])
  refine own_go (fun _ k => XS.lloadN X0.here hx rfl (hb hby d1_1) rfl  k) ?_
  show own_Go p e below _ s₁ (mkF m 2 #[.val (.long q1), .second, .val (.long q2), .second] [(.long q2), (.long q1)])
  refine own_go (fun _ k => XS.lcmp X0.here hx rfl (hb hby d1_2) rfl k) ?_
  show own_Go p e below _ s₁ (mkF m 3 #[.val (.long q1), .second, .val (.long q2), .second] [(.int (lcmpW q1 q2))])
  by_cases hc : q1 < q2
  · refine own_go (fun _ k => XS.ifYes X0.here hx rfl (pc0 := 3) (pc' := 10) rfl (hb hby d1_3) rfl ((if0 _ _).trans (tlt ((lw_lt _ _).mpr hc)).1) (by decide) (by decide) k) ?_
    show own_Go p e below _ s₁ (mkF m 10 #[.val (.long q1), .second, .val (.long q2), .second] [])
    refine own_go (fun _ k => XS.lloadN X0.here hx rfl (hb hby d1_10) rfl  k) ?_
    show own_Go p e below _ s₁ (mkF m 11 #[.val (.long q1), .second, .val (.long q2), .second] [(.long q2)])
    exact own_endJ X0 hx hret hlk (hb hby d1_11) (by decide) (by decide) ⟨by rw [own_max, if_pos hc], N0, e0⟩
  · refine own_go (fun _ k => XS.ifNo X0.here hx rfl (hb hby d1_3) rfl ((if0 _ _).trans (flt ((not_congr (lw_lt _ _)).mpr hc)).1) k) ?_
    show own_Go p e below _ s₁ (mkF m 6 #[.val (.long q1), .second, .val (.long q2), .second] [])
    refine own_go (fun _ k => XS.lloadN X0.here hx rfl (hb hby d1_6) rfl  k) ?_
    show own_Go p e below _ s₁ (mkF m 7 #[.val (.long q1), .second, .val (.long q2), .second] [(.long q1)])
    refine own_go (fun _ k => XS.goto X0.here hx rfl (pc0 := 7) (pc' := 11) rfl (hb hby d1_7) (by decide) (by decide) k) ?_
    show own_Go p e below _ s₁ (mkF m 11 #[.val (.long q1), .second, .val (.long q2), .second] [(.long q1)])
    exact own_endJ X0 hx hret hlk (hb hby d1_11) (by decide) (by decide) ⟨by rw [own_max, if_neg hc], N0, e0⟩
theorem ef_3 (m : MethodId) (x0 : Addr) : entryFrame m #[(.ref x0)] 1 = mkF m 0 #[.val (.ref x0)] [] := by first | (simp [entryFrame, mkF, argsToLocals, Value.category]; done) | rfl
set_option maxRecDepth 65536 in
set_option maxHeartbeats 40000000 in
theorem rmR (l : Launch) (Z : State) (a0 : Array Value) (hw : ∀ d ∈ tables_1, d.before a0 Z = true) (ws : List Jvm.Cond) (a1 : Addr) (h0 : Heap) (n0 : Nat) (Z0 : n0 ≤ h0.size)  :
    MetFree l (⟨"java/lang/Record", "<init>", "()V"⟩ : MethodName) (head1 (Jvm.Cond.code (⟨"java/lang/Record", "<init>", "()V"⟩ : MethodName) jdk_30_method_1_code 1 none :: ws) ({ frames := 1, cells := 0, slots := 0, locals := 12 } : Room)) (fun a U => a = #[(.ref a1)] ∧ Z.Warmed39 U.vm ∧ U.heap = h0) (fun _ _ _ _ _ => True) (fun _ U o U' => ∃ v L, o = .returned v ∧ (own_pure none h0 n0) v U'.heap L ∧ FrameEnd U o U' L ({ frames := 1, cells := 0, slots := 0, locals := 12 } : Room).cells ({ frames := 1, cells := 0, slots := 0, locals := 12 } : Room).slots) := by
  refine MetFree.of_bodySF (plainFor_of_name pn_0) hisR ?_
  intro p e s m args below meth c s₁ Bd hml0 hP hK
  obtain ⟨rfl, hZ, hh⟩ := hP
  have hx := Bd.exec
  have hby := Bd.bytes
  have hml : c.maxLocals = 1 := hml0
  have hown : s.vm.findClass "java/lang/Record" = some m.cls := findClass_of_methodNamed Bd.named
  have hnm := (name_of_methodNamed Bd.named Bd.method).1
  have hret := Bd.returns
  have hlk : meth.locks = false := Bd.notSynchronized
  have X0 : Stand p l e ({ frames := 1, cells := 0, slots := 0, locals := 12 } : Room) s m #[(.ref a1)] below meth c s₁ [] 0 0 := Stand.of_body Bd
  have e0 : s₁.heap = h0 := by rw [← hh, Bd.state]; rfl
  have N0 := Fr.nil n0
  show own_Go p e below (own_P (own_pure none h0 n0) ({ frames := 1, cells := 0, slots := 0, locals := 12 } : Room) s) s₁ (entryFrame m #[(.ref a1)] 1)
  rw [ef_3 m a1]
  show own_Go p e below _ s₁ (mkF m 0 #[.val (.ref a1)] [])
  refine own_go (fun _ k => XS.aloadN X0.here hx rfl (hb hby d3_0) rfl rfl k) ?_
  show own_Go p e below _ s₁ (mkF m 1 #[.val (.ref a1)] [(.ref a1)])
  obtain ⟨T1, X1, e1, st1⟩ := initO X0 hx hZ hown (hw _ (List.mem_of_getElem? (i := 16) rfl)) (hw _ (List.mem_of_getElem? (i := 17) rfl)) (hw _ (List.mem_of_getElem? (i := 18) rfl)) e0 (g := (mkF m 1 #[.val (.ref a1)] [(.ref a1)])) rfl (by rw [hml]; rfl) rfl (hb hby d3_1) (by decide) (W := 0) (by show 2 * 0 + _ ≤ _; exact Nat.le_of_eq rfl) (by decide)
  refine own_go st1 ?_
  show own_Go p e below _ T1 (mkF m 4 #[.val (.ref a1)] [])
  exact own_endV X1 hx hret hlk (hb hby d3_4) (by decide) (by decide) ⟨rfl, N0, e1⟩
def own_Ob (Z : State) (h : Heap) (a : Addr) (st sp : Int64) : Prop := Exa Z h a "com/example/ossature/ossature/SequenceRangeElement" ∧ Fld Z h a "com/example/ossature/ossature/SequenceRangeElement" "start" "J" (.long st) ∧ Fld Z h a "com/example/ossature/ossature/SequenceRangeElement" "step" "J" (.long sp)
theorem ef_2 (m : MethodId) (x0 : Addr) (x1 : Int64) (x2 : Int64) : entryFrame m #[(.ref x0), (.long x1), (.long x2)] 5 = mkF m 0 #[.val (.ref x0), .val (.long x1), .second, .val (.long x2), .second] [] := by first | (simp [entryFrame, mkF, argsToLocals, Value.category]; done) | rfl
set_option maxRecDepth 65536 in
set_option maxHeartbeats 40000000 in
theorem rmI (l : Launch) (Z : State) (a0 : Array Value) (hw : ∀ d ∈ tables_1, d.before a0 Z = true) (ws : List Jvm.Cond) (a1 : Addr) (q1 : Int64) (q2 : Int64) (h0 : Heap) (n0 : Nat) (Z0 : n0 ≤ h0.size) (E0 : Exa Z h0 a1 "com/example/ossature/ossature/SequenceRangeElement") (F1 : Fld Z h0 a1 "com/example/ossature/ossature/SequenceRangeElement" "start" "J" (.long 0)) (F2 : Fld Z h0 a1 "com/example/ossature/ossature/SequenceRangeElement" "step" "J" (.long 0)) (g1 : n0 ≤ a1) :
    MetFree l (⟨"com/example/ossature/ossature/SequenceRangeElement", "<init>", "(JJ)V"⟩ : MethodName) (head1 (Jvm.Cond.code (⟨"com/example/ossature/ossature/SequenceRangeElement", "<init>", "(JJ)V"⟩ : MethodName) prog_87_method_1_code 5 none :: ws) ({ frames := 2, cells := 0, slots := 0, locals := 24 } : Room)) (fun a U => a = #[(.ref a1), (.long q1), (.long q2)] ∧ Z.Warmed39 U.vm ∧ U.heap = h0) (fun _ _ _ _ _ => True) (fun _ U o U' => ∃ v L, o = .returned v ∧ (own_R (fun v h L => v = none ∧ Fr n0 L ∧ h0.size ≤ h.size ∧ own_Ob Z h a1 q1 q2)) v U'.heap L ∧ FrameEnd U o U' L ({ frames := 2, cells := 0, slots := 0, locals := 24 } : Room).cells ({ frames := 2, cells := 0, slots := 0, locals := 24 } : Room).slots) := by
  refine MetFree.of_bodySF (plainFor_of_name pn_1) hisR ?_
  intro p e s m args below meth c s₁ Bd hml0 hP hK
  obtain ⟨rfl, hZ, hh⟩ := hP
  have hx := Bd.exec
  have hby := Bd.bytes
  have hml : c.maxLocals = 5 := hml0
  have hown : s.vm.findClass "com/example/ossature/ossature/SequenceRangeElement" = some m.cls := findClass_of_methodNamed Bd.named
  have hnm := (name_of_methodNamed Bd.named Bd.method).1
  have hret := Bd.returns
  have hlk : meth.locks = false := Bd.notSynchronized
  have X0 : Stand p l e ({ frames := 2, cells := 0, slots := 0, locals := 24 } : Room) s m #[(.ref a1), (.long q1), (.long q2)] below meth c s₁ [] 0 0 := Stand.of_body Bd
  have e0 : s₁.heap = h0 := by rw [← hh, Bd.state]; rfl
  have N0 := Fr.nil n0
  show own_Go p e below (own_P (own_R (fun v h L => v = none ∧ Fr n0 L ∧ h0.size ≤ h.size ∧ own_Ob Z h a1 q1 q2)) ({ frames := 2, cells := 0, slots := 0, locals := 24 } : Room) s) s₁ (entryFrame m #[(.ref a1), (.long q1), (.long q2)] 5)
  rw [ef_2 m a1 q1 q2]
  show own_Go p e below _ s₁ (mkF m 0 #[.val (.ref a1), .val (.long q1), .second, .val (.long q2), .second] [])
  refine own_go (fun _ k => XS.aloadN X0.here hx rfl (hb hby d2_0) rfl rfl k) ?_
  show own_Go p e below _ s₁ (mkF m 1 #[.val (.ref a1), .val (.long q1), .second, .val (.long q2), .second] [(.ref a1)])
  obtain ⟨T2, v2, L2, X2, q2, st2⟩ := own_callC X0 hx hZ (y := (⟨"java/lang/Record", "<init>", "()V"⟩ : MethodName)) rfl hown (hw _ (List.mem_of_getElem? (i := 11) rfl)) (hw _ (List.mem_of_getElem? (i := 12) rfl)) (hw _ (List.mem_of_getElem? (i := 14) rfl)) (hw _ (List.mem_of_getElem? (i := 15) rfl)) (by decide) (rmR l Z a0 hw [] a1 h0 n0 Z0) (Ls := #[.val (.ref a1), .val (.long q1), .second, .val (.long q2), .second]) (st := [(.ref a1)]) (a := a1) (W := 0) (by decide) (by decide) (by rw [hml]; rfl) (argsL := []) (rest := []) (lenOf pd_0 rfl) rfl rfl (Nat.le_of_eq rfl) (hb hby d2_1) e0 (by decide) (by decide)
  obtain ⟨rfl, N2', e2⟩ := q2
  have N2 := Fr.app N0 N2'
  refine own_go st2 ?_
  show own_Go p e below _ T2 (mkF m 4 #[.val (.ref a1), .val (.long q1), .second, .val (.long q2), .second] [])
  refine own_go (fun _ k => XS.aloadN X2.here hx rfl (hb hby d2_4) rfl rfl k) ?_
  show own_Go p e below _ T2 (mkF m 5 #[.val (.ref a1), .val (.long q1), .second, .val (.long q2), .second] [(.ref a1)])
  refine own_go (fun _ k => XS.lloadN X2.here hx rfl (hb hby d2_5) rfl  k) ?_
  show own_Go p e below _ T2 (mkF m 6 #[.val (.ref a1), .val (.long q1), .second, .val (.long q2), .second] [(.long q1), (.ref a1)])
  obtain ⟨T3, h3, X3, e3, W3, st3⟩ := putF X2 hx hZ hown (host := "") (Or.inl (hw _ (List.mem_of_getElem? (i := 19) rfl))) Via.refl e2 F1 E0 (Or.inr ⟨(hw _ (List.mem_of_getElem? (i := 20) rfl)), rfl, hnm⟩) (hw _ (List.mem_of_getElem? (i := 6) rfl)) (ty := .long) (by decide) rfl rfl (g := (mkF m 6 #[.val (.ref a1), .val (.long q1), .second, .val (.long q2), .second] [(.long q1), (.ref a1)])) rfl rfl (hb hby d2_6)
  have N3 := Fr.snoc X3 N2 g1
  refine own_go st3 ?_
  show own_Go p e below _ T3 (mkF m 9 #[.val (.ref a1), .val (.long q1), .second, .val (.long q2), .second] [])
  have F1' := F1.same W3
  have F2' := F2.other W3 (Or.inr (slot_ne (Z := Z) (a0 := a0) (C := "com/example/ossature/ossature/SequenceRangeElement") (Or.inr (hw _ (List.mem_of_getElem? (i := 22) rfl))) (Or.inr (hw _ (List.mem_of_getElem? (i := 20) rfl))) (by decide) (t := .long) (t' := .long) (by decide) (by decide)))
  have E1 := E0.wr W3
  refine own_go (fun _ k => XS.aloadN X3.here hx rfl (hb hby d2_9) rfl rfl k) ?_
  show own_Go p e below _ T3 (mkF m 10 #[.val (.ref a1), .val (.long q1), .second, .val (.long q2), .second] [(.ref a1)])
  refine own_go (fun _ k => XS.lloadN X3.here hx rfl (hb hby d2_10) rfl  k) ?_
  show own_Go p e below _ T3 (mkF m 11 #[.val (.ref a1), .val (.long q1), .second, .val (.long q2), .second] [(.long q2), (.ref a1)])
  obtain ⟨T4, h4, X4, e4, W4, st4⟩ := putF X3 hx hZ hown (host := "") (Or.inl (hw _ (List.mem_of_getElem? (i := 21) rfl))) Via.refl e3 F2' E1 (Or.inr ⟨(hw _ (List.mem_of_getElem? (i := 22) rfl)), rfl, hnm⟩) (hw _ (List.mem_of_getElem? (i := 6) rfl)) (ty := .long) (by decide) rfl rfl (g := (mkF m 11 #[.val (.ref a1), .val (.long q1), .second, .val (.long q2), .second] [(.long q2), (.ref a1)])) rfl rfl (hb hby d2_11)
  have N4 := Fr.snoc X4 N3 g1
  refine own_go st4 ?_
  show own_Go p e below _ T4 (mkF m 14 #[.val (.ref a1), .val (.long q1), .second, .val (.long q2), .second] [])
  have F2'' := F2'.same W4
  have F1'' := F1'.other W4 (Or.inr (slot_ne (Z := Z) (a0 := a0) (C := "com/example/ossature/ossature/SequenceRangeElement") (Or.inr (hw _ (List.mem_of_getElem? (i := 20) rfl))) (Or.inr (hw _ (List.mem_of_getElem? (i := 22) rfl))) (by decide) (t := .long) (t' := .long) (by decide) (by decide)))
  have E2 := E1.wr W4
  exact own_endV X4 hx hret hlk (hb hby d2_14) (by decide) (by decide) ⟨rfl, N4, by rw [e4, W4.size, W3.size]; exact Nat.le_refl _, by rw [e4]; exact ⟨E2, F1'', F2''⟩⟩
theorem ef_5 (m : MethodId) (x0 : Addr) (x1 : Int64) : entryFrame m #[(.ref x0), (.long x1)] 3 = mkF m 0 #[.val (.ref x0), .val (.long x1), .second] [] := by first | (simp [entryFrame, mkF, argsToLocals, Value.category]; done) | rfl
set_option maxRecDepth 65536 in
set_option maxHeartbeats 40000000 in
theorem rmX (l : Launch) (Z : State) (a0 : Array Value) (hw : ∀ d ∈ tables_1, d.before a0 Z = true) (ws : List Jvm.Cond) (a1 : Addr) (cn : Int64) (st sp : Int64) (h0 : Heap) (n0 : Nat) (Z0 : n0 ≤ h0.size) (O : own_Ob Z h0 a1 st sp) (hs : ¬ sp = (0 : Int64)) :
    MetFree l (⟨"com/example/ossature/ossature/SequenceRangeElement", "indexCount", "(J)J"⟩ : MethodName) (head1 (Jvm.Cond.code (⟨"com/example/ossature/ossature/SequenceRangeElement", "indexCount", "(J)J"⟩ : MethodName) prog_87_method_2_code 3 (some .long) :: ws) ({ frames := 0, cells := 0, slots := 0, locals := 0 } : Room)) (fun a U => a = #[(.ref a1), (.long cn)] ∧ Z.Warmed39 U.vm ∧ U.heap = h0) (fun _ _ _ _ _ => True) (fun _ U o U' => ∃ v L, o = .returned v ∧ (own_pure (some (.long (own_ix st sp cn))) h0 n0) v U'.heap L ∧ FrameEnd U o U' L ({ frames := 0, cells := 0, slots := 0, locals := 0 } : Room).cells ({ frames := 0, cells := 0, slots := 0, locals := 0 } : Room).slots) := by
  refine MetFree.of_bodySF (plainFor_of_name pn_1) hisR ?_
  intro p e s m args below meth c s₁ Bd hml0 hP hK
  obtain ⟨rfl, hZ, hh⟩ := hP
  have hx := Bd.exec
  have hby := Bd.bytes
  have hml : c.maxLocals = 3 := hml0
  have hown : s.vm.findClass "com/example/ossature/ossature/SequenceRangeElement" = some m.cls := findClass_of_methodNamed Bd.named
  have hnm := (name_of_methodNamed Bd.named Bd.method).1
  have hret := Bd.returns
  have hlk : meth.locks = false := Bd.notSynchronized
  have X0 : Stand p l e ({ frames := 0, cells := 0, slots := 0, locals := 0 } : Room) s m #[(.ref a1), (.long cn)] below meth c s₁ [] 0 0 := Stand.of_body Bd
  have e0 : s₁.heap = h0 := by rw [← hh, Bd.state]; rfl
  have N0 := Fr.nil n0
  show own_Go p e below (own_P (own_pure (some (.long (own_ix st sp cn))) h0 n0) ({ frames := 0, cells := 0, slots := 0, locals := 0 } : Room) s) s₁ (entryFrame m #[(.ref a1), (.long cn)] 3)
  rw [ef_5 m a1 cn]
  show own_Go p e below _ s₁ (mkF m 0 #[.val (.ref a1), .val (.long cn), .second] [])
  obtain ⟨E0, F1, F2⟩ := O
  refine own_go (fun _ k => XS.aloadN X0.here hx rfl (hb hby d5_0) rfl rfl k) ?_
  show own_Go p e below _ s₁ (mkF m 1 #[.val (.ref a1), .val (.long cn), .second] [(.ref a1)])
  obtain ⟨T5, X5, e5, st5⟩ := getF X0 hx hZ hown (host := "") (Or.inl (hw _ (List.mem_of_getElem? (i := 21) rfl))) Via.refl e0 F2 (g := (mkF m 1 #[.val (.ref a1), .val (.long cn), .second] [(.ref a1)])) rfl rfl (hb hby d5_1)
  refine own_go st5 ?_
  show own_Go p e below _ T5 (mkF m 4 #[.val (.ref a1), .val (.long cn), .second] [(.long sp)])
  refine own_go (fun _ k => XS.lconst X5.here hx rfl (hb hby d5_4) k) ?_
  show own_Go p e below _ T5 (mkF m 5 #[.val (.ref a1), .val (.long cn), .second] [(.long (0 : Int64)), (.long sp)])
  refine own_go (fun _ k => XS.lcmp X5.here hx rfl (hb hby d5_5) rfl k) ?_
  show own_Go p e below _ T5 (mkF m 6 #[.val (.ref a1), .val (.long cn), .second] [(.int (lcmpW sp (0 : Int64)))])
  by_cases hc : (0 : Int64) < sp
  · refine own_go (fun _ k => XS.ifNo X5.here hx rfl (hb hby d5_6) rfl ((if0 _ _).trans (tlt ((lw_gt _ _).mpr hc)).2.2.2) k) ?_
    show own_Go p e below _ T5 (mkF m 9 #[.val (.ref a1), .val (.long cn), .second] [])
    refine own_go (fun _ k => XS.lloadN X5.here hx rfl (hb hby d5_9) rfl  k) ?_
    show own_Go p e below _ T5 (mkF m 10 #[.val (.ref a1), .val (.long cn), .second] [(.long cn)])
    refine own_go (fun _ k => XS.lconst X5.here hx rfl (hb hby d5_10) k) ?_
    show own_Go p e below _ T5 (mkF m 11 #[.val (.ref a1), .val (.long cn), .second] [(.long (1 : Int64)), (.long cn)])
    refine own_go (fun _ k => XS.lsub X5.here hx rfl (hb hby d5_11) rfl k) ?_
    show own_Go p e below _ T5 (mkF m 12 #[.val (.ref a1), .val (.long cn), .second] [(.long (cn - (1 : Int64)))])
    refine own_go (fun _ k => XS.aloadN X5.here hx rfl (hb hby d5_12) rfl rfl k) ?_
    show own_Go p e below _ T5 (mkF m 13 #[.val (.ref a1), .val (.long cn), .second] [(.ref a1), (.long (cn - (1 : Int64)))])
    obtain ⟨T6, X6, e6, st6⟩ := getF X5 hx hZ hown (host := "") (Or.inl (hw _ (List.mem_of_getElem? (i := 19) rfl))) Via.refl e5 F1 (g := (mkF m 13 #[.val (.ref a1), .val (.long cn), .second] [(.ref a1), (.long (cn - (1 : Int64)))])) rfl rfl (hb hby d5_13)
    refine own_go st6 ?_
    show own_Go p e below _ T6 (mkF m 16 #[.val (.ref a1), .val (.long cn), .second] [(.long st), (.long (cn - (1 : Int64)))])
    refine own_go (fun _ k => XS.lsub X6.here hx rfl (hb hby d5_16) rfl k) ?_
    show own_Go p e below _ T6 (mkF m 17 #[.val (.ref a1), .val (.long cn), .second] [(.long ((cn - (1 : Int64)) - st))])
    refine own_go (fun _ k => XS.aloadN X6.here hx rfl (hb hby d5_17) rfl rfl k) ?_
    show own_Go p e below _ T6 (mkF m 18 #[.val (.ref a1), .val (.long cn), .second] [(.ref a1), (.long ((cn - (1 : Int64)) - st))])
    obtain ⟨T7, X7, e7, st7⟩ := getF X6 hx hZ hown (host := "") (Or.inl (hw _ (List.mem_of_getElem? (i := 21) rfl))) Via.refl e6 F2 (g := (mkF m 18 #[.val (.ref a1), .val (.long cn), .second] [(.ref a1), (.long ((cn - (1 : Int64)) - st))])) rfl rfl (hb hby d5_18)
    refine own_go st7 ?_
    show own_Go p e below _ T7 (mkF m 21 #[.val (.ref a1), .val (.long cn), .second] [(.long sp), (.long ((cn - (1 : Int64)) - st))])
    refine own_go (fun _ k => XS.ldiv X7.here hx rfl (hb hby d5_21) rfl hs k) ?_
    show own_Go p e below _ T7 (mkF m 22 #[.val (.ref a1), .val (.long cn), .second] [(.long (((cn - (1 : Int64)) - st) / sp))])
    refine own_go (fun _ k => XS.lconst X7.here hx rfl (hb hby d5_22) k) ?_
    show own_Go p e below _ T7 (mkF m 23 #[.val (.ref a1), .val (.long cn), .second] [(.long (1 : Int64)), (.long (((cn - (1 : Int64)) - st) / sp))])
    refine own_go (fun _ k => XS.ladd X7.here hx rfl (hb hby d5_23) rfl k) ?_
    show own_Go p e below _ T7 (mkF m 24 #[.val (.ref a1), .val (.long cn), .second] [(.long ((((cn - (1 : Int64)) - st) / sp) + (1 : Int64)))])
    refine own_go (fun _ k => XS.goto X7.here hx rfl (pc0 := 24) (pc' := 39) rfl (hb hby d5_24) (by decide) (by decide) k) ?_
    show own_Go p e below _ T7 (mkF m 39 #[.val (.ref a1), .val (.long cn), .second] [(.long ((((cn - (1 : Int64)) - st) / sp) + (1 : Int64)))])
    exact own_endJ X7 hx hret hlk (hb hby d5_39) (by decide) (by decide) ⟨by rw [own_ix, if_pos hc], N0, e7⟩
  · refine own_go (fun _ k => XS.ifYes X5.here hx rfl (pc0 := 6) (pc' := 27) rfl (hb hby d5_6) rfl ((if0 _ _).trans (flt ((not_congr (lw_gt _ _)).mpr hc)).2.2.2) (by decide) (by decide) k) ?_
    show own_Go p e below _ T5 (mkF m 27 #[.val (.ref a1), .val (.long cn), .second] [])
    refine own_go (fun _ k => XS.aloadN X5.here hx rfl (hb hby d5_27) rfl rfl k) ?_
    show own_Go p e below _ T5 (mkF m 28 #[.val (.ref a1), .val (.long cn), .second] [(.ref a1)])
    obtain ⟨T8, X8, e8, st8⟩ := getF X5 hx hZ hown (host := "") (Or.inl (hw _ (List.mem_of_getElem? (i := 19) rfl))) Via.refl e5 F1 (g := (mkF m 28 #[.val (.ref a1), .val (.long cn), .second] [(.ref a1)])) rfl rfl (hb hby d5_28)
    refine own_go st8 ?_
    show own_Go p e below _ T8 (mkF m 31 #[.val (.ref a1), .val (.long cn), .second] [(.long st)])
    refine own_go (fun _ k => XS.aloadN X8.here hx rfl (hb hby d5_31) rfl rfl k) ?_
    show own_Go p e below _ T8 (mkF m 32 #[.val (.ref a1), .val (.long cn), .second] [(.ref a1), (.long st)])
    obtain ⟨T9, X9, e9, st9⟩ := getF X8 hx hZ hown (host := "") (Or.inl (hw _ (List.mem_of_getElem? (i := 21) rfl))) Via.refl e8 F2 (g := (mkF m 32 #[.val (.ref a1), .val (.long cn), .second] [(.ref a1), (.long st)])) rfl rfl (hb hby d5_32)
    refine own_go st9 ?_
    show own_Go p e below _ T9 (mkF m 35 #[.val (.ref a1), .val (.long cn), .second] [(.long sp), (.long st)])
    refine own_go (fun _ k => XS.lneg X9.here hx rfl (hb hby d5_35) rfl k) ?_
    show own_Go p e below _ T9 (mkF m 36 #[.val (.ref a1), .val (.long cn), .second] [(.long (-sp)), (.long st)])
    refine own_go (fun _ k => XS.ldiv X9.here hx rfl (hb hby d5_36) rfl (own_neg0 sp hs) k) ?_
    show own_Go p e below _ T9 (mkF m 37 #[.val (.ref a1), .val (.long cn), .second] [(.long (st / (-sp)))])
    refine own_go (fun _ k => XS.lconst X9.here hx rfl (hb hby d5_37) k) ?_
    show own_Go p e below _ T9 (mkF m 38 #[.val (.ref a1), .val (.long cn), .second] [(.long (1 : Int64)), (.long (st / (-sp)))])
    refine own_go (fun _ k => XS.ladd X9.here hx rfl (hb hby d5_38) rfl k) ?_
    show own_Go p e below _ T9 (mkF m 39 #[.val (.ref a1), .val (.long cn), .second] [(.long ((st / (-sp)) + (1 : Int64)))])
    exact own_endJ X9 hx hret hlk (hb hby d5_39) (by decide) (by decide) ⟨by rw [own_ix, if_neg hc], N0, e9⟩
theorem ef_6 (m : MethodId) (x0 : Int64) (x1 : Int64) (x2 : Int64) : entryFrame m #[(.long x0), (.long x1), (.long x2)] 8 = mkF m 0 #[.val (.long x0), .second, .val (.long x1), .second, .val (.long x2), .second, .unset, .unset] [] := by first | (simp [entryFrame, mkF, argsToLocals, Value.category]; done) | rfl
set_option maxRecDepth 65536 in
set_option maxHeartbeats 40000000 in
theorem rmF (l : Launch) (Z : State) (a0 : Array Value) (hw : ∀ d ∈ tables_1, d.before a0 Z = true) (ws : List Jvm.Cond) (n : Int64) (r : Int64) (m' : Int64) (h0 : Heap) (n0 : Nat) (Z0 : n0 ≤ h0.size) (q : Int64) (h0' : n - (1 : Int64) = q) (h1 : ¬ q < (0 : Int64)) (h2 : ¬ r < q) (h3 : (0 : Int64) < q → ¬ (r / q) < m') (h4 : (q + (1 : Int64)) ≠ 0) (h5 : (r / (q + (1 : Int64))) < m') :
    MetFree l (⟨"com/example/ossature/ossature/SequenceRangeElementIndexCountPinLaw", "fitsExactly", "(JJJ)Z"⟩ : MethodName) (head1 (Jvm.Cond.code (⟨"com/example/ossature/ossature/SequenceRangeElementIndexCountPinLaw", "fitsExactly", "(JJJ)Z"⟩ : MethodName) method_3_code 8 (some .boolean) :: ws) ({ frames := 0, cells := 0, slots := 0, locals := 0 } : Room)) (fun a U => a = #[(.long n), (.long r), (.long m')] ∧ Z.Warmed39 U.vm ∧ U.heap = h0) (fun _ _ _ _ _ => True) (fun _ U o U' => ∃ v L, o = .returned v ∧ (own_pure (some (.int 1)) h0 n0) v U'.heap L ∧ FrameEnd U o U' L ({ frames := 0, cells := 0, slots := 0, locals := 0 } : Room).cells ({ frames := 0, cells := 0, slots := 0, locals := 0 } : Room).slots) := by
  refine MetFree.of_bodySF (plainFor_of_name pn_2) hisR ?_
  intro p e s m args below meth c s₁ Bd hml0 hP hK
  obtain ⟨rfl, hZ, hh⟩ := hP
  have hx := Bd.exec
  have hby := Bd.bytes
  have hml : c.maxLocals = 8 := hml0
  have hown : s.vm.findClass "com/example/ossature/ossature/SequenceRangeElementIndexCountPinLaw" = some m.cls := findClass_of_methodNamed Bd.named
  have hnm := (name_of_methodNamed Bd.named Bd.method).1
  have hret := Bd.returns
  have hlk : meth.locks = false := Bd.notSynchronized
  have X0 : Stand p l e ({ frames := 0, cells := 0, slots := 0, locals := 0 } : Room) s m #[(.long n), (.long r), (.long m')] below meth c s₁ [] 0 0 := Stand.of_body Bd
  have e0 : s₁.heap = h0 := by rw [← hh, Bd.state]; rfl
  have N0 := Fr.nil n0
  show own_Go p e below (own_P (own_pure (some (.int 1)) h0 n0) ({ frames := 0, cells := 0, slots := 0, locals := 0 } : Room) s) s₁ (entryFrame m #[(.long n), (.long r), (.long m')] 8)
  rw [ef_6 m n r m']
  show own_Go p e below _ s₁ (mkF m 0 #[.val (.long n), .second, .val (.long r), .second, .val (.long m'), .second, .unset, .unset] [])
  refine own_go (fun _ k => XS.lloadN X0.here hx rfl (hb hby d6_0) rfl  k) ?_
  show own_Go p e below _ s₁ (mkF m 1 #[.val (.long n), .second, .val (.long r), .second, .val (.long m'), .second, .unset, .unset] [(.long n)])
  refine own_go (fun _ k => XS.lconst X0.here hx rfl (hb hby d6_1) k) ?_
  show own_Go p e below _ s₁ (mkF m 2 #[.val (.long n), .second, .val (.long r), .second, .val (.long m'), .second, .unset, .unset] [(.long (1 : Int64)), (.long n)])
  refine own_go (fun _ k => XS.lsub X0.here hx rfl (hb hby d6_2) rfl k) ?_
  show own_Go p e below _ s₁ (mkF m 3 #[.val (.long n), .second, .val (.long r), .second, .val (.long m'), .second, .unset, .unset] [(.long (n - (1 : Int64)))])
  rw [h0']
  show own_Go p e below _ s₁ (mkF m 3 #[.val (.long n), .second, .val (.long r), .second, .val (.long m'), .second, .unset, .unset] [(.long q)])
  refine own_go (fun _ k => XS.lstore X0.here hx rfl (hb hby d6_3) rfl (l' := #[.val (.long n), .second, .val (.long r), .second, .val (.long m'), .second, .val (.long q), .second]) rfl k) ?_
  show own_Go p e below _ s₁ (mkF m 5 #[.val (.long n), .second, .val (.long r), .second, .val (.long m'), .second, .val (.long q), .second] [])
  refine own_go (fun _ k => XS.lload X0.here hx rfl (hb hby d6_5) rfl  k) ?_
  show own_Go p e below _ s₁ (mkF m 7 #[.val (.long n), .second, .val (.long r), .second, .val (.long m'), .second, .val (.long q), .second] [(.long q)])
  refine own_go (fun _ k => XS.lconst X0.here hx rfl (hb hby d6_7) k) ?_
  show own_Go p e below _ s₁ (mkF m 8 #[.val (.long n), .second, .val (.long r), .second, .val (.long m'), .second, .val (.long q), .second] [(.long (0 : Int64)), (.long q)])
  refine own_go (fun _ k => XS.lcmp X0.here hx rfl (hb hby d6_8) rfl k) ?_
  show own_Go p e below _ s₁ (mkF m 9 #[.val (.long n), .second, .val (.long r), .second, .val (.long m'), .second, .val (.long q), .second] [(.int (lcmpW q (0 : Int64)))])
  refine own_go (fun _ k => XS.ifNo X0.here hx rfl (hb hby d6_9) rfl ((if0 _ _).trans (flt ((not_congr (lw_lt _ _)).mpr h1)).1) k) ?_
  show own_Go p e below _ s₁ (mkF m 12 #[.val (.long n), .second, .val (.long r), .second, .val (.long m'), .second, .val (.long q), .second] [])
  refine own_go (fun _ k => XS.lload X0.here hx rfl (hb hby d6_12) rfl  k) ?_
  show own_Go p e below _ s₁ (mkF m 14 #[.val (.long n), .second, .val (.long r), .second, .val (.long m'), .second, .val (.long q), .second] [(.long q)])
  refine own_go (fun _ k => XS.lloadN X0.here hx rfl (hb hby d6_14) rfl  k) ?_
  show own_Go p e below _ s₁ (mkF m 15 #[.val (.long n), .second, .val (.long r), .second, .val (.long m'), .second, .val (.long q), .second] [(.long r), (.long q)])
  refine own_go (fun _ k => XS.lcmp X0.here hx rfl (hb hby d6_15) rfl k) ?_
  show own_Go p e below _ s₁ (mkF m 16 #[.val (.long n), .second, .val (.long r), .second, .val (.long m'), .second, .val (.long q), .second] [(.int (lcmpW q r))])
  refine own_go (fun _ k => XS.ifYes X0.here hx rfl (pc0 := 16) (pc' := 21) rfl (hb hby d6_16) rfl ((if0 _ _).trans (flt ((not_congr (lw_gt _ _)).mpr h2)).2.2.2) (by decide) (by decide) k) ?_
  show own_Go p e below _ s₁ (mkF m 21 #[.val (.long n), .second, .val (.long r), .second, .val (.long m'), .second, .val (.long q), .second] [])
  refine own_go (fun _ k => XS.lload X0.here hx rfl (hb hby d6_21) rfl  k) ?_
  show own_Go p e below _ s₁ (mkF m 23 #[.val (.long n), .second, .val (.long r), .second, .val (.long m'), .second, .val (.long q), .second] [(.long q)])
  refine own_go (fun _ k => XS.lconst X0.here hx rfl (hb hby d6_23) k) ?_
  show own_Go p e below _ s₁ (mkF m 24 #[.val (.long n), .second, .val (.long r), .second, .val (.long m'), .second, .val (.long q), .second] [(.long (0 : Int64)), (.long q)])
  refine own_go (fun _ k => XS.lcmp X0.here hx rfl (hb hby d6_24) rfl k) ?_
  show own_Go p e below _ s₁ (mkF m 25 #[.val (.long n), .second, .val (.long r), .second, .val (.long m'), .second, .val (.long q), .second] [(.int (lcmpW q (0 : Int64)))])
  by_cases hc : (0 : Int64) < q
  · refine own_go (fun _ k => XS.ifNo X0.here hx rfl (hb hby d6_25) rfl ((if0 _ _).trans (tlt ((lw_gt _ _).mpr hc)).2.2.2) k) ?_
    show own_Go p e below _ s₁ (mkF m 28 #[.val (.long n), .second, .val (.long r), .second, .val (.long m'), .second, .val (.long q), .second] [])
    refine own_go (fun _ k => XS.lload X0.here hx rfl (hb hby d6_28) rfl  k) ?_
    show own_Go p e below _ s₁ (mkF m 30 #[.val (.long n), .second, .val (.long r), .second, .val (.long m'), .second, .val (.long q), .second] [(.long m')])
    refine own_go (fun _ k => XS.lloadN X0.here hx rfl (hb hby d6_30) rfl  k) ?_
    show own_Go p e below _ s₁ (mkF m 31 #[.val (.long n), .second, .val (.long r), .second, .val (.long m'), .second, .val (.long q), .second] [(.long r), (.long m')])
    refine own_go (fun _ k => XS.lload X0.here hx rfl (hb hby d6_31) rfl  k) ?_
    show own_Go p e below _ s₁ (mkF m 33 #[.val (.long n), .second, .val (.long r), .second, .val (.long m'), .second, .val (.long q), .second] [(.long q), (.long r), (.long m')])
    have hq0 : q ≠ 0 := fun z => by rw [z] at hc; exact absurd hc (by decide)
    refine own_go (fun _ k => XS.ldiv X0.here hx rfl (hb hby d6_33) rfl hq0 k) ?_
    show own_Go p e below _ s₁ (mkF m 34 #[.val (.long n), .second, .val (.long r), .second, .val (.long m'), .second, .val (.long q), .second] [(.long (r / q)), (.long m')])
    refine own_go (fun _ k => XS.lcmp X0.here hx rfl (hb hby d6_34) rfl k) ?_
    show own_Go p e below _ s₁ (mkF m 35 #[.val (.long n), .second, .val (.long r), .second, .val (.long m'), .second, .val (.long q), .second] [(.int (lcmpW m' (r / q)))])
    refine own_go (fun _ k => XS.ifYes X0.here hx rfl (pc0 := 35) (pc' := 40) rfl (hb hby d6_35) rfl ((if0 _ _).trans (flt ((not_congr (lw_gt _ _)).mpr (h3 hc))).2.2.2) (by decide) (by decide) k) ?_
    show own_Go p e below _ s₁ (mkF m 40 #[.val (.long n), .second, .val (.long r), .second, .val (.long m'), .second, .val (.long q), .second] [])
    refine own_go (fun _ k => XS.lloadN X0.here hx rfl (hb hby d6_40) rfl  k) ?_
    show own_Go p e below _ s₁ (mkF m 41 #[.val (.long n), .second, .val (.long r), .second, .val (.long m'), .second, .val (.long q), .second] [(.long r)])
    refine own_go (fun _ k => XS.lload X0.here hx rfl (hb hby d6_41) rfl  k) ?_
    show own_Go p e below _ s₁ (mkF m 43 #[.val (.long n), .second, .val (.long r), .second, .val (.long m'), .second, .val (.long q), .second] [(.long q), (.long r)])
    refine own_go (fun _ k => XS.lconst X0.here hx rfl (hb hby d6_43) k) ?_
    show own_Go p e below _ s₁ (mkF m 44 #[.val (.long n), .second, .val (.long r), .second, .val (.long m'), .second, .val (.long q), .second] [(.long (1 : Int64)), (.long q), (.long r)])
    refine own_go (fun _ k => XS.ladd X0.here hx rfl (hb hby d6_44) rfl k) ?_
    show own_Go p e below _ s₁ (mkF m 45 #[.val (.long n), .second, .val (.long r), .second, .val (.long m'), .second, .val (.long q), .second] [(.long (q + (1 : Int64))), (.long r)])
    refine own_go (fun _ k => XS.ldiv X0.here hx rfl (hb hby d6_45) rfl h4 k) ?_
    show own_Go p e below _ s₁ (mkF m 46 #[.val (.long n), .second, .val (.long r), .second, .val (.long m'), .second, .val (.long q), .second] [(.long (r / (q + (1 : Int64))))])
    refine own_go (fun _ k => XS.lload X0.here hx rfl (hb hby d6_46) rfl  k) ?_
    show own_Go p e below _ s₁ (mkF m 48 #[.val (.long n), .second, .val (.long r), .second, .val (.long m'), .second, .val (.long q), .second] [(.long m'), (.long (r / (q + (1 : Int64))))])
    refine own_go (fun _ k => XS.lcmp X0.here hx rfl (hb hby d6_48) rfl k) ?_
    show own_Go p e below _ s₁ (mkF m 49 #[.val (.long n), .second, .val (.long r), .second, .val (.long m'), .second, .val (.long q), .second] [(.int (lcmpW (r / (q + (1 : Int64))) m'))])
    refine own_go (fun _ k => XS.ifNo X0.here hx rfl (hb hby d6_49) rfl ((if0 _ _).trans (tlt ((lw_lt _ _).mpr h5)).2.1) k) ?_
    show own_Go p e below _ s₁ (mkF m 52 #[.val (.long n), .second, .val (.long r), .second, .val (.long m'), .second, .val (.long q), .second] [])
    refine own_go (fun _ k => XS.iconst X0.here hx rfl (hb hby d6_52) k) ?_
    show own_Go p e below _ s₁ (mkF m 53 #[.val (.long n), .second, .val (.long r), .second, .val (.long m'), .second, .val (.long q), .second] [(.int (1 : Int32))])
    refine own_go (fun _ k => XS.goto X0.here hx rfl (pc0 := 53) (pc' := 57) rfl (hb hby d6_53) (by decide) (by decide) k) ?_
    show own_Go p e below _ s₁ (mkF m 57 #[.val (.long n), .second, .val (.long r), .second, .val (.long m'), .second, .val (.long q), .second] [(.int (1 : Int32))])
    exact own_endZ X0 hx hret hlk (hb hby d6_57) rfl (by decide) (by decide) ⟨rfl, N0, e0⟩
  · refine own_go (fun _ k => XS.ifYes X0.here hx rfl (pc0 := 25) (pc' := 40) rfl (hb hby d6_25) rfl ((if0 _ _).trans (flt ((not_congr (lw_gt _ _)).mpr hc)).2.2.2) (by decide) (by decide) k) ?_
    show own_Go p e below _ s₁ (mkF m 40 #[.val (.long n), .second, .val (.long r), .second, .val (.long m'), .second, .val (.long q), .second] [])
    refine own_go (fun _ k => XS.lloadN X0.here hx rfl (hb hby d6_40) rfl  k) ?_
    show own_Go p e below _ s₁ (mkF m 41 #[.val (.long n), .second, .val (.long r), .second, .val (.long m'), .second, .val (.long q), .second] [(.long r)])
    refine own_go (fun _ k => XS.lload X0.here hx rfl (hb hby d6_41) rfl  k) ?_
    show own_Go p e below _ s₁ (mkF m 43 #[.val (.long n), .second, .val (.long r), .second, .val (.long m'), .second, .val (.long q), .second] [(.long q), (.long r)])
    refine own_go (fun _ k => XS.lconst X0.here hx rfl (hb hby d6_43) k) ?_
    show own_Go p e below _ s₁ (mkF m 44 #[.val (.long n), .second, .val (.long r), .second, .val (.long m'), .second, .val (.long q), .second] [(.long (1 : Int64)), (.long q), (.long r)])
    refine own_go (fun _ k => XS.ladd X0.here hx rfl (hb hby d6_44) rfl k) ?_
    show own_Go p e below _ s₁ (mkF m 45 #[.val (.long n), .second, .val (.long r), .second, .val (.long m'), .second, .val (.long q), .second] [(.long (q + (1 : Int64))), (.long r)])
    refine own_go (fun _ k => XS.ldiv X0.here hx rfl (hb hby d6_45) rfl h4 k) ?_
    show own_Go p e below _ s₁ (mkF m 46 #[.val (.long n), .second, .val (.long r), .second, .val (.long m'), .second, .val (.long q), .second] [(.long (r / (q + (1 : Int64))))])
    refine own_go (fun _ k => XS.lload X0.here hx rfl (hb hby d6_46) rfl  k) ?_
    show own_Go p e below _ s₁ (mkF m 48 #[.val (.long n), .second, .val (.long r), .second, .val (.long m'), .second, .val (.long q), .second] [(.long m'), (.long (r / (q + (1 : Int64))))])
    refine own_go (fun _ k => XS.lcmp X0.here hx rfl (hb hby d6_48) rfl k) ?_
    show own_Go p e below _ s₁ (mkF m 49 #[.val (.long n), .second, .val (.long r), .second, .val (.long m'), .second, .val (.long q), .second] [(.int (lcmpW (r / (q + (1 : Int64))) m'))])
    refine own_go (fun _ k => XS.ifNo X0.here hx rfl (hb hby d6_49) rfl ((if0 _ _).trans (tlt ((lw_lt _ _).mpr h5)).2.1) k) ?_
    show own_Go p e below _ s₁ (mkF m 52 #[.val (.long n), .second, .val (.long r), .second, .val (.long m'), .second, .val (.long q), .second] [])
    refine own_go (fun _ k => XS.iconst X0.here hx rfl (hb hby d6_52) k) ?_
    show own_Go p e below _ s₁ (mkF m 53 #[.val (.long n), .second, .val (.long r), .second, .val (.long m'), .second, .val (.long q), .second] [(.int (1 : Int32))])
    refine own_go (fun _ k => XS.goto X0.here hx rfl (pc0 := 53) (pc' := 57) rfl (hb hby d6_53) (by decide) (by decide) k) ?_
    show own_Go p e below _ s₁ (mkF m 57 #[.val (.long n), .second, .val (.long r), .second, .val (.long m'), .second, .val (.long q), .second] [(.int (1 : Int32))])
    exact own_endZ X0 hx hret hlk (hb hby d6_57) rfl (by decide) (by decide) ⟨rfl, N0, e0⟩
theorem ef_0 (m : MethodId) (x0 : Int64) (x1 : Int64) (x2 : Int64) : entryFrame m #[(.long x0), (.long x1), (.long x2)] maxLocals = mkF m 0 #[.val (.long x0), .second, .val (.long x1), .second, .val (.long x2), .second, .unset, .unset, .unset, .unset, .unset, .unset, .unset] [] := by first | (simp [entryFrame, mkF, argsToLocals, Value.category, maxLocals]; done) | rfl
set_option maxRecDepth 65536 in
set_option maxHeartbeats 40000000 in
theorem rm0 (l : Launch) (Z : State) (a0 : Array Value) (hw : ∀ d ∈ tables_1, d.before a0 Z = true) (ws : List Jvm.Cond) (q1 : Int64) (q2 : Int64) (sp : Int64) (h0 : Heap) (n0 : Nat) (Z0 : n0 ≤ h0.size)  :
    MetFree l x (head1 (Jvm.Cond.code x code maxLocals ret :: ws) room_1) (fun a U => a = #[(.long q1), (.long q2), (.long sp)] ∧ Z.Warmed39 U.vm ∧ U.heap = h0) (fun _ _ _ _ _ => True) (fun _ U o U' => ∃ v L, o = .returned v ∧ (own_R (fun v _ L => v = some (.int 1) ∧ Fr n0 L)) v U'.heap L ∧ FrameEnd U o U' L room_1.cells room_1.slots) := by
  refine MetFree.of_bodySF (plainFor_of_name pn_2) hisR ?_
  intro p e s m args below meth c s₁ Bd hml0 hP hK
  obtain ⟨rfl, hZ, hh⟩ := hP
  have hx := Bd.exec
  have hby := Bd.bytes
  have hml : c.maxLocals = 13 := hml0
  have hown : s.vm.findClass "com/example/ossature/ossature/SequenceRangeElementIndexCountPinLaw" = some m.cls := findClass_of_methodNamed Bd.named
  have hnm := (name_of_methodNamed Bd.named Bd.method).1
  have hret := Bd.returns
  have hlk : meth.locks = false := Bd.notSynchronized
  have X0 : Stand p l e room_1 s m #[(.long q1), (.long q2), (.long sp)] below meth c s₁ [] 0 0 := Stand.of_body Bd
  have e0 : s₁.heap = h0 := by rw [← hh, Bd.state]; rfl
  have N0 := Fr.nil n0
  show own_Go p e below (own_P (own_R (fun v _ L => v = some (.int 1) ∧ Fr n0 L)) room_1 s) s₁ (entryFrame m #[(.long q1), (.long q2), (.long sp)] maxLocals)
  rw [ef_0 m q1 q2 sp]
  show own_Go p e below _ s₁ (mkF m 0 #[.val (.long q1), .second, .val (.long q2), .second, .val (.long sp), .second, .unset, .unset, .unset, .unset, .unset, .unset, .unset] [])
  refine own_go (fun _ k => XS.lload X0.here hx rfl (hb hby at_0) rfl  k) ?_
  show own_Go p e below _ s₁ (mkF m 2 #[.val (.long q1), .second, .val (.long q2), .second, .val (.long sp), .second, .unset, .unset, .unset, .unset, .unset, .unset, .unset] [(.long sp)])
  refine own_go (fun _ k => XS.lconst X0.here hx rfl (hb hby at_2) k) ?_
  show own_Go p e below _ s₁ (mkF m 3 #[.val (.long q1), .second, .val (.long q2), .second, .val (.long sp), .second, .unset, .unset, .unset, .unset, .unset, .unset, .unset] [(.long (0 : Int64)), (.long sp)])
  refine own_go (fun _ k => XS.lcmp X0.here hx rfl (hb hby at_3) rfl k) ?_
  show own_Go p e below _ s₁ (mkF m 4 #[.val (.long q1), .second, .val (.long q2), .second, .val (.long sp), .second, .unset, .unset, .unset, .unset, .unset, .unset, .unset] [(.int (lcmpW sp (0 : Int64)))])
  by_cases hs : sp = (0 : Int64)
  · refine own_go (fun _ k => XS.ifNo X0.here hx rfl (hb hby at_4) rfl ((if0 _ _).trans (teq ((lw_eq _ _).mpr hs)).2) k) ?_
    show own_Go p e below _ s₁ (mkF m 7 #[.val (.long q1), .second, .val (.long q2), .second, .val (.long sp), .second, .unset, .unset, .unset, .unset, .unset, .unset, .unset] [])
    refine own_go (fun _ k => XS.iconst X0.here hx rfl (hb hby at_7) k) ?_
    show own_Go p e below _ s₁ (mkF m 8 #[.val (.long q1), .second, .val (.long q2), .second, .val (.long sp), .second, .unset, .unset, .unset, .unset, .unset, .unset, .unset] [(.int (1 : Int32))])
    exact own_endZ X0 hx hret hlk (hb hby at_8) rfl (by decide) (by decide) ⟨rfl, N0⟩
  · refine own_go (fun _ k => XS.ifYes X0.here hx rfl (pc0 := 4) (pc' := 9) rfl (hb hby at_4) rfl ((if0 _ _).trans (feq ((not_congr (lw_eq _ _)).mpr hs)).2) (by decide) (by decide) k) ?_
    show own_Go p e below _ s₁ (mkF m 9 #[.val (.long q1), .second, .val (.long q2), .second, .val (.long sp), .second, .unset, .unset, .unset, .unset, .unset, .unset, .unset] [])
    refine own_go (fun _ k => XS.lconst X0.here hx rfl (hb hby at_9) k) ?_
    show own_Go p e below _ s₁ (mkF m 10 #[.val (.long q1), .second, .val (.long q2), .second, .val (.long sp), .second, .unset, .unset, .unset, .unset, .unset, .unset, .unset] [(.long (1 : Int64))])
    refine own_go (fun _ k => XS.lloadN X0.here hx rfl (hb hby at_10) rfl  k) ?_
    show own_Go p e below _ s₁ (mkF m 11 #[.val (.long q1), .second, .val (.long q2), .second, .val (.long sp), .second, .unset, .unset, .unset, .unset, .unset, .unset, .unset] [(.long q1), (.long (1 : Int64))])
    refine own_go (fun _ k => X0.ldc2Long hx hown (mvT hZ (hw _ (List.mem_of_getElem? (i := 0) rfl))) (g := (mkF m 11 #[.val (.long q1), .second, .val (.long q2), .second, .val (.long sp), .second, .unset, .unset, .unset, .unset, .unset, .unset, .unset] [(.long q1), (.long (1 : Int64))])) rfl (hb hby at_11) _ k) ?_
    show own_Go p e below _ s₁ (mkF m 14 #[.val (.long q1), .second, .val (.long q2), .second, .val (.long sp), .second, .unset, .unset, .unset, .unset, .unset, .unset, .unset] [(.long (9223372036854775807 : Int64)), (.long q1), (.long (1 : Int64))])
    refine own_go (fun _ k => XS.land X0.here hx rfl (hb hby at_14) rfl k) ?_
    show own_Go p e below _ s₁ (mkF m 15 #[.val (.long q1), .second, .val (.long q2), .second, .val (.long sp), .second, .unset, .unset, .unset, .unset, .unset, .unset, .unset] [(.long (q1 &&& (9223372036854775807 : Int64))), (.long (1 : Int64))])
    obtain ⟨T10, v10, L10, X10, q10, st10⟩ := own_callS X0 hx hZ hown (y := (⟨"java/lang/Math", "max", "(JJ)J"⟩ : MethodName)) (hw _ (List.mem_of_getElem? (i := 1) rfl)) (hw _ (List.mem_of_getElem? (i := 2) rfl)) (hw _ (List.mem_of_getElem? (i := 3) rfl)) (hw _ (List.mem_of_getElem? (i := 4) rfl)) (by decide) (rmM l Z a0 hw [] (1 : Int64) (q1 &&& (9223372036854775807 : Int64)) h0 n0 Z0) (Ls := #[.val (.long q1), .second, .val (.long q2), .second, .val (.long sp), .second, .unset, .unset, .unset, .unset, .unset, .unset, .unset]) (st := [(.long (q1 &&& (9223372036854775807 : Int64))), (.long (1 : Int64))]) (W := 0) (by decide) (by decide) (by rw [hml]; rfl) (argsL := [(.long (1 : Int64)), (.long (q1 &&& (9223372036854775807 : Int64)))]) (rest := []) (lenOf pd_1 rfl) rfl rfl (Nat.le_of_eq rfl) (hb hby at_15) e0 (by decide) (by decide)
    obtain ⟨rfl, N10', e10⟩ := q10
    have N10 := Fr.app N0 N10'
    refine own_go st10 ?_
    show own_Go p e below _ T10 (mkF m 18 #[.val (.long q1), .second, .val (.long q2), .second, .val (.long sp), .second, .unset, .unset, .unset, .unset, .unset, .unset, .unset] [(.long (own_max (1 : Int64) (q1 &&& (9223372036854775807 : Int64))))])
    have hcn := own_cnt q1
    generalize own_max (1 : Int64) (q1 &&& (9223372036854775807 : Int64)) = cn at *
    show own_Go p e below _ T10 (mkF m 18 #[.val (.long q1), .second, .val (.long q2), .second, .val (.long sp), .second, .unset, .unset, .unset, .unset, .unset, .unset, .unset] [(.long cn)])
    have hcn0 : cn ≠ 0 := fun z => by rw [z] at hcn; exact absurd hcn (by decide)
    refine own_go (fun _ k => XS.lstore X10.here hx rfl (hb hby at_18) rfl (l' := #[.val (.long q1), .second, .val (.long q2), .second, .val (.long sp), .second, .val (.long cn), .second, .unset, .unset, .unset, .unset, .unset]) rfl k) ?_
    show own_Go p e below _ T10 (mkF m 20 #[.val (.long q1), .second, .val (.long q2), .second, .val (.long sp), .second, .val (.long cn), .second, .unset, .unset, .unset, .unset, .unset] [])
    refine own_go (fun _ k => XS.lloadN X10.here hx rfl (hb hby at_20) rfl  k) ?_
    show own_Go p e below _ T10 (mkF m 21 #[.val (.long q1), .second, .val (.long q2), .second, .val (.long sp), .second, .val (.long cn), .second, .unset, .unset, .unset, .unset, .unset] [(.long q2)])
    refine own_go (fun _ k => X10.ldc2Long hx hown (mvT hZ (hw _ (List.mem_of_getElem? (i := 0) rfl))) (g := (mkF m 21 #[.val (.long q1), .second, .val (.long q2), .second, .val (.long sp), .second, .val (.long cn), .second, .unset, .unset, .unset, .unset, .unset] [(.long q2)])) rfl (hb hby at_21) _ k) ?_
    show own_Go p e below _ T10 (mkF m 24 #[.val (.long q1), .second, .val (.long q2), .second, .val (.long sp), .second, .val (.long cn), .second, .unset, .unset, .unset, .unset, .unset] [(.long (9223372036854775807 : Int64)), (.long q2)])
    refine own_go (fun _ k => XS.land X10.here hx rfl (hb hby at_24) rfl k) ?_
    show own_Go p e below _ T10 (mkF m 25 #[.val (.long q1), .second, .val (.long q2), .second, .val (.long sp), .second, .val (.long cn), .second, .unset, .unset, .unset, .unset, .unset] [(.long (q2 &&& (9223372036854775807 : Int64)))])
    refine own_go (fun _ k => XS.lload X10.here hx rfl (hb hby at_25) rfl  k) ?_
    show own_Go p e below _ T10 (mkF m 27 #[.val (.long q1), .second, .val (.long q2), .second, .val (.long sp), .second, .val (.long cn), .second, .unset, .unset, .unset, .unset, .unset] [(.long cn), (.long (q2 &&& (9223372036854775807 : Int64)))])
    refine own_go (fun _ k => XS.lrem X10.here hx rfl (hb hby at_27) rfl hcn0 k) ?_
    show own_Go p e below _ T10 (mkF m 28 #[.val (.long q1), .second, .val (.long q2), .second, .val (.long sp), .second, .val (.long cn), .second, .unset, .unset, .unset, .unset, .unset] [(.long ((q2 &&& (9223372036854775807 : Int64)) - ((q2 &&& (9223372036854775807 : Int64)) / cn) * cn))])
    obtain ⟨hst0, hst1⟩ := own_start (q2 &&& (9223372036854775807 : Int64)) cn (own_m63 q2) hcn
    generalize ((q2 &&& (9223372036854775807 : Int64)) - ((q2 &&& (9223372036854775807 : Int64)) / cn) * cn) = st at *
    show own_Go p e below _ T10 (mkF m 28 #[.val (.long q1), .second, .val (.long q2), .second, .val (.long sp), .second, .val (.long cn), .second, .unset, .unset, .unset, .unset, .unset] [(.long st)])
    refine own_go (fun _ k => XS.lstore X10.here hx rfl (hb hby at_28) rfl (l' := #[.val (.long q1), .second, .val (.long q2), .second, .val (.long sp), .second, .val (.long cn), .second, .val (.long st), .second, .unset, .unset, .unset]) rfl k) ?_
    show own_Go p e below _ T10 (mkF m 30 #[.val (.long q1), .second, .val (.long q2), .second, .val (.long sp), .second, .val (.long cn), .second, .val (.long st), .second, .unset, .unset, .unset] [])
    obtain ⟨T11, h11, X11, e11, E11, A11, D11, -, st11⟩ := newO X10 hx hZ hown (hw _ (List.mem_of_getElem? (i := 5) rfl)) (hw _ (List.mem_of_getElem? (i := 6) rfl)) (hw _ (List.mem_of_getElem? (i := 7) rfl)) e10 (g := (mkF m 30 #[.val (.long q1), .second, .val (.long q2), .second, .val (.long sp), .second, .val (.long cn), .second, .val (.long st), .second, .unset, .unset, .unset] [])) rfl (hb hby at_30) (by decide) (by decide)
    obtain ⟨b11, g11⟩ : ∃ z, z = h0.size := ⟨_, rfl⟩
    rw [← g11] at A11 D11 st11
    refine own_go st11 ?_
    show own_Go p e below _ T11 (mkF m 33 #[.val (.long q1), .second, .val (.long q2), .second, .val (.long sp), .second, .val (.long cn), .second, .val (.long st), .second, .unset, .unset, .unset] [(.ref b11)])
    have g_b : n0 ≤ b11 := Nat.le_trans Z0 (Nat.le_of_eq g11.symm)
    have F1 : Fld Z h11 b11 "com/example/ossature/ossature/SequenceRangeElement" "start" "J" (.long 0) := D11 (Or.inr (hw _ (List.mem_of_getElem? (i := 20) rfl))) (ty := .long) (by decide)
    have F2 : Fld Z h11 b11 "com/example/ossature/ossature/SequenceRangeElement" "step" "J" (.long 0) := D11 (Or.inr (hw _ (List.mem_of_getElem? (i := 22) rfl))) (ty := .long) (by decide)
    refine own_go (fun _ k => XS.dup X11.here hx rfl (hb hby at_33) rfl rfl k) ?_
    show own_Go p e below _ T11 (mkF m 34 #[.val (.long q1), .second, .val (.long q2), .second, .val (.long sp), .second, .val (.long cn), .second, .val (.long st), .second, .unset, .unset, .unset] [(.ref b11), (.ref b11)])
    refine own_go (fun _ k => XS.lload X11.here hx rfl (hb hby at_34) rfl  k) ?_
    show own_Go p e below _ T11 (mkF m 36 #[.val (.long q1), .second, .val (.long q2), .second, .val (.long sp), .second, .val (.long cn), .second, .val (.long st), .second, .unset, .unset, .unset] [(.long st), (.ref b11), (.ref b11)])
    refine own_go (fun _ k => XS.lload X11.here hx rfl (hb hby at_36) rfl  k) ?_
    show own_Go p e below _ T11 (mkF m 38 #[.val (.long q1), .second, .val (.long q2), .second, .val (.long sp), .second, .val (.long cn), .second, .val (.long st), .second, .unset, .unset, .unset] [(.long sp), (.long st), (.ref b11), (.ref b11)])
    obtain ⟨T12, v12, L12, X12, q12, st12⟩ := own_callC X11 hx hZ (y := (⟨"com/example/ossature/ossature/SequenceRangeElement", "<init>", "(JJ)V"⟩ : MethodName)) rfl hown (hw _ (List.mem_of_getElem? (i := 8) rfl)) (hw _ (List.mem_of_getElem? (i := 9) rfl)) (hw _ (List.mem_of_getElem? (i := 7) rfl)) (hw _ (List.mem_of_getElem? (i := 10) rfl)) (by decide) (rmI l Z a0 hw [] b11 st sp h11 n0 (Nat.le_trans Z0 E11.1) A11 F1 F2 g_b) (Ls := #[.val (.long q1), .second, .val (.long q2), .second, .val (.long sp), .second, .val (.long cn), .second, .val (.long st), .second, .unset, .unset, .unset]) (st := [(.long sp), (.long st), (.ref b11), (.ref b11)]) (a := b11) (W := 1) (by decide) (by decide) (by rw [hml]; rfl) (argsL := [(.long st), (.long sp)]) (rest := [(.ref b11)]) (lenOf pd_2 rfl) rfl rfl (Nat.le_of_eq rfl) (hb hby at_38) e11 (by decide) (by decide)
    obtain ⟨rfl, N12', hsz, O⟩ := q12
    have N12 := Fr.app N10 N12'
    refine own_go st12 ?_
    show own_Go p e below _ T12 (mkF m 41 #[.val (.long q1), .second, .val (.long q2), .second, .val (.long sp), .second, .val (.long cn), .second, .val (.long st), .second, .unset, .unset, .unset] [(.ref b11)])
    have ZI : n0 ≤ T12.heap.size := Nat.le_trans (Nat.le_trans Z0 E11.1) hsz
    refine own_go (fun _ k => XS.astore X12.here hx rfl (hb hby at_41) rfl rfl (l' := #[.val (.long q1), .second, .val (.long q2), .second, .val (.long sp), .second, .val (.long cn), .second, .val (.long st), .second, .val (.ref b11), .unset, .unset]) rfl k) ?_
    show own_Go p e below _ T12 (mkF m 43 #[.val (.long q1), .second, .val (.long q2), .second, .val (.long sp), .second, .val (.long cn), .second, .val (.long st), .second, .val (.ref b11), .unset, .unset] [])
    refine own_go (fun _ k => XS.aload X12.here hx rfl (hb hby at_43) rfl rfl k) ?_
    show own_Go p e below _ T12 (mkF m 45 #[.val (.long q1), .second, .val (.long q2), .second, .val (.long sp), .second, .val (.long cn), .second, .val (.long st), .second, .val (.ref b11), .unset, .unset] [(.ref b11)])
    refine own_go (fun _ k => XS.lload X12.here hx rfl (hb hby at_45) rfl  k) ?_
    show own_Go p e below _ T12 (mkF m 47 #[.val (.long q1), .second, .val (.long q2), .second, .val (.long sp), .second, .val (.long cn), .second, .val (.long st), .second, .val (.ref b11), .unset, .unset] [(.long cn), (.ref b11)])
    obtain ⟨T13, v13, L13, X13, q13, st13⟩ := own_callV X12 hx hZ hown (y := (⟨"com/example/ossature/ossature/SequenceRangeElement", "indexCount", "(J)J"⟩ : MethodName)) (hw _ (List.mem_of_getElem? (i := 23) rfl)) (hw _ (List.mem_of_getElem? (i := 24) rfl)) (hw _ (List.mem_of_getElem? (i := 26) rfl)) (hw _ (List.mem_of_getElem? (i := 25) rfl)) (hw _ (List.mem_of_getElem? (i := 7) rfl)) (hw _ (List.mem_of_getElem? (i := 27) rfl)) (by decide) (rmX l Z a0 hw [] b11 cn st sp T12.heap n0 ZI O hs) (a := b11) O.1 (Ls := #[.val (.long q1), .second, .val (.long q2), .second, .val (.long sp), .second, .val (.long cn), .second, .val (.long st), .second, .val (.ref b11), .unset, .unset]) (st := [(.long cn), (.ref b11)]) (W := 0) (by decide) (by decide) (by rw [hml]; rfl) (argsL := [(.long cn)]) (rest := []) (lenOf pd_3 rfl) rfl rfl (Nat.le_of_eq rfl) (hb hby at_47) rfl (by decide) (by decide)
    obtain ⟨rfl, N13', e13⟩ := q13
    have N13 := Fr.app N12 N13'
    refine own_go st13 ?_
    show own_Go p e below _ T13 (mkF m 50 #[.val (.long q1), .second, .val (.long q2), .second, .val (.long sp), .second, .val (.long cn), .second, .val (.long st), .second, .val (.ref b11), .unset, .unset] [(.long (own_ix st sp cn))])
    refine own_go (fun _ k => XS.lstore X13.here hx rfl (hb hby at_50) rfl (l' := #[.val (.long q1), .second, .val (.long q2), .second, .val (.long sp), .second, .val (.long cn), .second, .val (.long st), .second, .val (.ref b11), .val (.long (own_ix st sp cn)), .second]) rfl k) ?_
    show own_Go p e below _ T13 (mkF m 52 #[.val (.long q1), .second, .val (.long q2), .second, .val (.long sp), .second, .val (.long cn), .second, .val (.long st), .second, .val (.ref b11), .val (.long (own_ix st sp cn)), .second] [])
    refine own_go (fun _ k => XS.lload X13.here hx rfl (hb hby at_52) rfl  k) ?_
    show own_Go p e below _ T13 (mkF m 54 #[.val (.long q1), .second, .val (.long q2), .second, .val (.long sp), .second, .val (.long cn), .second, .val (.long st), .second, .val (.ref b11), .val (.long (own_ix st sp cn)), .second] [(.long sp)])
    refine own_go (fun _ k => X13.ldc2Long hx hown (mvT hZ (hw _ (List.mem_of_getElem? (i := 28) rfl))) (g := (mkF m 54 #[.val (.long q1), .second, .val (.long q2), .second, .val (.long sp), .second, .val (.long cn), .second, .val (.long st), .second, .val (.ref b11), .val (.long (own_ix st sp cn)), .second] [(.long sp)])) rfl (hb hby at_54) _ k) ?_
    show own_Go p e below _ T13 (mkF m 57 #[.val (.long q1), .second, .val (.long q2), .second, .val (.long sp), .second, .val (.long cn), .second, .val (.long st), .second, .val (.ref b11), .val (.long (own_ix st sp cn)), .second] [(.long (-9223372036854775808 : Int64)), (.long sp)])
    refine own_go (fun _ k => XS.lcmp X13.here hx rfl (hb hby at_57) rfl k) ?_
    show own_Go p e below _ T13 (mkF m 58 #[.val (.long q1), .second, .val (.long q2), .second, .val (.long sp), .second, .val (.long cn), .second, .val (.long st), .second, .val (.ref b11), .val (.long (own_ix st sp cn)), .second] [(.int (lcmpW sp (-9223372036854775808 : Int64)))])
    by_cases hm : sp = (-9223372036854775808 : Int64)
    · refine own_go (fun _ k => XS.ifNo X13.here hx rfl (hb hby at_58) rfl ((if0 _ _).trans (teq ((lw_eq _ _).mpr hm)).2) k) ?_
      show own_Go p e below _ T13 (mkF m 61 #[.val (.long q1), .second, .val (.long q2), .second, .val (.long sp), .second, .val (.long cn), .second, .val (.long st), .second, .val (.ref b11), .val (.long (own_ix st sp cn)), .second] [])
      have hn1 := own_ixMin st sp cn hst0 hm
      refine own_go (fun _ k => XS.lload X13.here hx rfl (hb hby at_61) rfl  k) ?_
      show own_Go p e below _ T13 (mkF m 63 #[.val (.long q1), .second, .val (.long q2), .second, .val (.long sp), .second, .val (.long cn), .second, .val (.long st), .second, .val (.ref b11), .val (.long (own_ix st sp cn)), .second] [(.long (own_ix st sp cn))])
      refine own_go (fun _ k => XS.lconst X13.here hx rfl (hb hby at_63) k) ?_
      show own_Go p e below _ T13 (mkF m 64 #[.val (.long q1), .second, .val (.long q2), .second, .val (.long sp), .second, .val (.long cn), .second, .val (.long st), .second, .val (.ref b11), .val (.long (own_ix st sp cn)), .second] [(.long (1 : Int64)), (.long (own_ix st sp cn))])
      refine own_go (fun _ k => XS.lcmp X13.here hx rfl (hb hby at_64) rfl k) ?_
      show own_Go p e below _ T13 (mkF m 65 #[.val (.long q1), .second, .val (.long q2), .second, .val (.long sp), .second, .val (.long cn), .second, .val (.long st), .second, .val (.ref b11), .val (.long (own_ix st sp cn)), .second] [(.int (lcmpW (own_ix st sp cn) (1 : Int64)))])
      refine own_go (fun _ k => XS.ifNo X13.here hx rfl (hb hby at_65) rfl ((if0 _ _).trans (teq ((lw_eq _ _).mpr hn1)).2) k) ?_
      show own_Go p e below _ T13 (mkF m 68 #[.val (.long q1), .second, .val (.long q2), .second, .val (.long sp), .second, .val (.long cn), .second, .val (.long st), .second, .val (.ref b11), .val (.long (own_ix st sp cn)), .second] [])
      refine own_go (fun _ k => XS.iconst X13.here hx rfl (hb hby at_68) k) ?_
      show own_Go p e below _ T13 (mkF m 69 #[.val (.long q1), .second, .val (.long q2), .second, .val (.long sp), .second, .val (.long cn), .second, .val (.long st), .second, .val (.ref b11), .val (.long (own_ix st sp cn)), .second] [(.int (1 : Int32))])
      refine own_go (fun _ k => XS.goto X13.here hx rfl (pc0 := 69) (pc' := 73) rfl (hb hby at_69) (by decide) (by decide) k) ?_
      show own_Go p e below _ T13 (mkF m 73 #[.val (.long q1), .second, .val (.long q2), .second, .val (.long sp), .second, .val (.long cn), .second, .val (.long st), .second, .val (.ref b11), .val (.long (own_ix st sp cn)), .second] [(.int (1 : Int32))])
      exact own_endZ X13 hx hret hlk (hb hby at_73) rfl (by decide) (by decide) ⟨rfl, N13⟩
    · refine own_go (fun _ k => XS.ifYes X13.here hx rfl (pc0 := 58) (pc' := 74) rfl (hb hby at_58) rfl ((if0 _ _).trans (feq ((not_congr (lw_eq _ _)).mpr hm)).2) (by decide) (by decide) k) ?_
      show own_Go p e below _ T13 (mkF m 74 #[.val (.long q1), .second, .val (.long q2), .second, .val (.long sp), .second, .val (.long cn), .second, .val (.long st), .second, .val (.ref b11), .val (.long (own_ix st sp cn)), .second] [])
      refine own_go (fun _ k => XS.lload X13.here hx rfl (hb hby at_74) rfl  k) ?_
      show own_Go p e below _ T13 (mkF m 76 #[.val (.long q1), .second, .val (.long q2), .second, .val (.long sp), .second, .val (.long cn), .second, .val (.long st), .second, .val (.ref b11), .val (.long (own_ix st sp cn)), .second] [(.long sp)])
      refine own_go (fun _ k => XS.lconst X13.here hx rfl (hb hby at_76) k) ?_
      show own_Go p e below _ T13 (mkF m 77 #[.val (.long q1), .second, .val (.long q2), .second, .val (.long sp), .second, .val (.long cn), .second, .val (.long st), .second, .val (.ref b11), .val (.long (own_ix st sp cn)), .second] [(.long (0 : Int64)), (.long sp)])
      refine own_go (fun _ k => XS.lcmp X13.here hx rfl (hb hby at_77) rfl k) ?_
      show own_Go p e below _ T13 (mkF m 78 #[.val (.long q1), .second, .val (.long q2), .second, .val (.long sp), .second, .val (.long cn), .second, .val (.long st), .second, .val (.ref b11), .val (.long (own_ix st sp cn)), .second] [(.int (lcmpW sp (0 : Int64)))])
      by_cases hp : (0 : Int64) < sp
      · refine own_go (fun _ k => XS.ifNo X13.here hx rfl (hb hby at_78) rfl ((if0 _ _).trans (tlt ((lw_gt _ _).mpr hp)).2.2.2) k) ?_
        show own_Go p e below _ T13 (mkF m 81 #[.val (.long q1), .second, .val (.long q2), .second, .val (.long sp), .second, .val (.long cn), .second, .val (.long st), .second, .val (.ref b11), .val (.long (own_ix st sp cn)), .second] [])
        have rc := rng64 cn
        have hp' : 0 < sp.toInt := own_lt.mp hp
        have u1 := c_lsub cn 1
        have u2 := rng64 (cn - (1 : Int64))
        have u3 := own_one
        have u4 := c_lsub (cn - (1 : Int64)) st
        have u5 := rng64 (cn - (1 : Int64) - st)
        have hr : 0 ≤ ((cn - (1 : Int64)) - st).toInt ∧ ((cn - (1 : Int64)) - st).toInt < 9223372036854775807 := by omega
        obtain ⟨f0, f1, f2, f3, f4, f5⟩ := own_fit ((cn - (1 : Int64)) - st) sp hr.1 hr.2 (by omega)
        have ei : own_ix st sp cn = ((cn - (1 : Int64)) - st) / sp + (1 : Int64) := by rw [own_ix, if_pos hp]
        refine own_go (fun _ k => XS.lload X13.here hx rfl (hb hby at_81) rfl  k) ?_
        show own_Go p e below _ T13 (mkF m 83 #[.val (.long q1), .second, .val (.long q2), .second, .val (.long sp), .second, .val (.long cn), .second, .val (.long st), .second, .val (.ref b11), .val (.long (own_ix st sp cn)), .second] [(.long (own_ix st sp cn))])
        refine own_go (fun _ k => XS.lload X13.here hx rfl (hb hby at_83) rfl  k) ?_
        show own_Go p e below _ T13 (mkF m 85 #[.val (.long q1), .second, .val (.long q2), .second, .val (.long sp), .second, .val (.long cn), .second, .val (.long st), .second, .val (.ref b11), .val (.long (own_ix st sp cn)), .second] [(.long cn), (.long (own_ix st sp cn))])
        refine own_go (fun _ k => XS.lconst X13.here hx rfl (hb hby at_85) k) ?_
        show own_Go p e below _ T13 (mkF m 86 #[.val (.long q1), .second, .val (.long q2), .second, .val (.long sp), .second, .val (.long cn), .second, .val (.long st), .second, .val (.ref b11), .val (.long (own_ix st sp cn)), .second] [(.long (1 : Int64)), (.long cn), (.long (own_ix st sp cn))])
        refine own_go (fun _ k => XS.lsub X13.here hx rfl (hb hby at_86) rfl k) ?_
        show own_Go p e below _ T13 (mkF m 87 #[.val (.long q1), .second, .val (.long q2), .second, .val (.long sp), .second, .val (.long cn), .second, .val (.long st), .second, .val (.ref b11), .val (.long (own_ix st sp cn)), .second] [(.long (cn - (1 : Int64))), (.long (own_ix st sp cn))])
        refine own_go (fun _ k => XS.lload X13.here hx rfl (hb hby at_87) rfl  k) ?_
        show own_Go p e below _ T13 (mkF m 89 #[.val (.long q1), .second, .val (.long q2), .second, .val (.long sp), .second, .val (.long cn), .second, .val (.long st), .second, .val (.ref b11), .val (.long (own_ix st sp cn)), .second] [(.long st), (.long (cn - (1 : Int64))), (.long (own_ix st sp cn))])
        refine own_go (fun _ k => XS.lsub X13.here hx rfl (hb hby at_89) rfl k) ?_
        show own_Go p e below _ T13 (mkF m 90 #[.val (.long q1), .second, .val (.long q2), .second, .val (.long sp), .second, .val (.long cn), .second, .val (.long st), .second, .val (.ref b11), .val (.long (own_ix st sp cn)), .second] [(.long ((cn - (1 : Int64)) - st)), (.long (own_ix st sp cn))])
        refine own_go (fun _ k => XS.lload X13.here hx rfl (hb hby at_90) rfl  k) ?_
        show own_Go p e below _ T13 (mkF m 92 #[.val (.long q1), .second, .val (.long q2), .second, .val (.long sp), .second, .val (.long cn), .second, .val (.long st), .second, .val (.ref b11), .val (.long (own_ix st sp cn)), .second] [(.long sp), (.long ((cn - (1 : Int64)) - st)), (.long (own_ix st sp cn))])
        obtain ⟨T14, v14, L14, X14, q14, st14⟩ := own_callS X13 hx hZ hown (y := (⟨"com/example/ossature/ossature/SequenceRangeElementIndexCountPinLaw", "fitsExactly", "(JJJ)Z"⟩ : MethodName)) (hw _ (List.mem_of_getElem? (i := 29) rfl)) (hw _ (List.mem_of_getElem? (i := 30) rfl)) (hw _ (List.mem_of_getElem? (i := 31) rfl)) (hw _ (List.mem_of_getElem? (i := 32) rfl)) (by decide) (rmF l Z a0 hw [] (own_ix st sp cn) ((cn - (1 : Int64)) - st) sp T12.heap n0 ZI _ (by rw [ei]; exact f0) f1 f2 f3 f4 f5) (Ls := #[.val (.long q1), .second, .val (.long q2), .second, .val (.long sp), .second, .val (.long cn), .second, .val (.long st), .second, .val (.ref b11), .val (.long (own_ix st sp cn)), .second]) (st := [(.long sp), (.long ((cn - (1 : Int64)) - st)), (.long (own_ix st sp cn))]) (W := 0) (by decide) (by decide) (by rw [hml]; rfl) (argsL := [(.long (own_ix st sp cn)), (.long ((cn - (1 : Int64)) - st)), (.long sp)]) (rest := []) (lenOf pd_4 rfl) rfl rfl (Nat.le_of_eq rfl) (hb hby at_92) e13 (by decide) (by decide)
        obtain ⟨rfl, N14', e14⟩ := q14
        have N14 := Fr.app N13 N14'
        refine own_go st14 ?_
        show own_Go p e below _ T14 (mkF m 95 #[.val (.long q1), .second, .val (.long q2), .second, .val (.long sp), .second, .val (.long cn), .second, .val (.long st), .second, .val (.ref b11), .val (.long (own_ix st sp cn)), .second] [(.int 1)])
        exact own_endZ X14 hx hret hlk (hb hby at_95) rfl (by decide) (by decide) ⟨rfl, N14⟩
      · refine own_go (fun _ k => XS.ifYes X13.here hx rfl (pc0 := 78) (pc' := 96) rfl (hb hby at_78) rfl ((if0 _ _).trans (flt ((not_congr (lw_gt _ _)).mpr hp)).2.2.2) (by decide) (by decide) k) ?_
        show own_Go p e below _ T13 (mkF m 96 #[.val (.long q1), .second, .val (.long q2), .second, .val (.long sp), .second, .val (.long cn), .second, .val (.long st), .second, .val (.ref b11), .val (.long (own_ix st sp cn)), .second] [])
        have rs := rng64 sp
        have hp' : ¬ 0 < sp.toInt := fun z => hp (own_lt.mpr z)
        have hs' : ¬ sp.toInt = 0 := fun z => hs (own_eq.mpr z)
        have hm' : ¬ sp.toInt = -9223372036854775808 := fun z => hm (own_eq.mpr z)
        have u1 := c_lneg sp
        have u2 := rng64 (-sp)
        have rc := rng64 cn
        obtain ⟨f0, f1, f2, f3, f4, f5⟩ := own_fit st (-sp) hst0 (by omega) (by omega)
        have ei : own_ix st sp cn = st / (-sp) + (1 : Int64) := by rw [own_ix, if_neg hp]
        refine own_go (fun _ k => XS.lload X13.here hx rfl (hb hby at_96) rfl  k) ?_
        show own_Go p e below _ T13 (mkF m 98 #[.val (.long q1), .second, .val (.long q2), .second, .val (.long sp), .second, .val (.long cn), .second, .val (.long st), .second, .val (.ref b11), .val (.long (own_ix st sp cn)), .second] [(.long (own_ix st sp cn))])
        refine own_go (fun _ k => XS.lload X13.here hx rfl (hb hby at_98) rfl  k) ?_
        show own_Go p e below _ T13 (mkF m 100 #[.val (.long q1), .second, .val (.long q2), .second, .val (.long sp), .second, .val (.long cn), .second, .val (.long st), .second, .val (.ref b11), .val (.long (own_ix st sp cn)), .second] [(.long st), (.long (own_ix st sp cn))])
        refine own_go (fun _ k => XS.lload X13.here hx rfl (hb hby at_100) rfl  k) ?_
        show own_Go p e below _ T13 (mkF m 102 #[.val (.long q1), .second, .val (.long q2), .second, .val (.long sp), .second, .val (.long cn), .second, .val (.long st), .second, .val (.ref b11), .val (.long (own_ix st sp cn)), .second] [(.long sp), (.long st), (.long (own_ix st sp cn))])
        refine own_go (fun _ k => XS.lneg X13.here hx rfl (hb hby at_102) rfl k) ?_
        show own_Go p e below _ T13 (mkF m 103 #[.val (.long q1), .second, .val (.long q2), .second, .val (.long sp), .second, .val (.long cn), .second, .val (.long st), .second, .val (.ref b11), .val (.long (own_ix st sp cn)), .second] [(.long (-sp)), (.long st), (.long (own_ix st sp cn))])
        obtain ⟨T15, v15, L15, X15, q15, st15⟩ := own_callS X13 hx hZ hown (y := (⟨"com/example/ossature/ossature/SequenceRangeElementIndexCountPinLaw", "fitsExactly", "(JJJ)Z"⟩ : MethodName)) (hw _ (List.mem_of_getElem? (i := 29) rfl)) (hw _ (List.mem_of_getElem? (i := 30) rfl)) (hw _ (List.mem_of_getElem? (i := 31) rfl)) (hw _ (List.mem_of_getElem? (i := 32) rfl)) (by decide) (rmF l Z a0 hw [] (own_ix st sp cn) st (-sp) T12.heap n0 ZI _ (by rw [ei]; exact f0) f1 f2 f3 f4 f5) (Ls := #[.val (.long q1), .second, .val (.long q2), .second, .val (.long sp), .second, .val (.long cn), .second, .val (.long st), .second, .val (.ref b11), .val (.long (own_ix st sp cn)), .second]) (st := [(.long (-sp)), (.long st), (.long (own_ix st sp cn))]) (W := 0) (by decide) (by decide) (by rw [hml]; rfl) (argsL := [(.long (own_ix st sp cn)), (.long st), (.long (-sp))]) (rest := []) (lenOf pd_4 rfl) rfl rfl (Nat.le_of_eq rfl) (hb hby at_103) e13 (by decide) (by decide)
        obtain ⟨rfl, N15', e15⟩ := q15
        have N15 := Fr.app N13 N15'
        refine own_go st15 ?_
        show own_Go p e below _ T15 (mkF m 106 #[.val (.long q1), .second, .val (.long q2), .second, .val (.long sp), .second, .val (.long cn), .second, .val (.long st), .second, .val (.ref b11), .val (.long (own_ix st sp cn)), .second] [(.int 1)])
        exact own_endZ X15 hx hret hlk (hb hby at_106) rfl (by decide) (by decide) ⟨rfl, N15⟩
set_option maxRecDepth 65536 in
set_option maxHeartbeats 40000000 in
theorem comes_1 {Post : Tables → Env → Array Value → State → Outcome → State → Prop} (hpost : ∀ tb e args s v u, (limb_1_1.after args s (.returned v) u = true ∧ limb_1_2.after args s (.returned v) u = true ∧ True) → FrameEnd s (.returned v) u (Jvm.fieldLocs frame_1_writes args s ++ Jvm.arrayLocs frame_1_arrays args s ++ Jvm.staticLocs frame_1_statics s) 16 128 → Post tb e args s (.returned v) u) :
    ArmFor flags0 classFile x code maxLocals ret World_1 tables_1 room_1 Calls_1 rest_1 Pre_1 Post := by
  intro l hfl _ _ p e ha hc hk s m args below hf hA hF happ hP
  obtain ⟨hcalls, hrest, hpre⟩ := hP
  obtain ⟨-, -, -, hnamed, -, -, -, hat⟩ := (Spec.applies_iff hf).mp happ
  obtain ⟨hg, hn⟩ := and_e (Cond.before_iff.mp (show (Jvm.Cond.and given_1 narrow_1).before args s = true from hpre))
  obtain ⟨k0, g0⟩ := and_e hg
  obtain ⟨k1, g1⟩ := and_e g0
  obtain ⟨k2, g2⟩ := and_e g1
  obtain ⟨w0, w1, w2, rfl⟩ : ∃ w0 w1 w2 : Value, args = #[w0, w1, w2] := by
    have hs : args.size = 3 := by simpa [Cond.value, given_1] using k0
    obtain ⟨L⟩ := args
    match L, hs with
    | [w0, w1, w2], _ => exact ⟨w0, w1, w2, rfl⟩
  have hw := fun d (hd : d ∈ tables_1) => atoms_spec (ws := Jvm.Cond.code x code maxLocals ret :: tables_1) hat d (List.mem_cons_of_mem _ hd)
  obtain ⟨i0, ei0⟩ := isL_v k1
  obtain rfl : w0 = (.long i0) := Option.some.inj ei0
  obtain ⟨i1, ei1⟩ := isL_v k2
  obtain rfl : w1 = (.long i1) := Option.some.inj ei1
  obtain ⟨i2, ei2⟩ := isL_v g2
  obtain rfl : w2 = (.long i2) := Option.some.inj ei2
  obtain ⟨n, o, h1, h2, h3, _, L, rfl, ⟨rfl, N⟩, hq⟩ := rm0 l s _ hw tables_1 i0 i1 i2 s.heap s.heap.size (Nat.le_refl _) p e ha hc hk s m _ below hf ((Spec.applies_iff_loose hf).mp happ).1 ⟨rfl, State.Warmed39.refl s, rfl⟩ trivial
  refine ⟨n, _, h1, h2, h3, hpost _ _ _ _ _ _ ⟨Cond.after_iff.mpr rfl, Cond.after_iff.mpr (eq_i res_at (Term.int_eval (1)) rfl), trivial⟩ ⟨hq.1, hq.2.1, (hq.2.2.sift fun y hy => Or.inr (N y hy)).mono (by decide) (by decide)⟩⟩
theorem main_1_1 : Claimed_1_1 := comes_1 fun _ _ _ _ _ _ h hF => ⟨h.1, hF⟩
theorem main_1_2 : Claimed_1_2 := comes_1 fun _ _ _ _ _ _ h hF => ⟨h.2.1, hF⟩
end Jvm.Pilot.@@N@@
namespace Jvm.Pilot.@@N@@
open Jvm Jvm.ClassFile Sem Op Lib Jvm.Free Jvm.Stand Jvm.Pilot.@@N@@.Jvm.D
/-! MADE BY PROGRAM (witnessworld.py) out of the Statement's table words and the real class files: 12 classes; the members and pool entries that the words name. The judged class is class 1, her method 1. -/
namespace start1
open Jvm.ClassFile
def u (s : String) : CpInfo := .utf8 (stringToUtf16 s)
/-- a pool by its gaps: so many unusable entries, then the entry; so many at the end -/
def gap : Nat → List CpInfo → List CpInfo
  | 0, r => r
  | n + 1, r => .unusable :: gap n r
def poolList (es : List (Nat × CpInfo)) (last : Nat) : List CpInfo := es.foldr (fun e r => gap e.1 (e.2 :: r)) (gap last [])
def pool (es : List (Nat × CpInfo)) (last : Nat) : Array CpInfo := ⟨poolList es last⟩
def fileOf (pool : Array CpInfo) (this : Nat) (attrs : Array Attribute := #[]) (ms : Array MethodInfo := #[]) (fl : Nat := 33) (sup : Nat := 0) (ifs : Array Nat := #[]) (fds : Array FieldInfo := #[]) : ClassFile where
  minorVersion := 0
  majorVersion := 65
  constantPool := pool
  accessFlags := fl
  thisClass := this
  superClass := sup
  interfaces := ifs
  fields := fds
  methods := ms
  attributes := attrs
def plain (name : String) (sup : Option ClassId) : Class where
  name := name
  kind := .ordinary
  loader := none
  accessFlags := 33
  super := sup
  interfaces := #[]
  cf := none
  fields := #[]
  methods := #[]
  instanceTypes := #[]
  staticTypes := #[]
  resolved := #[]
  callSites := []
  init := .initialized
  statics := none
  mirror := none

def pool0 : Array CpInfo := pool [(5, u "<init>"), (0, u "()V"), (1, .class_ 10), (1, u "java/lang/Object")] 113

def k0c0 : Code := { maxStack := 0, maxLocals := 1, code := object_method_1_code, exceptionTable := #[], attributes := #[] }
def k0m0 : Method := { name := "<init>", desc := "()V", sig := { parameters := [], returnType := none }, accessFlags := 1, code := some k0c0 }
/-- java/lang/Object -/
def k0 : Class := { plain "java/lang/Object" none with
  accessFlags := 33
  interfaces := #[]
  cf := some (fileOf pool0 8 #[] #[{ accessFlags := 1, nameIndex := 5, descriptorIndex := 6, attributes := #[] }] 33 0 #[] #[])
  fields := #[]
  methods := #[k0m0]
  instanceTypes := #[]
  staticTypes := #[]
  resolved := Array.replicate 124 none
  statics := none }

def pool1 : Array CpInfo := pool [(2, .class_ 4), (1, u "java/lang/Object"), (0, u "<init>"), (0, u "()V"), (2, .long 9223372036854775807), (1, .methodref 12 13), (0, .class_ 14), (0, .nameAndType 15 16), (0, u "java/lang/Math"), (0, u "max"), (0, u "(JJ)J"), (0, .class_ 18), (0, u "com/example/ossature/ossature/SequenceRangeElement"), (0, .methodref 17 20), (0, .nameAndType 5 21), (0, u "(JJ)V"), (0, .methodref 17 23), (0, .nameAndType 24 25), (0, u "indexCount"), (0, u "(J)J"), (0, .long 9223372036854775808), (1, .methodref 29 30), (0, .class_ 31), (0, .nameAndType 32 33), (0, u "com/example/ossature/ossature/SequenceRangeElementIndexCountPinLaw"), (0, u "fitsExactly"), (0, u "(JJJ)Z"), (2, u "law")] 3

def k1m0 : Method := { name := "<init>", desc := "()V", sig := { parameters := [], returnType := none }, accessFlags := 1, code := none }
def k1c1 : Code := { maxStack := 6, maxLocals := 13, code := code, exceptionTable := #[], attributes := #[] }
def k1m1 : Method := { name := "law", desc := "(JJJ)Z", sig := { parameters := [.long, .long, .long], returnType := some .boolean }, accessFlags := 9, code := some k1c1 }
def k1c2 : Code := { maxStack := 6, maxLocals := 8, code := method_3_code, exceptionTable := #[], attributes := #[] }
def k1m2 : Method := { name := "fitsExactly", desc := "(JJJ)Z", sig := { parameters := [.long, .long, .long], returnType := some .boolean }, accessFlags := 10, code := some k1c2 }
/-- com/example/ossature/ossature/SequenceRangeElementIndexCountPinLaw -/
def k1 : Class := { plain "com/example/ossature/ossature/SequenceRangeElementIndexCountPinLaw" (some 0) with
  accessFlags := 49
  interfaces := #[]
  cf := some (fileOf pool1 29 #[] #[{ accessFlags := 1, nameIndex := 5, descriptorIndex := 6, attributes := #[] }, { accessFlags := 9, nameIndex := 36, descriptorIndex := 33, attributes := #[] }, { accessFlags := 10, nameIndex := 32, descriptorIndex := 33, attributes := #[] }] 49 2 #[] #[])
  fields := #[]
  methods := #[k1m0, k1m1, k1m2]
  instanceTypes := #[]
  staticTypes := #[]
  resolved := Array.replicate 40 none
  statics := none }

def pool2 : Array CpInfo := pool [(1, .class_ 2), (0, u "java/lang/Math"), (1, .class_ 6), (1, u "java/lang/Object"), (0, u "<init>"), (0, u "()V"), (89, .class_ 100), (1, u "java/lang/Math$RandomNumberGeneratorHolder"), (20, u "(JJ)J"), (50, u "negativeZeroFloatBits"), (0, u "J"), (2, u "negativeZeroDoubleBits"), (21, u "max"), (46, u "$assertionsDisabled"), (0, u "Z"), (91, u "twoToTheDoubleScaleDown"), (0, u "D"), (4, u "twoToTheDoubleScaleUp"), (9, u "E"), (3, u "PI"), (2, u "TAU"), (2, u "DEGREES_TO_RADIANS"), (0, u "RADIANS_TO_DEGREES")] 94

def k2m0 : Method := { name := "<init>", desc := "()V", sig := { parameters := [], returnType := none }, accessFlags := 2, code := none }
def k2c1 : Code := { maxStack := 4, maxLocals := 4, code := jdk_29_method_66_code, exceptionTable := #[], attributes := #[] }
def k2m1 : Method := { name := "max", desc := "(JJ)J", sig := { parameters := [.long, .long], returnType := some .long }, accessFlags := 9, code := some k2c1 }
/-- java/lang/Math -/
def k2 : Class := { plain "java/lang/Math" (some 0) with
  accessFlags := 49
  interfaces := #[]
  cf := some (fileOf pool2 1 #[.nestMembers #[98]] #[{ accessFlags := 2, nameIndex := 7, descriptorIndex := 8, attributes := #[] }, { accessFlags := 9, nameIndex := 198, descriptorIndex := 121, attributes := #[] }] 49 4 #[] #[{ accessFlags := 25, nameIndex := 354, descriptorIndex := 339, attributes := #[] }, { accessFlags := 25, nameIndex := 358, descriptorIndex := 339, attributes := #[] }, { accessFlags := 25, nameIndex := 361, descriptorIndex := 339, attributes := #[] }, { accessFlags := 26, nameIndex := 364, descriptorIndex := 339, attributes := #[] }, { accessFlags := 26, nameIndex := 365, descriptorIndex := 339, attributes := #[] }, { accessFlags := 26, nameIndex := 172, descriptorIndex := 173, attributes := #[] }, { accessFlags := 26, nameIndex := 176, descriptorIndex := 173, attributes := #[] }, { accessFlags := 8, nameIndex := 344, descriptorIndex := 339, attributes := #[] }, { accessFlags := 8, nameIndex := 338, descriptorIndex := 339, attributes := #[] }, { accessFlags := 4120, nameIndex := 245, descriptorIndex := 246, attributes := #[] }])
  fields := #[{ name := "E", type := .double, accessFlags := 25, slot := 0, constantValue := 0 }, { name := "PI", type := .double, accessFlags := 25, slot := 1, constantValue := 0 }, { name := "TAU", type := .double, accessFlags := 25, slot := 2, constantValue := 0 }, { name := "DEGREES_TO_RADIANS", type := .double, accessFlags := 26, slot := 3, constantValue := 0 }, { name := "RADIANS_TO_DEGREES", type := .double, accessFlags := 26, slot := 4, constantValue := 0 }, { name := "negativeZeroFloatBits", type := .long, accessFlags := 26, slot := 5, constantValue := 0 }, { name := "negativeZeroDoubleBits", type := .long, accessFlags := 26, slot := 6, constantValue := 0 }, { name := "twoToTheDoubleScaleUp", type := .double, accessFlags := 8, slot := 7, constantValue := 0 }, { name := "twoToTheDoubleScaleDown", type := .double, accessFlags := 8, slot := 8, constantValue := 0 }, { name := "$assertionsDisabled", type := .boolean, accessFlags := 4120, slot := 9, constantValue := 0 }]
  methods := #[k2m0, k2m1]
  instanceTypes := #[]
  staticTypes := #[.double, .double, .double, .double, .double, .long, .long, .double, .double, .boolean]
  resolved := Array.replicate 460 none
  statics := none }

def pool3 : Array CpInfo := pool [(1, .methodref 2 3), (0, .class_ 4), (0, .nameAndType 5 6), (0, u "java/lang/Object"), (0, u "<init>"), (0, u "()V"), (0, .class_ 8), (0, u "java/lang/Record")] 13

def k3c0 : Code := { maxStack := 1, maxLocals := 1, code := jdk_30_method_1_code, exceptionTable := #[], attributes := #[] }
def k3m0 : Method := { name := "<init>", desc := "()V", sig := { parameters := [], returnType := none }, accessFlags := 4, code := some k3c0 }
/-- java/lang/Record -/
def k3 : Class := { plain "java/lang/Record" (some 0) with
  accessFlags := 1057
  interfaces := #[]
  cf := some (fileOf pool3 7 #[] #[{ accessFlags := 4, nameIndex := 5, descriptorIndex := 6, attributes := #[] }] 1057 2 #[] #[])
  fields := #[]
  methods := #[k3m0]
  instanceTypes := #[]
  staticTypes := #[]
  resolved := Array.replicate 22 none
  statics := none }

def pool4 : Array CpInfo := pool [(28, .class_ 29), (0, u "com/example/ossature/ossature/MemoryLayout$PathElement"), (0, .class_ 31), (0, u "java/lang/Object"), (12, .class_ 45), (0, u "com/example/ossature/ossature/MemoryLayout")] 3

/-- com/example/ossature/ossature/MemoryLayout$PathElement -/
def k4 : Class := { plain "com/example/ossature/ossature/MemoryLayout$PathElement" (some 0) with
  accessFlags := 1537
  interfaces := #[]
  cf := some (fileOf pool4 28 #[.nestHost 44] #[] 1537 30 #[] #[])
  fields := #[]
  methods := #[]
  instanceTypes := #[]
  staticTypes := #[]
  resolved := Array.replicate 49 none
  statics := none }

def pool5 : Array CpInfo := pool [(1, .methodref 2 3), (0, .class_ 4), (0, .nameAndType 5 6), (0, u "java/lang/Record"), (0, u "<init>"), (0, u "()V"), (0, .fieldref 8 9), (0, .class_ 10), (0, .nameAndType 11 12), (0, u "com/example/ossature/ossature/SequenceRangeElement"), (0, u "start"), (0, u "J"), (0, .fieldref 8 14), (0, .nameAndType 15 12), (0, u "step"), (12, .class_ 29), (0, u "com/example/ossature/ossature/MemoryLayout$PathElement"), (0, u "(JJ)V"), (3, u "indexCount"), (0, u "(J)J")] 29

def k5c0 : Code := { maxStack := 3, maxLocals := 5, code := prog_87_method_1_code, exceptionTable := #[], attributes := #[] }
def k5m0 : Method := { name := "<init>", desc := "(JJ)V", sig := { parameters := [.long, .long], returnType := none }, accessFlags := 0, code := some k5c0 }
def k5c1 : Code := { maxStack := 4, maxLocals := 3, code := prog_87_method_2_code, exceptionTable := #[], attributes := #[] }
def k5m1 : Method := { name := "indexCount", desc := "(J)J", sig := { parameters := [.long], returnType := some .long }, accessFlags := 0, code := some k5c1 }
/-- com/example/ossature/ossature/SequenceRangeElement -/
def k5 : Class := { plain "com/example/ossature/ossature/SequenceRangeElement" (some 3) with
  accessFlags := 48
  interfaces := #[4]
  cf := some (fileOf pool5 8 #[] #[{ accessFlags := 0, nameIndex := 5, descriptorIndex := 30, attributes := #[] }, { accessFlags := 0, nameIndex := 34, descriptorIndex := 35, attributes := #[] }] 48 2 #[28] #[{ accessFlags := 18, nameIndex := 11, descriptorIndex := 12, attributes := #[] }, { accessFlags := 18, nameIndex := 15, descriptorIndex := 12, attributes := #[] }])
  fields := #[{ name := "start", type := .long, accessFlags := 18, slot := 0, constantValue := 0 }, { name := "step", type := .long, accessFlags := 18, slot := 1, constantValue := 0 }]
  methods := #[k5m0, k5m1]
  instanceTypes := #[.long, .long]
  staticTypes := #[]
  resolved := Array.replicate 65 none
  statics := none }

def pool6 : Array CpInfo := pool [(1, u "java/lang/Cloneable"), (0, .class_ 1), (0, u "java/lang/Object"), (0, .class_ 3)] 3

/-- java/lang/Cloneable -/
def k6 : Class := { plain "java/lang/Cloneable" (some 0) with
  accessFlags := 1537
  interfaces := #[]
  cf := some (fileOf pool6 2 #[] #[] 1537 4 #[] #[])
  fields := #[]
  methods := #[]
  instanceTypes := #[]
  staticTypes := #[]
  resolved := Array.replicate 8 none
  statics := none }

def pool7 : Array CpInfo := pool [(1, u "java/io/Serializable"), (0, .class_ 1), (0, u "java/lang/Object"), (0, .class_ 3)] 3

/-- java/io/Serializable -/
def k7 : Class := { plain "java/io/Serializable" (some 0) with
  accessFlags := 1537
  interfaces := #[]
  cf := some (fileOf pool7 2 #[] #[] 1537 4 #[] #[])
  fields := #[]
  methods := #[]
  instanceTypes := #[]
  staticTypes := #[]
  resolved := Array.replicate 8 none
  statics := none }

/-- the primitive byte -/
def k8 : Class := { plain "byte" none with kind := .primitive 'B', accessFlags := 0x411 }
/-- [B -/
def k9 : Class := { plain "[B" (some 0) with kind := .array 8 .byte, interfaces := #[6, 7], accessFlags := 1041 }

/-- the primitive int -/
def k10 : Class := { plain "int" none with kind := .primitive 'I', accessFlags := 0x411 }
/-- [I -/
def k11 : Class := { plain "[I" (some 0) with kind := .array 10 .int, interfaces := #[6, 7], accessFlags := 1041 }

def heap : Heap := #[]
def classes : Array Class := #[k0, k1, k2, k3, k4, k5, k6, k7, k8, k9, k10, k11]
def interned : List (Array UInt16 × Addr) := []
def slotsUsed : Nat := 0
def theMethod : MethodId := ⟨1, 1⟩
def args0 : Array Value := #[.long 7, .long 3, .long 2]
def aboutOver (below : List Frame) : State where
  vm := { classes := classes, interned := interned.toArray }
  heap := heap
  slotsUsed := slotsUsed
  threads := #[{ frames := .invoking theMethod args0 :: below }]
def below0 : List Frame := [.native { method := ⟨0, 0⟩, args := #[] }]
def about1 : State := aboutOver below0
def p0 : Program := .bare "" "" ""
def e0 : Env := launch0.env 0 0 0
theorem w_frames : about1.frames = Frame.invoking theMethod args0 :: below0 := rfl
set_option maxRecDepth 65536 in
theorem w_args : argsFit about1.vm theMethod args0 = true := by decide +kernel
set_option maxRecDepth 65536 in
theorem w_heap : heapFits about1 = true := by decide +kernel
set_option maxRecDepth 65536 in
theorem w_runnable : about1.curStatus? = some .runnable := by decide +kernel
set_option maxRecDepth 65536 in
theorem w_alone : about1.alone = true := by decide +kernel
set_option maxRecDepth 65536 in
theorem w_named : about1.methodNamed? x = some theMethod := by decide +kernel
set_option maxRecDepth 65536 in
theorem w_hears : about1.hears theMethod below0 = true := by decide +kernel
set_option maxRecDepth 65536 in
theorem w_ripe : about1.ripe theMethod args0 below0 = true := by decide +kernel
theorem w_running : about1.status = .running := rfl
set_option maxRecDepth 65536 in
theorem w_room : about1.hasRoom e0.platform room_1 = true :=
  launch0.hasRoom_least _ room_1 (by decide +kernel) (by decide +kernel) (by decide +kernel) (by decide +kernel) (by decide +kernel) (by decide +kernel)
theorem allAtoms_all (ts : List Jvm.Cond) (a : Array Jvm.Value) (st : Jvm.State) : (allAtoms ts).before a st = ts.all (fun c => c.before a st) := by
  induction ts with
  | nil => rfl
  | cons c t ih =>
    show (Jvm.Cond.and c (allAtoms t)).before a st = _
    rw [Jvm.Cond.before_and, ih, List.all_cons]
def words1 : List Jvm.Cond := Jvm.Cond.code x code maxLocals ret :: tables_1
/-- a 'code' word, met by the world's own term for the bytes: nothing is compared byte by byte -/
theorem code_word {y : MethodName} {bytes : ByteArray} {mx : Nat} {rt : Option FieldType} {a : Array Value} {s : State} {m : MethodId} {meth : Method} {c : Code} (h1 : s.methodNamed? y = some m) (h2 : s.vm.method? m = some meth) (h3 : meth.code = some c) (h4 : c.code = bytes)
    (h5 : (c.maxLocals == mx && c.exceptionTable.isEmpty && decide (c.maxStack ≤ mostOperands) && decide (meth.sig.returnType = rt) && !meth.locks && decide (parseMethodDescriptor y.desc = some meth.sig)) = true) : (Jvm.Cond.code y bytes mx rt).before a s = true := by
  simp only [Bool.and_eq_true, beq_iff_eq, Bool.not_eq_true', decide_eq_true_eq] at h5
  obtain ⟨⟨⟨⟨⟨g1, g2⟩, g3⟩, g4⟩, g5⟩, g6⟩ := h5
  simp [Cond.before, Cond.holds, Cond.value, h1, h2, h3, h4, g1, g2, g3, g4, g5, g6]
def isCode : Jvm.Cond → Bool
  | .code _ _ _ _ => true
  | _ => false
theorem all_split {L : List Jvm.Cond} {P : Jvm.Cond → Bool} (h1 : L.all (fun c => isCode c || P c) = true) (h2 : ∀ c ∈ L.filter isCode, P c = true) : L.all P = true := by
  refine List.all_eq_true.mpr fun c hc => ?_
  have h := List.all_eq_true.mp h1 c hc
  rcases Bool.eq_false_or_eq_true (isCode c) with hi | hi
  · exact h2 c (List.mem_filter.mpr ⟨hc, hi⟩)
  · simpa [hi] using h
set_option maxRecDepth 65536 in
theorem w_c0 : (Jvm.Cond.code x code maxLocals ret).before args0 about1 = true := code_word (m := ⟨1, 1⟩) (meth := k1m1) (c := k1c1) (by decide +kernel) rfl rfl rfl (by decide +kernel)
set_option maxRecDepth 65536 in
theorem w_c1 : (Jvm.Cond.code ({ cls := "java/lang/Math", name := "max", desc := "(JJ)J" } : Jvm.MethodName) jdk_29_method_66_code (4 : Nat) (Option.some Jvm.ClassFile.FieldType.long)).before args0 about1 = true := code_word (m := ⟨2, 1⟩) (meth := k2m1) (c := k2c1) (by decide +kernel) rfl rfl rfl (by decide +kernel)
set_option maxRecDepth 65536 in
theorem w_c2 : (Jvm.Cond.code ({ cls := "com/example/ossature/ossature/SequenceRangeElement", name := "<init>", desc := "(JJ)V" } : Jvm.MethodName) prog_87_method_1_code (5 : Nat) (Option.none : Option Jvm.ClassFile.FieldType)).before args0 about1 = true := code_word (m := ⟨5, 0⟩) (meth := k5m0) (c := k5c0) (by decide +kernel) rfl rfl rfl (by decide +kernel)
set_option maxRecDepth 65536 in
theorem w_c3 : (Jvm.Cond.code ({ cls := "java/lang/Record", name := "<init>", desc := "()V" } : Jvm.MethodName) jdk_30_method_1_code (1 : Nat) (Option.none : Option Jvm.ClassFile.FieldType)).before args0 about1 = true := code_word (m := ⟨3, 0⟩) (meth := k3m0) (c := k3c0) (by decide +kernel) rfl rfl rfl (by decide +kernel)
set_option maxRecDepth 65536 in
theorem w_c4 : (Jvm.Cond.code ({ cls := "java/lang/Object", name := "<init>", desc := "()V" } : Jvm.MethodName) object_method_1_code (1 : Nat) (Option.none : Option Jvm.ClassFile.FieldType)).before args0 about1 = true := code_word (m := ⟨0, 0⟩) (meth := k0m0) (c := k0c0) (by decide +kernel) rfl rfl rfl (by decide +kernel)
set_option maxRecDepth 65536 in
theorem w_c5 : (Jvm.Cond.code ({ cls := "com/example/ossature/ossature/SequenceRangeElement", name := "indexCount", desc := "(J)J" } : Jvm.MethodName) prog_87_method_2_code (3 : Nat) (Option.some Jvm.ClassFile.FieldType.long)).before args0 about1 = true := code_word (m := ⟨5, 1⟩) (meth := k5m1) (c := k5c1) (by decide +kernel) rfl rfl rfl (by decide +kernel)
set_option maxRecDepth 65536 in
theorem w_c6 : (Jvm.Cond.code ({ cls := "com/example/ossature/ossature/SequenceRangeElementIndexCountPinLaw", name := "fitsExactly", desc := "(JJJ)Z" } : Jvm.MethodName) method_3_code (8 : Nat) (Option.some Jvm.ClassFile.FieldType.boolean)).before args0 about1 = true := code_word (m := ⟨1, 2⟩) (meth := k1m2) (c := k1c2) (by decide +kernel) rfl rfl rfl (by decide +kernel)
def codes1 : List Jvm.Cond := [Jvm.Cond.code x code maxLocals ret, Jvm.Cond.code ({ cls := "java/lang/Math", name := "max", desc := "(JJ)J" } : Jvm.MethodName) jdk_29_method_66_code (4 : Nat) (Option.some Jvm.ClassFile.FieldType.long), Jvm.Cond.code ({ cls := "com/example/ossature/ossature/SequenceRangeElement", name := "<init>", desc := "(JJ)V" } : Jvm.MethodName) prog_87_method_1_code (5 : Nat) (Option.none : Option Jvm.ClassFile.FieldType), Jvm.Cond.code ({ cls := "java/lang/Record", name := "<init>", desc := "()V" } : Jvm.MethodName) jdk_30_method_1_code (1 : Nat) (Option.none : Option Jvm.ClassFile.FieldType), Jvm.Cond.code ({ cls := "java/lang/Object", name := "<init>", desc := "()V" } : Jvm.MethodName) object_method_1_code (1 : Nat) (Option.none : Option Jvm.ClassFile.FieldType), Jvm.Cond.code ({ cls := "com/example/ossature/ossature/SequenceRangeElement", name := "indexCount", desc := "(J)J" } : Jvm.MethodName) prog_87_method_2_code (3 : Nat) (Option.some Jvm.ClassFile.FieldType.long), Jvm.Cond.code ({ cls := "com/example/ossature/ossature/SequenceRangeElementIndexCountPinLaw", name := "fitsExactly", desc := "(JJJ)Z" } : Jvm.MethodName) method_3_code (8 : Nat) (Option.some Jvm.ClassFile.FieldType.boolean)]
set_option maxRecDepth 65536 in
theorem codes_eq : words1.filter isCode = codes1 := rfl
theorem w_codes : ∀ c ∈ words1.filter isCode, c.before args0 about1 = true := by
  rw [codes_eq]
  intro c hc
  simp only [codes1, List.mem_cons, List.not_mem_nil, or_false] at hc
  rcases hc with rfl | rfl | rfl | rfl | rfl | rfl | rfl
  · exact w_c0
  · exact w_c1
  · exact w_c2
  · exact w_c3
  · exact w_c4
  · exact w_c5
  · exact w_c6
set_option maxRecDepth 65536 in
theorem w_t1 : (words1.take 24).all (fun c => isCode c || c.before args0 about1) = true := by decide +kernel
set_option maxRecDepth 65536 in
theorem w_t2 : (words1.drop 24).all (fun c => isCode c || c.before args0 about1) = true := by decide +kernel
theorem w_tables : (allAtoms (Jvm.Cond.code x code maxLocals ret :: tables_1)).before args0 about1 = true := by
  rw [allAtoms_all]
  show words1.all (fun c => c.before args0 about1) = true
  refine all_split ?_ w_codes
  rw [← List.take_append_drop 24 words1, List.all_append, w_t1, w_t2]
  rfl
set_option maxRecDepth 65536 in
theorem w_case : (Jvm.Cond.and given_1 narrow_1).before args0 about1 = true := by decide +kernel
theorem w_applies : (headSpec (Jvm.Cond.code x code maxLocals ret :: tables_1) room_1).applies x e0.platform about1 = true :=
  (Spec.applies_iff w_frames).mpr ⟨w_running, w_runnable, w_alone, w_named, w_hears, w_ripe, w_room, w_tables⟩
theorem atStart : AtStart classFile x code maxLocals ret World_1 tables_1 room_1 Calls_1 rest_1 Pre_1 launch0 p0 e0 about1 theMethod args0 below0 :=
  ⟨lists_1, trivial, launch0.admits_env _ _ _, launch0.least_env, fairChoices_fair.cas, fairChoices_fair.clock, w_frames, w_args, w_heap, w_applies, trivial, trivial, w_case⟩
end start1
theorem witness_1 : WitnessClaimed_1 := ⟨start1.p0, start1.e0, start1.about1, start1.theMethod, start1.args0, start1.below0, start1.atStart⟩
end Jvm.Pilot.@@N@@
