import JvmDerived
import JvmDerived.Pilot.@@N@@Statement
import JvmDerived.Pilot.@@N@@Code
set_option linter.unusedVariables false
set_option linter.unusedSimpArgs false
namespace Jvm.Pilot.@@N@@
open Jvm Jvm.ClassFile Sem Op Lib Jvm.Free Jvm.Stand Jvm.LawKit Jvm.RoadKit Bundle Jvm.Pilot.@@N@@.Jvm.D
section Own
variable {p : Program} {l : Launch} {e : Env} {R : Room} {s : State} {m : MethodId} {args : Array Value} {below : List Frame} {meth : Method} {c : Code} {T : State} {locs : List Loc} {cells slots : Nat} {Z : State} {a0 : Array Value} {h : Heap}
/-- from this frame on the run ends, and P holds at the end -/
def own_Go (p : Program) (e : Env) (below : List Frame) (P : Outcome → State → Prop) (T : State) (f : JFrame) : Prop :=
  ∃ s₂ o, Steps p.tables e below (T.setTop f) s₂ ∧ s₂.status = .running ∧ Ended s₂ below o ∧ P o s₂
theorem own_go {P : Outcome → State → Prop} {T T' : State} {f f' : JFrame} (st : ∀ target, Steps p.tables e below (T'.setTop f') target → Steps p.tables e below (T.setTop f) target) (hg : own_Go p e below P T' f') : own_Go p e below P T f := by
  obtain ⟨s₂, o, h1, h2⟩ := hg
  exact ⟨s₂, o, st _ h1, h2⟩
/-- what a contract says of the end -/
def own_P (Q : Option Value → Heap → List Loc → Prop) (rm : Room) (s : State) (o : Outcome) (U : State) : Prop :=
  ∃ v L, o = .returned v ∧ Q v U.heap L ∧ FrameEnd s o U L rm.cells rm.slots
/-- a contract of a body that writes nothing and returns v -/
def own_pure (v : Option Value) (h0 : Heap) (n0 : Nat) (w : Option Value) (h : Heap) (L : List Loc) : Prop := w = v ∧ Fr n0 L ∧ h = h0
/-- a contract's word, held together -/
def own_R (Q : Option Value → Heap → List Loc → Prop) : Option Value → Heap → List Loc → Prop := Q
theorem own_endZ {Q : Option Value → Heap → List Loc → Prop} (X : Stand p l e R s m args below meth c T locs cells slots) (hx : p.tables.exec = Jvm.exec) (hret : meth.sig.returnType = some .boolean) (hlk : meth.locks = false) {pc : Nat} {Ls : Array Slot} {z : Int32} {rest : List Value}
    (hd : decode c.code pc = .ok (.ireturn, 1)) (hn : narrow .boolean (.int z) = .int z) (hc : cells ≤ R.cells) (hs : slots ≤ R.slots) (hQ : Q (some (.int z)) T.heap locs) : own_Go p e below (own_P Q R s) T (mkF m pc Ls (.int z :: rest)) := by
  obtain ⟨fs, hr, hrun, hended, hW, hsame⟩ := X.leave (v := some (.int z)) (fun h => by rw [hret] at h; cases h) hlk
  exact ⟨_, _, retOut X hx hret hn (Or.inl ⟨rfl, Or.inr (Or.inl rfl), z, rfl⟩) hd hr, hrun, hended, _, _, rfl, hQ, ⟨_, rfl⟩, hW, hsame.mono hc hs⟩
theorem own_endI {Q : Option Value → Heap → List Loc → Prop} (X : Stand p l e R s m args below meth c T locs cells slots) (hx : p.tables.exec = Jvm.exec) (hret : meth.sig.returnType = some .int) (hlk : meth.locks = false) {pc : Nat} {Ls : Array Slot} {z : Int32} {rest : List Value}
    (hd : decode c.code pc = .ok (.ireturn, 1)) (hc : cells ≤ R.cells) (hs : slots ≤ R.slots) (hQ : Q (some (.int z)) T.heap locs) : own_Go p e below (own_P Q R s) T (mkF m pc Ls (.int z :: rest)) := by
  obtain ⟨fs, hr, hrun, hended, hW, hsame⟩ := X.leave (v := some (.int z)) (fun h => by rw [hret] at h; cases h) hlk
  exact ⟨_, _, retOut X hx hret rfl (Or.inl ⟨rfl, Or.inl rfl, z, rfl⟩) hd hr, hrun, hended, _, _, rfl, hQ, ⟨_, rfl⟩, hW, hsame.mono hc hs⟩
theorem own_endJ {Q : Option Value → Heap → List Loc → Prop} (X : Stand p l e R s m args below meth c T locs cells slots) (hx : p.tables.exec = Jvm.exec) (hret : meth.sig.returnType = some .long) (hlk : meth.locks = false) {pc : Nat} {Ls : Array Slot} {z : Int64} {rest : List Value}
    (hd : decode c.code pc = .ok (.lreturn, 1)) (hc : cells ≤ R.cells) (hs : slots ≤ R.slots) (hQ : Q (some (.long z)) T.heap locs) : own_Go p e below (own_P Q R s) T (mkF m pc Ls (.long z :: rest)) := by
  obtain ⟨fs, hr, hrun, hended, hW, hsame⟩ := X.leave (v := some (.long z)) (fun h => by rw [hret] at h; cases h) hlk
  exact ⟨_, _, retOut X hx hret rfl (Or.inr (Or.inl ⟨rfl, rfl, z, rfl⟩)) hd hr, hrun, hended, _, _, rfl, hQ, ⟨_, rfl⟩, hW, hsame.mono hc hs⟩
theorem own_endA {Q : Option Value → Heap → List Loc → Prop} {t : FieldType} (X : Stand p l e R s m args below meth c T locs cells slots) (hx : p.tables.exec = Jvm.exec) (hret : meth.sig.returnType = some t) (ht : t.isReference = true) (hlk : meth.locks = false) {pc : Nat} {Ls : Array Slot} {a : Addr} {rest : List Value}
    (hd : decode c.code pc = .ok (.areturn, 1)) (hn : narrow t (.ref a) = .ref a) (hc : cells ≤ R.cells) (hs : slots ≤ R.slots) (hQ : Q (some (.ref a)) T.heap locs) : own_Go p e below (own_P Q R s) T (mkF m pc Ls (.ref a :: rest)) := by
  obtain ⟨fs, hr, hrun, hended, hW, hsame⟩ := X.leave (v := some (.ref a)) (fun h => by rw [hret] at h; cases h) hlk
  exact ⟨_, _, retOut X hx hret hn (Or.inr (Or.inr (Or.inr (Or.inr ⟨rfl, ht, rfl⟩)))) hd hr, hrun, hended, _, _, rfl, hQ, ⟨_, rfl⟩, hW, hsame.mono hc hs⟩
theorem own_endV {Q : Option Value → Heap → List Loc → Prop} (X : Stand p l e R s m args below meth c T locs cells slots) (hx : p.tables.exec = Jvm.exec) (hret : meth.sig.returnType = none) (hlk : meth.locks = false) {pc : Nat} {Ls : Array Slot}
    (hd : decode c.code pc = .ok (.return_, 1)) (hc : cells ≤ R.cells) (hs : slots ≤ R.slots) (hQ : Q none T.heap locs) : own_Go p e below (own_P Q R s) T (mkF m pc Ls []) := by
  obtain ⟨fs, hr, hrun, hended, hW, hsame⟩ := X.leave (v := none) (fun _ => rfl) hlk
  exact ⟨_, _, X.returnOut hx hret hd hr, hrun, hended, _, _, rfl, hQ, ⟨_, rfl⟩, hW, hsame.mono hc hs⟩
/-- a static call, paid by the callee's contract -/
theorem own_callS (X : Stand p l e R s m args below meth c T locs cells slots) (hx : p.tables.exec = Jvm.exec) (hZ : Z.Warmed39 s.vm) {own : String} {index : Nat} {y : MethodName} {bytes : ByteArray} {maxL : Nat} {ret : Option FieldType} (hown : s.vm.findClass own = some m.cls)
    (w1 : (Cond.methodLink own index y).before a0 Z = true) (w2 : (Cond.static y).before a0 Z = true) (w3 : (Cond.initialized y.cls).before a0 Z = true) (w4 : (Cond.code y bytes maxL ret).before a0 Z = true) (hy : y.cls ≠ "java/lang/invoke/MethodHandle" ∧ y.cls ≠ "java/lang/invoke/VarHandle")
    {rm : Room} {as' : Array Value} {Q : Option Value → Heap → List Loc → Prop}
    (hM : MetFree l y (head1 [Cond.code y bytes maxL ret] rm) (fun a U => a = as' ∧ Z.Warmed39 U.vm ∧ U.heap = h) (fun _ _ _ _ _ => True) (fun _ U o U' => ∃ v L, o = .returned v ∧ Q v U'.heap L ∧ FrameEnd U o U' L rm.cells rm.slots))
    {Ls : Array Slot} {st : List Value} {W : Nat} (hf : rm.frames + 1 ≤ R.frames) (hl : W + (maxL + 11) + rm.locals ≤ R.locals) {pc : Nat} (hsize : Ls.size = c.maxLocals) {argsL rest : List Value} (hlen : ∀ sig, parseMethodDescriptor y.desc = some sig → argsL.length = sig.parameters.length)
    (has : argsL.toArray = as') (hstack : st = argsL.reverse ++ rest) (hW : (rest.map fun v => v.category).sum ≤ W) (hd : decode c.code pc = .ok (.invokestatic index, 3)) (eT : T.heap = h) (hc : cells + rm.cells ≤ R.cells) (hs : slots + rm.slots ≤ R.slots) :
    ∃ T' v L, Stand p l e R s m args below meth c T' (locs ++ L) (cells + rm.cells) (slots + rm.slots) ∧ Q v T'.heap L ∧ ∀ target, Steps p.tables e below (T'.setTop (mkF m (pc + 3) Ls (v.toList ++ rest))) target → Steps p.tables e below (T.setTop (mkF m pc Ls st)) target := by
  obtain ⟨v, _, ⟨T', L', k', n'⟩, -, X', ⟨L, hQ, l1, l2, l3⟩, st'⟩ := Jvm.LawKit.callS X hx (y := y) hown (mvT hZ w1) (mvT hZ w2) (mvT hZ w3) (mvT hZ w4) hy (backOf (W := W) hM hZ w4 w3 hf hl) (g := mkF m pc Ls st) rfl hsize (argsL := argsL) (rest := rest) hlen hstack (by show 2 * 0 + _ ≤ _; omega) hd (fun _ _ => ⟨has, eT, hc, hs⟩)
  dsimp only [Pt.U, Pt.locs, Pt.cells, Pt.slots] at X' l1 l2 l3 st' hQ
  subst l1 l2 l3
  exact ⟨T', v, L, X', hQ, st'⟩
/-- a constructor's call, paid by its contract -/
theorem own_callC (X : Stand p l e R s m args below meth c T locs cells slots) (hx : p.tables.exec = Jvm.exec) (hZ : Z.Warmed39 s.vm) {own : String} {index : Nat} {y : MethodName} {bytes : ByteArray} {maxL : Nat} (hy1 : y.name = "<init>") (hown : s.vm.findClass own = some m.cls)
    (w1 : (Cond.methodLink own index y).before a0 Z = true) (w2 : (Cond.instanceMethod y).before a0 Z = true) (w3 : (Cond.initialized y.cls).before a0 Z = true) (w4 : (Cond.code y bytes maxL none).before a0 Z = true) (hy : y.cls ≠ "java/lang/invoke/MethodHandle" ∧ y.cls ≠ "java/lang/invoke/VarHandle")
    {rm : Room} {as' : Array Value} {Q : Option Value → Heap → List Loc → Prop}
    (hM : MetFree l y (head1 [Cond.code y bytes maxL none] rm) (fun a U => a = as' ∧ Z.Warmed39 U.vm ∧ U.heap = h) (fun _ _ _ _ _ => True) (fun _ U o U' => ∃ v L, o = .returned v ∧ Q v U'.heap L ∧ FrameEnd U o U' L rm.cells rm.slots))
    {Ls : Array Slot} {st : List Value} {W : Nat} (hf : rm.frames + 1 ≤ R.frames) (hl : W + (maxL + 11) + rm.locals ≤ R.locals) {pc : Nat} (hsize : Ls.size = c.maxLocals) {a : Addr} {argsL rest : List Value} (hlen : ∀ sig, parseMethodDescriptor y.desc = some sig → argsL.length = sig.parameters.length)
    (has : (.ref a :: argsL).toArray = as') (hstack : st = argsL.reverse ++ .ref a :: rest) (hW : (rest.map fun v => v.category).sum ≤ W) (hd : decode c.code pc = .ok (.invokespecial index, 3)) (eT : T.heap = h) (hc : cells + rm.cells ≤ R.cells) (hs : slots + rm.slots ≤ R.slots) :
    ∃ T' v L, Stand p l e R s m args below meth c T' (locs ++ L) (cells + rm.cells) (slots + rm.slots) ∧ Q v T'.heap L ∧ ∀ target, Steps p.tables e below (T'.setTop (mkF m (pc + 3) Ls (v.toList ++ rest))) target → Steps p.tables e below (T.setTop (mkF m pc Ls st)) target := by
  obtain ⟨v, _, ⟨T', L', k', n'⟩, -, X', ⟨L, hQ, l1, l2, l3⟩, st'⟩ := X.specialBack hx (y := y) hy1 hown (mvT hZ w1) (mvT hZ w2) (mvT hZ w4) hy (backOf (W := W) hM hZ w4 w3 hf hl) (g := mkF m pc Ls st) rfl hsize (Steps.refl _) (a := a) (argsL := argsL) (rest := rest) hlen hstack (by show 2 * 0 + _ ≤ _; omega) hd (fun _ _ => ⟨has, eT, hc, hs⟩)
  dsimp only [Pt.U, Pt.locs, Pt.cells, Pt.slots] at X' l1 l2 l3 st' hQ
  subst l1 l2 l3
  exact ⟨T', v, L, X', hQ, fun _ k => st'.trans k⟩
/-- an instance method's call, paid by its contract -/
theorem own_callV (X : Stand p l e R s m args below meth c T locs cells slots) (hx : p.tables.exec = Jvm.exec) (hZ : Z.Warmed39 s.vm) {own : String} {index : Nat} {y : MethodName} {bytes : ByteArray} {maxL : Nat} {ret : Option FieldType} (hown : s.vm.findClass own = some m.cls)
    (w1 : (Cond.methodLink own index y).before a0 Z = true) (w2 : (Cond.declares y).before a0 Z = true) (w5 : (Cond.selects y.cls y y).before a0 Z = true) (w6 : (Cond.instanceMethod y).before a0 Z = true) (w3 : (Cond.initialized y.cls).before a0 Z = true) (w4 : (Cond.code y bytes maxL ret).before a0 Z = true) (hy : y.cls ≠ "java/lang/invoke/MethodHandle" ∧ y.cls ≠ "java/lang/invoke/VarHandle")
    {rm : Room} {as' : Array Value} {Q : Option Value → Heap → List Loc → Prop}
    (hM : MetFree l y (head1 [Cond.code y bytes maxL ret] rm) (fun a U => a = as' ∧ Z.Warmed39 U.vm ∧ U.heap = h) (fun _ _ _ _ _ => True) (fun _ U o U' => ∃ v L, o = .returned v ∧ Q v U'.heap L ∧ FrameEnd U o U' L rm.cells rm.slots))
    {a : Addr} (E : Exa Z h a y.cls)
    {Ls : Array Slot} {st : List Value} {W : Nat} (hf : rm.frames + 1 ≤ R.frames) (hl : W + (maxL + 11) + rm.locals ≤ R.locals) {pc : Nat} (hsize : Ls.size = c.maxLocals) {argsL rest : List Value} (hlen : ∀ sig, parseMethodDescriptor y.desc = some sig → argsL.length = sig.parameters.length)
    (has : (.ref a :: argsL).toArray = as') (hstack : st = argsL.reverse ++ .ref a :: rest) (hW : (rest.map fun v => v.category).sum ≤ W) (hd : decode c.code pc = .ok (.invokevirtual index, 3)) (eT : T.heap = h) (hc : cells + rm.cells ≤ R.cells) (hs : slots + rm.slots ≤ R.slots) :
    ∃ T' v L, Stand p l e R s m args below meth c T' (locs ++ L) (cells + rm.cells) (slots + rm.slots) ∧ Q v T'.heap L ∧ ∀ target, Steps p.tables e below (T'.setTop (mkF m (pc + 3) Ls (v.toList ++ rest))) target → Steps p.tables e below (T.setTop (mkF m pc Ls st)) target := by
  obtain ⟨cq, kq, qa, qb, qc⟩ := isOf hZ eT E
  obtain ⟨v, _, ⟨T', L', k', n'⟩, -, X', ⟨L, hQ, l1, l2, l3⟩, st'⟩ := X.virtualBack hx (y := y) (z := y) hown (mvT hZ w1) (mvT hZ w2) (notFace_of_selects (args := #[]) (mvT hZ w5)) (mvT hZ w5) (mvT hZ w6) hy (backOf (W := W) hM hZ w4 w3 hf hl) qa qc (g := mkF m pc Ls st) rfl hsize (Steps.refl _) (argsL := argsL) (rest := rest) hlen hstack (by show 2 * 0 + _ ≤ _; omega) hd (fun _ _ => ⟨has, eT, hc, hs⟩)
  dsimp only [Pt.U, Pt.locs, Pt.cells, Pt.slots] at X' l1 l2 l3 st' hQ
  subst l1 l2 l3
  exact ⟨T', v, L, X', hQ, fun _ k => st'.trans k⟩
/-- a private instance method's call by invokevirtual, paid by its contract; that the class is no interface, another method's 'selects' word says -/
theorem own_callP (X : Stand p l e R s m args below meth c T locs cells slots) (hx : p.tables.exec = Jvm.exec) (hZ : Z.Warmed39 s.vm) {own : String} {index : Nat} {y z : MethodName} {bytes : ByteArray} {maxL : Nat} {ret : Option FieldType} (hown : s.vm.findClass own = some m.cls)
    (w1 : (Cond.methodLink own index y).before a0 Z = true) (wp : (Cond.privateMethod y).before a0 Z = true) (w5 : (Cond.selects y.cls z z).before a0 Z = true) (hz : z.cls = y.cls) (w6 : (Cond.instanceMethod y).before a0 Z = true) (w3 : (Cond.initialized y.cls).before a0 Z = true) (w4 : (Cond.code y bytes maxL ret).before a0 Z = true) (hy : y.cls ≠ "java/lang/invoke/MethodHandle" ∧ y.cls ≠ "java/lang/invoke/VarHandle")
    {rm : Room} {as' : Array Value} {Q : Option Value → Heap → List Loc → Prop}
    (hM : MetFree l y (head1 [Cond.code y bytes maxL ret] rm) (fun a U => a = as' ∧ Z.Warmed39 U.vm ∧ U.heap = h) (fun _ _ _ _ _ => True) (fun _ U o U' => ∃ v L, o = .returned v ∧ Q v U'.heap L ∧ FrameEnd U o U' L rm.cells rm.slots))
    {a : Addr} (E : Exa Z h a y.cls)
    {Ls : Array Slot} {st : List Value} {W : Nat} (hf : rm.frames + 1 ≤ R.frames) (hl : W + (maxL + 11) + rm.locals ≤ R.locals) {pc : Nat} (hsize : Ls.size = c.maxLocals) {argsL rest : List Value} (hlen : ∀ sig, parseMethodDescriptor y.desc = some sig → argsL.length = sig.parameters.length)
    (has : (.ref a :: argsL).toArray = as') (hstack : st = argsL.reverse ++ .ref a :: rest) (hW : (rest.map fun v => v.category).sum ≤ W) (hd : decode c.code pc = .ok (.invokevirtual index, 3)) (eT : T.heap = h) (hc : cells + rm.cells ≤ R.cells) (hs : slots + rm.slots ≤ R.slots) :
    ∃ T' v L, Stand p l e R s m args below meth c T' (locs ++ L) (cells + rm.cells) (slots + rm.slots) ∧ Q v T'.heap L ∧ ∀ target, Steps p.tables e below (T'.setTop (mkF m (pc + 3) Ls (v.toList ++ rest))) target → Steps p.tables e below (T.setTop (mkF m pc Ls st)) target := by
  have hpriv : s.PrivateAt y := Cond.privateMethod_at (mvP hZ wp (args := #[]))
  obtain ⟨c2, r2, m2, q1, q2, q3, q4, kP, hkP, hkPi⟩ := Cond.selects_spec (show (Cond.selects y.cls z z).before args s = true from mvT hZ w5)
  have hcl : s.vm.findClass y.cls = some m2.cls := by rw [← hz]; exact findClass_of_methodNamed q3
  have hsel := selects_self_of_private (args := args) hcl hkP hkPi hpriv (mvT hZ w6) hy
  obtain ⟨cell, hcell, hobj⟩ := E.cell
  obtain ⟨v, _, ⟨T', L', k', n'⟩, -, X', ⟨L, hQ, l1, l2, l3⟩, st'⟩ := X.privateBack hx (y := y) hown (mvT hZ w1) (mvT hZ w6) hsel hpriv (mvT hZ w4) hy (backOf (W := W) hM hZ w4 w3 hf hl) (g := mkF m pc Ls st) rfl hsize (Steps.refl _) (a := a) (by rw [eT]; exact hcell) hobj (argsL := argsL) (rest := rest) hlen hstack (by show 2 * 0 + _ ≤ _; omega) hd (fun _ _ => ⟨has, eT, hc, hs⟩)
  dsimp only [Pt.U, Pt.locs, Pt.cells, Pt.slots] at X' l1 l2 l3 st' hQ
  subst l1 l2 l3
  exact ⟨T', v, L, X', hQ, fun _ k => st'.trans k⟩
end Own
theorem pd_0 : parseMethodDescriptor "([B)I" = some ⟨[(.array .byte)], some .int⟩ := by decide +kernel
theorem pd_1 : parseMethodDescriptor "(I)I" = some ⟨[.int], some .int⟩ := by decide +kernel
theorem pn_0 : plainName "com/example/traceloom/traceloom/io/Utf8UnitsAtMostPinLaw" = true := by first | (simp [plainName, overriddenIn]; done) | decide +kernel
theorem pn_1 : plainName "com/example/traceloom/traceloom/io/Utf8" = true := by first | (simp [plainName, overriddenIn]; done) | decide +kernel
theorem d1_0 : decode prog_84_method_3_code 0 = .ok (.iconst 0, 1) := by decide +kernel
theorem d1_1 : decode prog_84_method_3_code 1 = .ok (.istore_n 1, 1) := by decide +kernel
theorem d1_2 : decode prog_84_method_3_code 2 = .ok (.aload_n 0, 1) := by decide +kernel
theorem d1_3 : decode prog_84_method_3_code 3 = .ok (.astore_n 2, 1) := by decide +kernel
theorem d1_4 : decode prog_84_method_3_code 4 = .ok (.aload_n 2, 1) := by decide +kernel
theorem d1_5 : decode prog_84_method_3_code 5 = .ok (.arraylength, 1) := by decide +kernel
theorem d1_6 : decode prog_84_method_3_code 6 = .ok (.istore_n 3, 1) := by decide +kernel
theorem d1_7 : decode prog_84_method_3_code 7 = .ok (.iconst 0, 1) := by decide +kernel
theorem d1_8 : decode prog_84_method_3_code 8 = .ok (.istore 4, 2) := by decide +kernel
theorem d1_10 : decode prog_84_method_3_code 10 = .ok (.iload 4, 2) := by decide +kernel
theorem d1_12 : decode prog_84_method_3_code 12 = .ok (.iload_n 3, 1) := by decide +kernel
theorem d1_13 : decode prog_84_method_3_code 13 = .ok (.if_icmp .ge 47, 3) := by decide +kernel
theorem d1_16 : decode prog_84_method_3_code 16 = .ok (.aload_n 2, 1) := by decide +kernel
theorem d1_17 : decode prog_84_method_3_code 17 = .ok (.iload 4, 2) := by decide +kernel
theorem d1_19 : decode prog_84_method_3_code 19 = .ok (.baload, 1) := by decide +kernel
theorem d1_20 : decode prog_84_method_3_code 20 = .ok (.istore 5, 2) := by decide +kernel
theorem d1_22 : decode prog_84_method_3_code 22 = .ok (.iload 5, 2) := by decide +kernel
theorem d1_24 : decode prog_84_method_3_code 24 = .ok (.sipush 192, 3) := by decide +kernel
theorem d1_27 : decode prog_84_method_3_code 27 = .ok (.iand, 1) := by decide +kernel
theorem d1_28 : decode prog_84_method_3_code 28 = .ok (.sipush 128, 3) := by decide +kernel
theorem d1_31 : decode prog_84_method_3_code 31 = .ok (.if_icmp .eq 23, 3) := by decide +kernel
theorem d1_34 : decode prog_84_method_3_code 34 = .ok (.iload_n 1, 1) := by decide +kernel
theorem d1_35 : decode prog_84_method_3_code 35 = .ok (.iload 5, 2) := by decide +kernel
theorem d1_37 : decode prog_84_method_3_code 37 = .ok (.sipush 240, 3) := by decide +kernel
theorem d1_40 : decode prog_84_method_3_code 40 = .ok (.iand, 1) := by decide +kernel
theorem d1_41 : decode prog_84_method_3_code 41 = .ok (.sipush 240, 3) := by decide +kernel
theorem d1_44 : decode prog_84_method_3_code 44 = .ok (.if_icmp .ne 7, 3) := by decide +kernel
theorem d1_47 : decode prog_84_method_3_code 47 = .ok (.iconst 2, 1) := by decide +kernel
theorem d1_48 : decode prog_84_method_3_code 48 = .ok (.goto 4, 3) := by decide +kernel
theorem d1_51 : decode prog_84_method_3_code 51 = .ok (.iconst 1, 1) := by decide +kernel
theorem d1_52 : decode prog_84_method_3_code 52 = .ok (.iadd, 1) := by decide +kernel
theorem d1_53 : decode prog_84_method_3_code 53 = .ok (.istore_n 1, 1) := by decide +kernel
theorem d1_54 : decode prog_84_method_3_code 54 = .ok (.iinc 4 1, 3) := by decide +kernel
theorem d1_57 : decode prog_84_method_3_code 57 = .ok (.goto (-47), 3) := by decide +kernel
theorem d1_60 : decode prog_84_method_3_code 60 = .ok (.iload_n 1, 1) := by decide +kernel
theorem d1_61 : decode prog_84_method_3_code 61 = .ok (.ireturn, 1) := by decide +kernel
theorem d2_0 : decode method_2_code 0 = .ok (.iload_n 0, 1) := by decide +kernel
theorem d2_1 : decode method_2_code 1 = .ok (.sipush 255, 3) := by decide +kernel
theorem d2_4 : decode method_2_code 4 = .ok (.iand, 1) := by decide +kernel
theorem d2_5 : decode method_2_code 5 = .ok (.istore_n 1, 1) := by decide +kernel
theorem d2_6 : decode method_2_code 6 = .ok (.iload_n 1, 1) := by decide +kernel
theorem d2_7 : decode method_2_code 7 = .ok (.sipush 128, 3) := by decide +kernel
theorem d2_10 : decode method_2_code 10 = .ok (.if_icmp .lt 12, 3) := by decide +kernel
theorem d2_13 : decode method_2_code 13 = .ok (.iload_n 1, 1) := by decide +kernel
theorem d2_14 : decode method_2_code 14 = .ok (.sipush 191, 3) := by decide +kernel
theorem d2_17 : decode method_2_code 17 = .ok (.if_icmp .gt 5, 3) := by decide +kernel
theorem d2_20 : decode method_2_code 20 = .ok (.iconst 0, 1) := by decide +kernel
theorem d2_21 : decode method_2_code 21 = .ok (.ireturn, 1) := by decide +kernel
theorem d2_22 : decode method_2_code 22 = .ok (.iload_n 1, 1) := by decide +kernel
theorem d2_23 : decode method_2_code 23 = .ok (.sipush 240, 3) := by decide +kernel
theorem d2_26 : decode method_2_code 26 = .ok (.if_icmp .lt 5, 3) := by decide +kernel
theorem d2_29 : decode method_2_code 29 = .ok (.iconst 2, 1) := by decide +kernel
theorem d2_30 : decode method_2_code 30 = .ok (.ireturn, 1) := by decide +kernel
theorem d2_31 : decode method_2_code 31 = .ok (.iconst 1, 1) := by decide +kernel
theorem d2_32 : decode method_2_code 32 = .ok (.ireturn, 1) := by decide +kernel
theorem own_wrB {Z : State} {h h' : Heap} {a : Addr} {cl : Cell} {ty : FieldType} {sl : Nat} {v : Value} (Ar : Arr Z h a cl ty) (W : Wr h h' a sl v) :
    ∃ cl' : Cell, Arr Z h' a cl' ty ∧ cl'.slots.size = cl.slots.size ∧ cl'.slots[sl]? = some v ∧ ∀ j, j ≠ sl → cl'.slots[j]? = cl.slots[j]? := by
  obtain ⟨c', e1, -, -, e4, -, e6, e7⟩ := wr_at W Ar.1
  obtain ⟨q1, q2, -⟩ := e7 rfl
  exact ⟨c', by rw [q1]; exact Ar.same W, e4, q2, e6⟩
theorem own_nar (x : Int32) : nar .byte (x.toInt8.toInt32) = x.toInt8.toInt32 := by
  show (x.toInt8.toInt32).toInt8.toInt32 = _
  rw [Int8.toInt8_toInt32]
theorem own_nat {N : Nat} (h : N ≤ 4) : (Int32.ofNat N).toInt = N := Int32.toInt_ofNat_of_lt (by omega)
theorem own_clamp {N : Nat} (h : N ≤ 4) : (Int32.ofNat N).toNatClampNeg = N := by
  show (Int32.ofNat N).toInt.toNat = N
  rw [own_nat h]; rfl
theorem own_ltI {N k : Nat} {j : Int32} (h : N ≤ 4) (hj : j.toInt = k) : j < Int32.ofNat N ↔ k < N := by
  rw [Int32.lt_iff_toInt_lt, hj, own_nat h]; omega
theorem own_nn {N : Nat} (h : N ≤ 4) : ¬ Int32.ofNat N < 0 := by
  rw [Int32.lt_iff_toInt_lt, own_nat h]
  have e : (0 : Int32).toInt = 0 := rfl
  omega
theorem own_inc (i : Nat) : Int32.ofNat i + (1 : Int32) = Int32.ofNat (i + 1) := (Int32.ofNat_add i 1).symm
/-- a byte's weight, as unitsAtMost counts it -/
def own_wt (b : Int32) : Int32 := if (b &&& (192 : Int32)) = (128 : Int32) then 0 else if (b &&& (240 : Int32)) = (240 : Int32) then 2 else 1
/-- what weight returns -/
def own_we (x : Int32) : Int32 := if (x &&& (255 : Int32)) < (128 : Int32) then (if (x &&& (255 : Int32)) < (240 : Int32) then 1 else 2) else if (191 : Int32) < (x &&& (255 : Int32)) then (if (x &&& (255 : Int32)) < (240 : Int32) then 1 else 2) else 0
theorem own_all : ∀ n : Fin 256, own_wt ((Int32.ofNat n.val).toInt8.toInt32) = own_we (Int32.ofNat n.val) := by decide +kernel
theorem own_low (x : Int32) : x.toInt8 = (x &&& (255 : Int32)).toInt8 := by
  apply Int8.toInt_inj.mp
  rw [Int32.toInt_toInt8, Int32.toInt_toInt8, c_mask x 255 8 (by decide) (by decide)]
  exact (Int.emod_bmod _ _).symm
theorem own_idem (x : Int32) : (x &&& (255 : Int32)) &&& (255 : Int32) = x &&& (255 : Int32) := by
  rw [Int32.and_assoc]; rfl
theorem own_same (x : Int32) : own_wt (x.toInt8.toInt32) = own_we x := by
  have e : own_we x = own_we (x &&& (255 : Int32)) := by unfold own_we; rw [own_idem]
  rw [own_low x, e]
  have h := c_mask x 255 8 (by decide) (by decide)
  generalize (x &&& (255 : Int32)) = u at *
  obtain ⟨n, hn, rfl⟩ : ∃ n : Nat, n < 256 ∧ u = Int32.ofNat n := by
    refine ⟨u.toInt.toNat, by omega, ?_⟩
    apply Int32.toInt_inj.mp
    rw [Int32.toInt_ofNat_of_lt (by omega)]
    omega
  exact own_all ⟨n, hn⟩
def own_sum (g : Nat → Int32) : Nat → Int32
  | 0 => 0
  | k + 1 => own_sum g k + own_wt (g k)
theorem own_sum_congr {g f : Nat → Int32} : ∀ k : Nat, (∀ j, j < k → g j = f j) → own_sum g k = own_sum f k
  | 0, _ => rfl
  | k + 1, h => by
    show own_sum g k + own_wt (g k) = own_sum f k + own_wt (f k)
    rw [own_sum_congr k fun j q => h j (by omega), h k (by omega)]
/-- g with v at the place k -/
def own_put (g : Nat → Int32) (k : Nat) (v : Int32) (j : Nat) : Int32 := if j = k then v else g j
theorem own_put_eq (g : Nat → Int32) (k : Nat) (v : Int32) : own_put g k v k = v := if_pos rfl
theorem own_put_ne (g : Nat → Int32) {k j : Nat} (v : Int32) (h : ¬ j = k) : own_put g k v j = g j := if_neg h
def own_bb (p1 p2 p3 p4 : Int32) (j : Nat) : Int32 := match j with
  | 0 => p1.toInt8.toInt32
  | 1 => p2.toInt8.toInt32
  | 2 => p3.toInt8.toInt32
  | _ => p4.toInt8.toInt32
/-- a byte array of length N; place j holds g j -/
def own_By (Z : State) (h : Heap) (a : Addr) (N : Nat) (g : Nat → Int32) : Prop := ∃ cl : Cell, Arr Z h a cl .byte ∧ cl.slots.size = (Int32.ofNat N).toNatClampNeg ∧ ∀ j, j < N → cl.slots[j]? = some (.int (g j))
theorem own_len (x : Int32) : ∃ N : Nat, N ≤ 4 ∧ ((x &&& (2147483647 : Int32)) - ((x &&& (2147483647 : Int32)) / (5 : Int32)) * (5 : Int32)) = Int32.ofNat N := by
  have h := c_mask x 2147483647 31 (by decide) (by decide)
  rw [irem_eq_mod]
  have q := (c_irem (x &&& (2147483647 : Int32)) 5 5 rfl).1 (by omega)
  generalize (x &&& (2147483647 : Int32)) % 5 = u at *
  refine ⟨u.toInt.toNat, by omega, ?_⟩
  apply Int32.toInt_inj.mp
  rw [Int32.toInt_ofNat_of_lt (by omega)]
  omega
theorem own_os5 {v0 v1 v2 v3 v4 : Value} {s5 : Slot} {v : Int32} (h : One s5) : storeLocals #[.val v0, .val v1, .val v2, .val v3, .val v4, s5] 5 (.int v) = some #[.val v0, .val v1, .val v2, .val v3, .val v4, .val (.int v)] := by
  rcases h with rfl | ⟨w, rfl, hw⟩
  · rfl
  · cases w <;> first | rfl | (simp [Value.category] at hw)
theorem ef_2 (m : MethodId) (x0 : Int32) : entryFrame m #[(.int x0)] 2 = mkF m 0 #[.val (.int x0), .unset] [] := by first | (simp [entryFrame, mkF, argsToLocals, Value.category]; done) | rfl
set_option maxRecDepth 65536 in
set_option maxHeartbeats 40000000 in
theorem rmW (l : Launch) (Z : State) (a0 : Array Value) (hw : ∀ d ∈ tables_1, d.before a0 Z = true) (ws : List Jvm.Cond) (p1 : Int32) (h0 : Heap) (n0 : Nat) (Z0 : n0 ≤ h0.size)  :
    MetFree l (⟨"com/example/traceloom/traceloom/io/Utf8UnitsAtMostPinLaw", "weight", "(I)I"⟩ : MethodName) (head1 (Jvm.Cond.code (⟨"com/example/traceloom/traceloom/io/Utf8UnitsAtMostPinLaw", "weight", "(I)I"⟩ : MethodName) method_2_code 2 (some .int) :: ws) ({ frames := 0, cells := 0, slots := 0, locals := 0 } : Room)) (fun a U => a = #[(.int p1)] ∧ Z.Warmed39 U.vm ∧ U.heap = h0) (fun _ _ _ _ _ => True) (fun _ U o U' => ∃ v L, o = .returned v ∧ (own_pure (some (.int (own_we p1))) h0 n0) v U'.heap L ∧ FrameEnd U o U' L ({ frames := 0, cells := 0, slots := 0, locals := 0 } : Room).cells ({ frames := 0, cells := 0, slots := 0, locals := 0 } : Room).slots) := by
  refine MetFree.of_bodySF (plainFor_of_name pn_0) hisR ?_
  intro p e s m args below meth c s₁ Bd hml0 hP hK
  obtain ⟨rfl, hZ, hh⟩ := hP
  have hx := Bd.exec
  have hby := Bd.bytes
  have hml : c.maxLocals = 2 := hml0
  have hown : s.vm.findClass "com/example/traceloom/traceloom/io/Utf8UnitsAtMostPinLaw" = some m.cls := findClass_of_methodNamed Bd.named
  have hnm := (name_of_methodNamed Bd.named Bd.method).1
  have hret := Bd.returns
  have hlk : meth.locks = false := Bd.notSynchronized
  have X0 : Stand p l e ({ frames := 0, cells := 0, slots := 0, locals := 0 } : Room) s m #[(.int p1)] below meth c s₁ [] 0 0 := Stand.of_body Bd
  have e0 : s₁.heap = h0 := by rw [← hh, Bd.state]; rfl
  have N0 := Fr.nil n0
  show own_Go p e below (own_P (own_pure (some (.int (own_we p1))) h0 n0) ({ frames := 0, cells := 0, slots := 0, locals := 0 } : Room) s) s₁ (entryFrame m #[(.int p1)] 2)
  rw [ef_2 m p1]
  show own_Go p e below _ s₁ (mkF m 0 #[.val (.int p1), .unset] [])
  refine own_go (fun _ k => XS.iloadN X0.here hx rfl (hb hby d2_0) rfl  k) ?_
  show own_Go p e below _ s₁ (mkF m 1 #[.val (.int p1), .unset] [(.int p1)])
  refine own_go (fun _ k => XS.sipush X0.here hx rfl (hb hby d2_1) k) ?_
  show own_Go p e below _ s₁ (mkF m 4 #[.val (.int p1), .unset] [(.int (255 : Int32)), (.int p1)])
  refine own_go (fun _ k => XS.iand X0.here hx rfl (hb hby d2_4) rfl k) ?_
  show own_Go p e below _ s₁ (mkF m 5 #[.val (.int p1), .unset] [(.int (p1 &&& (255 : Int32)))])
  refine own_go (fun _ k => XS.istoreN X0.here hx rfl (hb hby d2_5) rfl (l' := #[.val (.int p1), .val (.int (p1 &&& (255 : Int32)))]) rfl k) ?_
  show own_Go p e below _ s₁ (mkF m 6 #[.val (.int p1), .val (.int (p1 &&& (255 : Int32)))] [])
  refine own_go (fun _ k => XS.iloadN X0.here hx rfl (hb hby d2_6) rfl  k) ?_
  show own_Go p e below _ s₁ (mkF m 7 #[.val (.int p1), .val (.int (p1 &&& (255 : Int32)))] [(.int (p1 &&& (255 : Int32)))])
  refine own_go (fun _ k => XS.sipush X0.here hx rfl (hb hby d2_7) k) ?_
  show own_Go p e below _ s₁ (mkF m 10 #[.val (.int p1), .val (.int (p1 &&& (255 : Int32)))] [(.int (128 : Int32)), (.int (p1 &&& (255 : Int32)))])
  by_cases h1 : (p1 &&& (255 : Int32)) < (128 : Int32)
  · refine own_go (fun _ k => XS.icmpYes X0.here hx rfl (pc0 := 10) (pc' := 22) rfl (hb hby d2_10) rfl (tlt h1).1 (by decide) (by decide) k) ?_
    show own_Go p e below _ s₁ (mkF m 22 #[.val (.int p1), .val (.int (p1 &&& (255 : Int32)))] [])
    refine own_go (fun _ k => XS.iloadN X0.here hx rfl (hb hby d2_22) rfl  k) ?_
    show own_Go p e below _ s₁ (mkF m 23 #[.val (.int p1), .val (.int (p1 &&& (255 : Int32)))] [(.int (p1 &&& (255 : Int32)))])
    refine own_go (fun _ k => XS.sipush X0.here hx rfl (hb hby d2_23) k) ?_
    show own_Go p e below _ s₁ (mkF m 26 #[.val (.int p1), .val (.int (p1 &&& (255 : Int32)))] [(.int (240 : Int32)), (.int (p1 &&& (255 : Int32)))])
    by_cases h3 : (p1 &&& (255 : Int32)) < (240 : Int32)
    · refine own_go (fun _ k => XS.icmpYes X0.here hx rfl (pc0 := 26) (pc' := 31) rfl (hb hby d2_26) rfl (tlt h3).1 (by decide) (by decide) k) ?_
      show own_Go p e below _ s₁ (mkF m 31 #[.val (.int p1), .val (.int (p1 &&& (255 : Int32)))] [])
      refine own_go (fun _ k => XS.iconst X0.here hx rfl (hb hby d2_31) k) ?_
      show own_Go p e below _ s₁ (mkF m 32 #[.val (.int p1), .val (.int (p1 &&& (255 : Int32)))] [(.int (1 : Int32))])
      exact own_endI X0 hx hret hlk (hb hby d2_32) (by decide) (by decide) ⟨by rw [own_we, if_pos h1, if_pos h3], N0, e0⟩
    · refine own_go (fun _ k => XS.icmpNo X0.here hx rfl (hb hby d2_26) rfl (flt h3).1 k) ?_
      show own_Go p e below _ s₁ (mkF m 29 #[.val (.int p1), .val (.int (p1 &&& (255 : Int32)))] [])
      refine own_go (fun _ k => XS.iconst X0.here hx rfl (hb hby d2_29) k) ?_
      show own_Go p e below _ s₁ (mkF m 30 #[.val (.int p1), .val (.int (p1 &&& (255 : Int32)))] [(.int (2 : Int32))])
      exact own_endI X0 hx hret hlk (hb hby d2_30) (by decide) (by decide) ⟨by rw [own_we, if_pos h1, if_neg h3], N0, e0⟩
  · refine own_go (fun _ k => XS.icmpNo X0.here hx rfl (hb hby d2_10) rfl (flt h1).1 k) ?_
    show own_Go p e below _ s₁ (mkF m 13 #[.val (.int p1), .val (.int (p1 &&& (255 : Int32)))] [])
    refine own_go (fun _ k => XS.iloadN X0.here hx rfl (hb hby d2_13) rfl  k) ?_
    show own_Go p e below _ s₁ (mkF m 14 #[.val (.int p1), .val (.int (p1 &&& (255 : Int32)))] [(.int (p1 &&& (255 : Int32)))])
    refine own_go (fun _ k => XS.sipush X0.here hx rfl (hb hby d2_14) k) ?_
    show own_Go p e below _ s₁ (mkF m 17 #[.val (.int p1), .val (.int (p1 &&& (255 : Int32)))] [(.int (191 : Int32)), (.int (p1 &&& (255 : Int32)))])
    by_cases h2 : (191 : Int32) < (p1 &&& (255 : Int32))
    · refine own_go (fun _ k => XS.icmpYes X0.here hx rfl (pc0 := 17) (pc' := 22) rfl (hb hby d2_17) rfl (tlt h2).2.2.1 (by decide) (by decide) k) ?_
      show own_Go p e below _ s₁ (mkF m 22 #[.val (.int p1), .val (.int (p1 &&& (255 : Int32)))] [])
      refine own_go (fun _ k => XS.iloadN X0.here hx rfl (hb hby d2_22) rfl  k) ?_
      show own_Go p e below _ s₁ (mkF m 23 #[.val (.int p1), .val (.int (p1 &&& (255 : Int32)))] [(.int (p1 &&& (255 : Int32)))])
      refine own_go (fun _ k => XS.sipush X0.here hx rfl (hb hby d2_23) k) ?_
      show own_Go p e below _ s₁ (mkF m 26 #[.val (.int p1), .val (.int (p1 &&& (255 : Int32)))] [(.int (240 : Int32)), (.int (p1 &&& (255 : Int32)))])
      by_cases h3 : (p1 &&& (255 : Int32)) < (240 : Int32)
      · refine own_go (fun _ k => XS.icmpYes X0.here hx rfl (pc0 := 26) (pc' := 31) rfl (hb hby d2_26) rfl (tlt h3).1 (by decide) (by decide) k) ?_
        show own_Go p e below _ s₁ (mkF m 31 #[.val (.int p1), .val (.int (p1 &&& (255 : Int32)))] [])
        refine own_go (fun _ k => XS.iconst X0.here hx rfl (hb hby d2_31) k) ?_
        show own_Go p e below _ s₁ (mkF m 32 #[.val (.int p1), .val (.int (p1 &&& (255 : Int32)))] [(.int (1 : Int32))])
        exact own_endI X0 hx hret hlk (hb hby d2_32) (by decide) (by decide) ⟨by rw [own_we, if_neg h1, if_pos h2, if_pos h3], N0, e0⟩
      · refine own_go (fun _ k => XS.icmpNo X0.here hx rfl (hb hby d2_26) rfl (flt h3).1 k) ?_
        show own_Go p e below _ s₁ (mkF m 29 #[.val (.int p1), .val (.int (p1 &&& (255 : Int32)))] [])
        refine own_go (fun _ k => XS.iconst X0.here hx rfl (hb hby d2_29) k) ?_
        show own_Go p e below _ s₁ (mkF m 30 #[.val (.int p1), .val (.int (p1 &&& (255 : Int32)))] [(.int (2 : Int32))])
        exact own_endI X0 hx hret hlk (hb hby d2_30) (by decide) (by decide) ⟨by rw [own_we, if_neg h1, if_pos h2, if_neg h3], N0, e0⟩
    · refine own_go (fun _ k => XS.icmpNo X0.here hx rfl (hb hby d2_17) rfl (flt h2).2.2.1 k) ?_
      show own_Go p e below _ s₁ (mkF m 20 #[.val (.int p1), .val (.int (p1 &&& (255 : Int32)))] [])
      refine own_go (fun _ k => XS.iconst X0.here hx rfl (hb hby d2_20) k) ?_
      show own_Go p e below _ s₁ (mkF m 21 #[.val (.int p1), .val (.int (p1 &&& (255 : Int32)))] [(.int (0 : Int32))])
      exact own_endI X0 hx hret hlk (hb hby d2_21) (by decide) (by decide) ⟨by rw [own_we, if_neg h1, if_neg h2], N0, e0⟩
set_option maxRecDepth 65536 in
set_option maxHeartbeats 40000000 in
theorem own_loop {p : Program} {l : Launch} {e : Env} {R : Room} {s : State} {m : MethodId} {args : Array Value} {below : List Frame} {meth : Method} {c : Code} {T0 : State} {locs : List Loc} {cells slots : Nat} {Z : State} {a0 : Array Value} {h0 : Heap} {P : Outcome → State → Prop} (a1 : Addr) (N : Nat) (hN : N ≤ 4) (g : Nat → Int32) (X0 : Stand p l e R s m args below meth c T0 locs cells slots)
    (hx : p.tables.exec = Jvm.exec) (hZ : Z.Warmed39 s.vm) (hw : ∀ d ∈ tables_1, d.before a0 Z = true) (hby : c.code = prog_84_method_3_code) (hml : c.maxLocals = 6) (hown : s.vm.findClass "com/example/traceloom/traceloom/io/Utf8" = some m.cls) (e0 : T0.heap = h0) (cl : Cell) (Ar : Arr Z h0 a1 cl .byte) (S : cl.slots.size = (Int32.ofNat N).toNatClampNeg) (H : ∀ j, j < N → cl.slots[j]? = some (.int (g j)))
    (hend : ∀ s5 : Slot, own_Go p e below P T0 (mkF m 60 #[.val (.ref a1), .val (.int (own_sum g N)), .val (.ref a1), .val (.int (Int32.ofNat N)), .val (.int (Int32.ofNat N)), s5] [])) : ∀ (k i : Nat) (s5 : Slot), One s5 → i + k = N → own_Go p e below P T0 (mkF m 10 #[.val (.ref a1), .val (.int (own_sum g i)), .val (.ref a1), .val (.int (Int32.ofNat N)), .val (.int (Int32.ofNat i)), s5] []) := by
  intro k
  induction k with
  | zero =>
    intro i s5 h5 hi
    have hi' : i = N := by omega
    subst hi'
    show own_Go p e below _ T0 (mkF m 10 #[.val (.ref a1), .val (.int (own_sum g i)), .val (.ref a1), .val (.int (Int32.ofNat i)), .val (.int (Int32.ofNat i)), s5] [])
    refine own_go (fun _ k => XS.iload X0.here hx rfl (hb hby d1_10) rfl  k) ?_
    show own_Go p e below _ T0 (mkF m 12 #[.val (.ref a1), .val (.int (own_sum g i)), .val (.ref a1), .val (.int (Int32.ofNat i)), .val (.int (Int32.ofNat i)), s5] [(.int (Int32.ofNat i))])
    refine own_go (fun _ k => XS.iloadN X0.here hx rfl (hb hby d1_12) rfl  k) ?_
    show own_Go p e below _ T0 (mkF m 13 #[.val (.ref a1), .val (.int (own_sum g i)), .val (.ref a1), .val (.int (Int32.ofNat i)), .val (.int (Int32.ofNat i)), s5] [(.int (Int32.ofNat i)), (.int (Int32.ofNat i))])
    refine own_go (fun _ k => XS.icmpYes X0.here hx rfl (pc0 := 13) (pc' := 60) rfl (hb hby d1_13) rfl (flt Int32.lt_irrefl).2.1 (by decide) (by decide) k) ?_
    show own_Go p e below _ T0 (mkF m 60 #[.val (.ref a1), .val (.int (own_sum g i)), .val (.ref a1), .val (.int (Int32.ofNat i)), .val (.int (Int32.ofNat i)), s5] [])
    exact hend s5
  | succ k ih =>
    intro i s5 h5 hi
    have hiN : i < N := by omega
    have hi2 : (Int32.ofNat i).toInt = i := own_nat (by omega)
    show own_Go p e below _ T0 (mkF m 10 #[.val (.ref a1), .val (.int (own_sum g i)), .val (.ref a1), .val (.int (Int32.ofNat N)), .val (.int (Int32.ofNat i)), s5] [])
    refine own_go (fun _ k => XS.iload X0.here hx rfl (hb hby d1_10) rfl  k) ?_
    show own_Go p e below _ T0 (mkF m 12 #[.val (.ref a1), .val (.int (own_sum g i)), .val (.ref a1), .val (.int (Int32.ofNat N)), .val (.int (Int32.ofNat i)), s5] [(.int (Int32.ofNat i))])
    refine own_go (fun _ k => XS.iloadN X0.here hx rfl (hb hby d1_12) rfl  k) ?_
    show own_Go p e below _ T0 (mkF m 13 #[.val (.ref a1), .val (.int (own_sum g i)), .val (.ref a1), .val (.int (Int32.ofNat N)), .val (.int (Int32.ofNat i)), s5] [(.int (Int32.ofNat N)), (.int (Int32.ofNat i))])
    refine own_go (fun _ k => XS.icmpNo X0.here hx rfl (hb hby d1_13) rfl (tlt ((own_ltI hN hi2).mpr hiN)).2.1 k) ?_
    show own_Go p e below _ T0 (mkF m 16 #[.val (.ref a1), .val (.int (own_sum g i)), .val (.ref a1), .val (.int (Int32.ofNat N)), .val (.int (Int32.ofNat i)), s5] [])
    refine own_go (fun _ k => XS.aloadN X0.here hx rfl (hb hby d1_16) rfl rfl k) ?_
    show own_Go p e below _ T0 (mkF m 17 #[.val (.ref a1), .val (.int (own_sum g i)), .val (.ref a1), .val (.int (Int32.ofNat N)), .val (.int (Int32.ofNat i)), s5] [(.ref a1)])
    refine own_go (fun _ k => XS.iload X0.here hx rfl (hb hby d1_17) rfl  k) ?_
    show own_Go p e below _ T0 (mkF m 19 #[.val (.ref a1), .val (.int (own_sum g i)), .val (.ref a1), .val (.int (Int32.ofNat N)), .val (.int (Int32.ofNat i)), s5] [(.int (Int32.ofNat i)), (.ref a1)])
    have hin : ¬ (Int32.ofNat i < 0 ∨ cl.slots.size ≤ (Int32.ofNat i).toNatClampNeg) := inb_of S ⟨own_nn (by omega), (own_ltI hN hi2).mpr hiN⟩
    have hat : cl.slots[(Int32.ofNat i).toNatClampNeg]? = some (.int (g i)) := by rw [own_clamp (by omega)]; exact H i hiN
    refine own_go (fun _ k => X0.baloadBytes hx (j := (Int32.ofNat i)) (v := (.int (g i))) (by rw [e0]; exact Ar.1) (State.isArrayOf_alike hZ.alike Ar.2.1) Ar.2.2 hin hat (g := (mkF m 19 #[.val (.ref a1), .val (.int (own_sum g i)), .val (.ref a1), .val (.int (Int32.ofNat N)), .val (.int (Int32.ofNat i)), s5] [(.int (Int32.ofNat i)), (.ref a1)])) rfl rfl (hb hby d1_19) _ k) ?_
    show own_Go p e below _ T0 (mkF m 20 #[.val (.ref a1), .val (.int (own_sum g i)), .val (.ref a1), .val (.int (Int32.ofNat N)), .val (.int (Int32.ofNat i)), s5] [(.int (g i))])
    refine own_go (fun _ k => XS.istore X0.here hx rfl (hb hby d1_20) rfl (l' := #[.val (.ref a1), .val (.int (own_sum g i)), .val (.ref a1), .val (.int (Int32.ofNat N)), .val (.int (Int32.ofNat i)), .val (.int (g i))]) (own_os5 h5) k) ?_
    show own_Go p e below _ T0 (mkF m 22 #[.val (.ref a1), .val (.int (own_sum g i)), .val (.ref a1), .val (.int (Int32.ofNat N)), .val (.int (Int32.ofNat i)), .val (.int (g i))] [])
    refine own_go (fun _ k => XS.iload X0.here hx rfl (hb hby d1_22) rfl  k) ?_
    show own_Go p e below _ T0 (mkF m 24 #[.val (.ref a1), .val (.int (own_sum g i)), .val (.ref a1), .val (.int (Int32.ofNat N)), .val (.int (Int32.ofNat i)), .val (.int (g i))] [(.int (g i))])
    refine own_go (fun _ k => XS.sipush X0.here hx rfl (hb hby d1_24) k) ?_
    show own_Go p e below _ T0 (mkF m 27 #[.val (.ref a1), .val (.int (own_sum g i)), .val (.ref a1), .val (.int (Int32.ofNat N)), .val (.int (Int32.ofNat i)), .val (.int (g i))] [(.int (192 : Int32)), (.int (g i))])
    refine own_go (fun _ k => XS.iand X0.here hx rfl (hb hby d1_27) rfl k) ?_
    show own_Go p e below _ T0 (mkF m 28 #[.val (.ref a1), .val (.int (own_sum g i)), .val (.ref a1), .val (.int (Int32.ofNat N)), .val (.int (Int32.ofNat i)), .val (.int (g i))] [(.int ((g i) &&& (192 : Int32)))])
    refine own_go (fun _ k => XS.sipush X0.here hx rfl (hb hby d1_28) k) ?_
    show own_Go p e below _ T0 (mkF m 31 #[.val (.ref a1), .val (.int (own_sum g i)), .val (.ref a1), .val (.int (Int32.ofNat N)), .val (.int (Int32.ofNat i)), .val (.int (g i))] [(.int (128 : Int32)), (.int ((g i) &&& (192 : Int32)))])
    by_cases hc : ((g i) &&& (192 : Int32)) = (128 : Int32)
    · refine own_go (fun _ k => XS.icmpYes X0.here hx rfl (pc0 := 31) (pc' := 54) rfl (hb hby d1_31) rfl (teq hc).1 (by decide) (by decide) k) ?_
      show own_Go p e below _ T0 (mkF m 54 #[.val (.ref a1), .val (.int (own_sum g i)), .val (.ref a1), .val (.int (Int32.ofNat N)), .val (.int (Int32.ofNat i)), .val (.int (g i))] [])
      refine own_go (fun _ k => XS.iinc X0.here hx rfl (hb hby d1_54) rfl (l' := #[.val (.ref a1), .val (.int (own_sum g i)), .val (.ref a1), .val (.int (Int32.ofNat N)), .val (.int ((Int32.ofNat i) + (1 : Int32))), .val (.int (g i))]) rfl k) ?_
      show own_Go p e below _ T0 (mkF m 57 #[.val (.ref a1), .val (.int (own_sum g i)), .val (.ref a1), .val (.int (Int32.ofNat N)), .val (.int ((Int32.ofNat i) + (1 : Int32))), .val (.int (g i))] [])
      refine own_go (fun _ k => XS.goto X0.here hx rfl (pc0 := 57) (pc' := 10) rfl (hb hby d1_57) (by decide) (by decide) k) ?_
      show own_Go p e below _ T0 (mkF m 10 #[.val (.ref a1), .val (.int (own_sum g i)), .val (.ref a1), .val (.int (Int32.ofNat N)), .val (.int ((Int32.ofNat i) + (1 : Int32))), .val (.int (g i))] [])
      have hstep : own_sum g (i + 1) = own_sum g i := by
        show own_sum g i + own_wt (g i) = _
        rw [own_wt, if_pos hc, Int32.add_zero]
      have q := ih (i + 1) (.val (.int (g i))) (One.val rfl) (by omega)
      rw [hstep, ← own_inc] at q
      exact q
    · refine own_go (fun _ k => XS.icmpNo X0.here hx rfl (hb hby d1_31) rfl (feq hc).1 k) ?_
      show own_Go p e below _ T0 (mkF m 34 #[.val (.ref a1), .val (.int (own_sum g i)), .val (.ref a1), .val (.int (Int32.ofNat N)), .val (.int (Int32.ofNat i)), .val (.int (g i))] [])
      refine own_go (fun _ k => XS.iloadN X0.here hx rfl (hb hby d1_34) rfl  k) ?_
      show own_Go p e below _ T0 (mkF m 35 #[.val (.ref a1), .val (.int (own_sum g i)), .val (.ref a1), .val (.int (Int32.ofNat N)), .val (.int (Int32.ofNat i)), .val (.int (g i))] [(.int (own_sum g i))])
      refine own_go (fun _ k => XS.iload X0.here hx rfl (hb hby d1_35) rfl  k) ?_
      show own_Go p e below _ T0 (mkF m 37 #[.val (.ref a1), .val (.int (own_sum g i)), .val (.ref a1), .val (.int (Int32.ofNat N)), .val (.int (Int32.ofNat i)), .val (.int (g i))] [(.int (g i)), (.int (own_sum g i))])
      refine own_go (fun _ k => XS.sipush X0.here hx rfl (hb hby d1_37) k) ?_
      show own_Go p e below _ T0 (mkF m 40 #[.val (.ref a1), .val (.int (own_sum g i)), .val (.ref a1), .val (.int (Int32.ofNat N)), .val (.int (Int32.ofNat i)), .val (.int (g i))] [(.int (240 : Int32)), (.int (g i)), (.int (own_sum g i))])
      refine own_go (fun _ k => XS.iand X0.here hx rfl (hb hby d1_40) rfl k) ?_
      show own_Go p e below _ T0 (mkF m 41 #[.val (.ref a1), .val (.int (own_sum g i)), .val (.ref a1), .val (.int (Int32.ofNat N)), .val (.int (Int32.ofNat i)), .val (.int (g i))] [(.int ((g i) &&& (240 : Int32))), (.int (own_sum g i))])
      refine own_go (fun _ k => XS.sipush X0.here hx rfl (hb hby d1_41) k) ?_
      show own_Go p e below _ T0 (mkF m 44 #[.val (.ref a1), .val (.int (own_sum g i)), .val (.ref a1), .val (.int (Int32.ofNat N)), .val (.int (Int32.ofNat i)), .val (.int (g i))] [(.int (240 : Int32)), (.int ((g i) &&& (240 : Int32))), (.int (own_sum g i))])
      by_cases hd : ((g i) &&& (240 : Int32)) = (240 : Int32)
      · refine own_go (fun _ k => XS.icmpNo X0.here hx rfl (hb hby d1_44) rfl (teq hd).2 k) ?_
        show own_Go p e below _ T0 (mkF m 47 #[.val (.ref a1), .val (.int (own_sum g i)), .val (.ref a1), .val (.int (Int32.ofNat N)), .val (.int (Int32.ofNat i)), .val (.int (g i))] [(.int (own_sum g i))])
        refine own_go (fun _ k => XS.iconst X0.here hx rfl (hb hby d1_47) k) ?_
        show own_Go p e below _ T0 (mkF m 48 #[.val (.ref a1), .val (.int (own_sum g i)), .val (.ref a1), .val (.int (Int32.ofNat N)), .val (.int (Int32.ofNat i)), .val (.int (g i))] [(.int (2 : Int32)), (.int (own_sum g i))])
        refine own_go (fun _ k => XS.goto X0.here hx rfl (pc0 := 48) (pc' := 52) rfl (hb hby d1_48) (by decide) (by decide) k) ?_
        show own_Go p e below _ T0 (mkF m 52 #[.val (.ref a1), .val (.int (own_sum g i)), .val (.ref a1), .val (.int (Int32.ofNat N)), .val (.int (Int32.ofNat i)), .val (.int (g i))] [(.int (2 : Int32)), (.int (own_sum g i))])
        refine own_go (fun _ k => XS.iadd X0.here hx rfl (hb hby d1_52) rfl k) ?_
        show own_Go p e below _ T0 (mkF m 53 #[.val (.ref a1), .val (.int (own_sum g i)), .val (.ref a1), .val (.int (Int32.ofNat N)), .val (.int (Int32.ofNat i)), .val (.int (g i))] [(.int ((own_sum g i) + (2 : Int32)))])
        refine own_go (fun _ k => XS.istoreN X0.here hx rfl (hb hby d1_53) rfl (l' := #[.val (.ref a1), .val (.int ((own_sum g i) + (2 : Int32))), .val (.ref a1), .val (.int (Int32.ofNat N)), .val (.int (Int32.ofNat i)), .val (.int (g i))]) rfl k) ?_
        show own_Go p e below _ T0 (mkF m 54 #[.val (.ref a1), .val (.int ((own_sum g i) + (2 : Int32))), .val (.ref a1), .val (.int (Int32.ofNat N)), .val (.int (Int32.ofNat i)), .val (.int (g i))] [])
        refine own_go (fun _ k => XS.iinc X0.here hx rfl (hb hby d1_54) rfl (l' := #[.val (.ref a1), .val (.int ((own_sum g i) + (2 : Int32))), .val (.ref a1), .val (.int (Int32.ofNat N)), .val (.int ((Int32.ofNat i) + (1 : Int32))), .val (.int (g i))]) rfl k) ?_
        show own_Go p e below _ T0 (mkF m 57 #[.val (.ref a1), .val (.int ((own_sum g i) + (2 : Int32))), .val (.ref a1), .val (.int (Int32.ofNat N)), .val (.int ((Int32.ofNat i) + (1 : Int32))), .val (.int (g i))] [])
        refine own_go (fun _ k => XS.goto X0.here hx rfl (pc0 := 57) (pc' := 10) rfl (hb hby d1_57) (by decide) (by decide) k) ?_
        show own_Go p e below _ T0 (mkF m 10 #[.val (.ref a1), .val (.int ((own_sum g i) + (2 : Int32))), .val (.ref a1), .val (.int (Int32.ofNat N)), .val (.int ((Int32.ofNat i) + (1 : Int32))), .val (.int (g i))] [])
        have hstep : own_sum g (i + 1) = own_sum g i + (2 : Int32) := by
          show own_sum g i + own_wt (g i) = _
          rw [own_wt, if_neg hc, if_pos hd]
        have q := ih (i + 1) (.val (.int (g i))) (One.val rfl) (by omega)
        rw [hstep, ← own_inc] at q
        exact q
      · refine own_go (fun _ k => XS.icmpYes X0.here hx rfl (pc0 := 44) (pc' := 51) rfl (hb hby d1_44) rfl (feq hd).2 (by decide) (by decide) k) ?_
        show own_Go p e below _ T0 (mkF m 51 #[.val (.ref a1), .val (.int (own_sum g i)), .val (.ref a1), .val (.int (Int32.ofNat N)), .val (.int (Int32.ofNat i)), .val (.int (g i))] [(.int (own_sum g i))])
        refine own_go (fun _ k => XS.iconst X0.here hx rfl (hb hby d1_51) k) ?_
        show own_Go p e below _ T0 (mkF m 52 #[.val (.ref a1), .val (.int (own_sum g i)), .val (.ref a1), .val (.int (Int32.ofNat N)), .val (.int (Int32.ofNat i)), .val (.int (g i))] [(.int (1 : Int32)), (.int (own_sum g i))])
        refine own_go (fun _ k => XS.iadd X0.here hx rfl (hb hby d1_52) rfl k) ?_
        show own_Go p e below _ T0 (mkF m 53 #[.val (.ref a1), .val (.int (own_sum g i)), .val (.ref a1), .val (.int (Int32.ofNat N)), .val (.int (Int32.ofNat i)), .val (.int (g i))] [(.int ((own_sum g i) + (1 : Int32)))])
        refine own_go (fun _ k => XS.istoreN X0.here hx rfl (hb hby d1_53) rfl (l' := #[.val (.ref a1), .val (.int ((own_sum g i) + (1 : Int32))), .val (.ref a1), .val (.int (Int32.ofNat N)), .val (.int (Int32.ofNat i)), .val (.int (g i))]) rfl k) ?_
        show own_Go p e below _ T0 (mkF m 54 #[.val (.ref a1), .val (.int ((own_sum g i) + (1 : Int32))), .val (.ref a1), .val (.int (Int32.ofNat N)), .val (.int (Int32.ofNat i)), .val (.int (g i))] [])
        refine own_go (fun _ k => XS.iinc X0.here hx rfl (hb hby d1_54) rfl (l' := #[.val (.ref a1), .val (.int ((own_sum g i) + (1 : Int32))), .val (.ref a1), .val (.int (Int32.ofNat N)), .val (.int ((Int32.ofNat i) + (1 : Int32))), .val (.int (g i))]) rfl k) ?_
        show own_Go p e below _ T0 (mkF m 57 #[.val (.ref a1), .val (.int ((own_sum g i) + (1 : Int32))), .val (.ref a1), .val (.int (Int32.ofNat N)), .val (.int ((Int32.ofNat i) + (1 : Int32))), .val (.int (g i))] [])
        refine own_go (fun _ k => XS.goto X0.here hx rfl (pc0 := 57) (pc' := 10) rfl (hb hby d1_57) (by decide) (by decide) k) ?_
        show own_Go p e below _ T0 (mkF m 10 #[.val (.ref a1), .val (.int ((own_sum g i) + (1 : Int32))), .val (.ref a1), .val (.int (Int32.ofNat N)), .val (.int ((Int32.ofNat i) + (1 : Int32))), .val (.int (g i))] [])
        have hstep : own_sum g (i + 1) = own_sum g i + (1 : Int32) := by
          show own_sum g i + own_wt (g i) = _
          rw [own_wt, if_neg hc, if_neg hd]
        have q := ih (i + 1) (.val (.int (g i))) (One.val rfl) (by omega)
        rw [hstep, ← own_inc] at q
        exact q
theorem ef_1 (m : MethodId) (x0 : Addr) : entryFrame m #[(.ref x0)] 6 = mkF m 0 #[.val (.ref x0), .unset, .unset, .unset, .unset, .unset] [] := by first | (simp [entryFrame, mkF, argsToLocals, Value.category]; done) | rfl
set_option maxRecDepth 65536 in
set_option maxHeartbeats 40000000 in
theorem rmU (l : Launch) (Z : State) (a0 : Array Value) (hw : ∀ d ∈ tables_1, d.before a0 Z = true) (ws : List Jvm.Cond) (a1 : Addr) (N : Nat) (g : Nat → Int32) (h0 : Heap) (n0 : Nat) (Z0 : n0 ≤ h0.size) (hN : N ≤ 4) (K : own_By Z h0 a1 N g) :
    MetFree l (⟨"com/example/traceloom/traceloom/io/Utf8", "unitsAtMost", "([B)I"⟩ : MethodName) (head1 (Jvm.Cond.code (⟨"com/example/traceloom/traceloom/io/Utf8", "unitsAtMost", "([B)I"⟩ : MethodName) prog_84_method_3_code 6 (some .int) :: ws) ({ frames := 0, cells := 0, slots := 0, locals := 0 } : Room)) (fun a U => a = #[(.ref a1)] ∧ Z.Warmed39 U.vm ∧ U.heap = h0) (fun _ _ _ _ _ => True) (fun _ U o U' => ∃ v L, o = .returned v ∧ (own_pure (some (.int (own_sum g N))) h0 n0) v U'.heap L ∧ FrameEnd U o U' L ({ frames := 0, cells := 0, slots := 0, locals := 0 } : Room).cells ({ frames := 0, cells := 0, slots := 0, locals := 0 } : Room).slots) := by
  refine MetFree.of_bodySF (plainFor_of_name pn_1) hisR ?_
  intro p e s m args below meth c s₁ Bd hml0 hP hK
  obtain ⟨rfl, hZ, hh⟩ := hP
  have hx := Bd.exec
  have hby := Bd.bytes
  have hml : c.maxLocals = 6 := hml0
  have hown : s.vm.findClass "com/example/traceloom/traceloom/io/Utf8" = some m.cls := findClass_of_methodNamed Bd.named
  have hnm := (name_of_methodNamed Bd.named Bd.method).1
  have hret := Bd.returns
  have hlk : meth.locks = false := Bd.notSynchronized
  have X0 : Stand p l e ({ frames := 0, cells := 0, slots := 0, locals := 0 } : Room) s m #[(.ref a1)] below meth c s₁ [] 0 0 := Stand.of_body Bd
  have e0 : s₁.heap = h0 := by rw [← hh, Bd.state]; rfl
  have N0 := Fr.nil n0
  show own_Go p e below (own_P (own_pure (some (.int (own_sum g N))) h0 n0) ({ frames := 0, cells := 0, slots := 0, locals := 0 } : Room) s) s₁ (entryFrame m #[(.ref a1)] 6)
  rw [ef_1 m a1]
  show own_Go p e below _ s₁ (mkF m 0 #[.val (.ref a1), .unset, .unset, .unset, .unset, .unset] [])
  obtain ⟨cl, Ar, S, H⟩ := K
  refine own_go (fun _ k => XS.iconst X0.here hx rfl (hb hby d1_0) k) ?_
  show own_Go p e below _ s₁ (mkF m 1 #[.val (.ref a1), .unset, .unset, .unset, .unset, .unset] [(.int (0 : Int32))])
  refine own_go (fun _ k => XS.istoreN X0.here hx rfl (hb hby d1_1) rfl (l' := #[.val (.ref a1), .val (.int (0 : Int32)), .unset, .unset, .unset, .unset]) rfl k) ?_
  show own_Go p e below _ s₁ (mkF m 2 #[.val (.ref a1), .val (.int (0 : Int32)), .unset, .unset, .unset, .unset] [])
  refine own_go (fun _ k => XS.aloadN X0.here hx rfl (hb hby d1_2) rfl rfl k) ?_
  show own_Go p e below _ s₁ (mkF m 3 #[.val (.ref a1), .val (.int (0 : Int32)), .unset, .unset, .unset, .unset] [(.ref a1)])
  refine own_go (fun _ k => XS.astoreN X0.here hx rfl (hb hby d1_3) rfl rfl (l' := #[.val (.ref a1), .val (.int (0 : Int32)), .val (.ref a1), .unset, .unset, .unset]) rfl k) ?_
  show own_Go p e below _ s₁ (mkF m 4 #[.val (.ref a1), .val (.int (0 : Int32)), .val (.ref a1), .unset, .unset, .unset] [])
  refine own_go (fun _ k => XS.aloadN X0.here hx rfl (hb hby d1_4) rfl rfl k) ?_
  show own_Go p e below _ s₁ (mkF m 5 #[.val (.ref a1), .val (.int (0 : Int32)), .val (.ref a1), .unset, .unset, .unset] [(.ref a1)])
  refine own_go (fun _ k => X0.arraylength hx (by rw [e0]; exact Ar.1) (State.isArrayOf_alike hZ.alike Ar.2.1) (g := (mkF m 5 #[.val (.ref a1), .val (.int (0 : Int32)), .val (.ref a1), .unset, .unset, .unset] [(.ref a1)])) rfl rfl (hb hby d1_5) _ k) ?_
  rw [len_of S (own_nn hN)]
  show own_Go p e below _ s₁ (mkF m 6 #[.val (.ref a1), .val (.int (0 : Int32)), .val (.ref a1), .unset, .unset, .unset] [(.int (Int32.ofNat N))])
  refine own_go (fun _ k => XS.istoreN X0.here hx rfl (hb hby d1_6) rfl (l' := #[.val (.ref a1), .val (.int (0 : Int32)), .val (.ref a1), .val (.int (Int32.ofNat N)), .unset, .unset]) rfl k) ?_
  show own_Go p e below _ s₁ (mkF m 7 #[.val (.ref a1), .val (.int (0 : Int32)), .val (.ref a1), .val (.int (Int32.ofNat N)), .unset, .unset] [])
  refine own_go (fun _ k => XS.iconst X0.here hx rfl (hb hby d1_7) k) ?_
  show own_Go p e below _ s₁ (mkF m 8 #[.val (.ref a1), .val (.int (0 : Int32)), .val (.ref a1), .val (.int (Int32.ofNat N)), .unset, .unset] [(.int (0 : Int32))])
  refine own_go (fun _ k => XS.istore X0.here hx rfl (hb hby d1_8) rfl (l' := #[.val (.ref a1), .val (.int (0 : Int32)), .val (.ref a1), .val (.int (Int32.ofNat N)), .val (.int (0 : Int32)), .unset]) rfl k) ?_
  show own_Go p e below _ s₁ (mkF m 10 #[.val (.ref a1), .val (.int (0 : Int32)), .val (.ref a1), .val (.int (Int32.ofNat N)), .val (.int (0 : Int32)), .unset] [])
  refine own_loop a1 N hN g X0 hx hZ hw hby hml hown e0 cl Ar S H (fun s5 => ?_) N 0 .unset One.u (by omega)
  show own_Go p e below _ s₁ (mkF m 60 #[.val (.ref a1), .val (.int (own_sum g N)), .val (.ref a1), .val (.int (Int32.ofNat N)), .val (.int (Int32.ofNat N)), s5] [])
  refine own_go (fun _ k => XS.iloadN X0.here hx rfl (hb hby d1_60) rfl  k) ?_
  show own_Go p e below _ s₁ (mkF m 61 #[.val (.ref a1), .val (.int (own_sum g N)), .val (.ref a1), .val (.int (Int32.ofNat N)), .val (.int (Int32.ofNat N)), s5] [(.int (own_sum g N))])
  exact own_endI X0 hx hret hlk (hb hby d1_61) (by decide) (by decide) ⟨rfl, N0, e0⟩
set_option maxRecDepth 65536 in
set_option maxHeartbeats 40000000 in
theorem own_t4 {p : Program} {l : Launch} {e : Env} {s : State} {m : MethodId} {args : Array Value} {below : List Frame} {meth : Method} {c : Code} {T0 : State} {locs : List Loc} {Z : State} {a0 : Array Value} {h0 : Heap} {n0 : Nat} (p1 p2 p3 p4 p5 E : Int32) (N : Nat) (g : Nat → Int32) (a1 : Addr) (X0 : Stand p l e room_1 s m args below meth c T0 locs 1 4)
    (hx : p.tables.exec = Jvm.exec) (hZ : Z.Warmed39 s.vm) (hw : ∀ d ∈ tables_1, d.before a0 Z = true) (hby : c.code = code) (hml : c.maxLocals = 8) (hown : s.vm.findClass "com/example/traceloom/traceloom/io/Utf8UnitsAtMostPinLaw" = some m.cls) (hret : meth.sig.returnType = some .boolean) (hlk : meth.locks = false) (e0 : T0.heap = h0) (Z0 : n0 ≤ h0.size) (N0 : Fr n0 locs) (g1 : n0 ≤ a1) (hN : N ≤ 4) (K : own_By Z h0 a1 N g) (hg : ∀ j, j < 4 → j < N → g j = (own_bb p1 p2 p3 p4) j) (hE : E = own_sum (own_bb p1 p2 p3 p4) (min 4 N)) :
    own_Go p e below (own_P (own_R (fun v _ L => v = some (.int 1) ∧ Fr n0 L)) room_1 s) T0 (mkF m 101 #[.val (.int p1), .val (.int p2), .val (.int p3), .val (.int p4), .val (.int p5), .val (.int (Int32.ofNat N)), .val (.ref a1), .val (.int E)] []) := by
  refine own_go (fun _ k => XS.aload X0.here hx rfl (hb hby at_101) rfl rfl k) ?_
  show own_Go p e below _ T0 (mkF m 103 #[.val (.int p1), .val (.int p2), .val (.int p3), .val (.int p4), .val (.int p5), .val (.int (Int32.ofNat N)), .val (.ref a1), .val (.int E)] [(.ref a1)])
  obtain ⟨T1, v1, L1, X1, q1, st1⟩ := own_callS X0 hx hZ hown (y := (⟨"com/example/traceloom/traceloom/io/Utf8", "unitsAtMost", "([B)I"⟩ : MethodName)) (hw _ (List.mem_of_getElem? (i := 2) rfl)) (hw _ (List.mem_of_getElem? (i := 3) rfl)) (hw _ (List.mem_of_getElem? (i := 4) rfl)) (hw _ (List.mem_of_getElem? (i := 5) rfl)) (by decide) (rmU l Z a0 hw [] a1 N g h0 n0 Z0 hN K) (Ls := #[.val (.int p1), .val (.int p2), .val (.int p3), .val (.int p4), .val (.int p5), .val (.int (Int32.ofNat N)), .val (.ref a1), .val (.int E)]) (st := [(.ref a1)]) (W := 0) (by decide) (by decide) (by rw [hml]; rfl) (argsL := [(.ref a1)]) (rest := []) (lenOf pd_0 rfl) rfl rfl (Nat.le_of_eq rfl) (hb hby at_103) e0 (by decide) (by decide)
  obtain ⟨rfl, N1', e1⟩ := q1
  have N1 := Fr.app N0 N1'
  refine own_go st1 ?_
  show own_Go p e below _ T1 (mkF m 106 #[.val (.int p1), .val (.int p2), .val (.int p3), .val (.int p4), .val (.int p5), .val (.int (Int32.ofNat N)), .val (.ref a1), .val (.int E)] [(.int (own_sum g N))])
  refine own_go (fun _ k => XS.iload X1.here hx rfl (hb hby at_106) rfl  k) ?_
  show own_Go p e below _ T1 (mkF m 108 #[.val (.int p1), .val (.int p2), .val (.int p3), .val (.int p4), .val (.int p5), .val (.int (Int32.ofNat N)), .val (.ref a1), .val (.int E)] [(.int E), (.int (own_sum g N))])
  have hq : own_sum g N = E := by rw [hE, Nat.min_eq_right hN]; exact own_sum_congr N fun j q => hg j (by omega) q
  refine own_go (fun _ k => XS.icmpNo X1.here hx rfl (hb hby at_108) rfl (teq hq).2 k) ?_
  show own_Go p e below _ T1 (mkF m 111 #[.val (.int p1), .val (.int p2), .val (.int p3), .val (.int p4), .val (.int p5), .val (.int (Int32.ofNat N)), .val (.ref a1), .val (.int E)] [])
  refine own_go (fun _ k => XS.iconst X1.here hx rfl (hb hby at_111) k) ?_
  show own_Go p e below _ T1 (mkF m 112 #[.val (.int p1), .val (.int p2), .val (.int p3), .val (.int p4), .val (.int p5), .val (.int (Int32.ofNat N)), .val (.ref a1), .val (.int E)] [(.int (1 : Int32))])
  refine own_go (fun _ k => XS.goto X1.here hx rfl (pc0 := 112) (pc' := 116) rfl (hb hby at_112) (by decide) (by decide) k) ?_
  show own_Go p e below _ T1 (mkF m 116 #[.val (.int p1), .val (.int p2), .val (.int p3), .val (.int p4), .val (.int p5), .val (.int (Int32.ofNat N)), .val (.ref a1), .val (.int E)] [(.int (1 : Int32))])
  exact own_endZ X1 hx hret hlk (hb hby at_116) rfl (by decide) (by decide) ⟨rfl, N1⟩
set_option maxRecDepth 65536 in
set_option maxHeartbeats 40000000 in
theorem own_t3 {p : Program} {l : Launch} {e : Env} {s : State} {m : MethodId} {args : Array Value} {below : List Frame} {meth : Method} {c : Code} {T0 : State} {locs : List Loc} {Z : State} {a0 : Array Value} {h0 : Heap} {n0 : Nat} (p1 p2 p3 p4 p5 E : Int32) (N : Nat) (g : Nat → Int32) (a1 : Addr) (X0 : Stand p l e room_1 s m args below meth c T0 locs 1 4)
    (hx : p.tables.exec = Jvm.exec) (hZ : Z.Warmed39 s.vm) (hw : ∀ d ∈ tables_1, d.before a0 Z = true) (hby : c.code = code) (hml : c.maxLocals = 8) (hown : s.vm.findClass "com/example/traceloom/traceloom/io/Utf8UnitsAtMostPinLaw" = some m.cls) (hret : meth.sig.returnType = some .boolean) (hlk : meth.locks = false) (e0 : T0.heap = h0) (Z0 : n0 ≤ h0.size) (N0 : Fr n0 locs) (g1 : n0 ≤ a1) (hN : N ≤ 4) (K : own_By Z h0 a1 N g) (hg : ∀ j, j < 3 → j < N → g j = (own_bb p1 p2 p3 p4) j) (hE : E = own_sum (own_bb p1 p2 p3 p4) (min 3 N)) :
    own_Go p e below (own_P (own_R (fun v _ L => v = some (.int 1) ∧ Fr n0 L)) room_1 s) T0 (mkF m 80 #[.val (.int p1), .val (.int p2), .val (.int p3), .val (.int p4), .val (.int p5), .val (.int (Int32.ofNat N)), .val (.ref a1), .val (.int E)] []) := by
  refine own_go (fun _ k => XS.iload X0.here hx rfl (hb hby at_80) rfl  k) ?_
  show own_Go p e below _ T0 (mkF m 82 #[.val (.int p1), .val (.int p2), .val (.int p3), .val (.int p4), .val (.int p5), .val (.int (Int32.ofNat N)), .val (.ref a1), .val (.int E)] [(.int (Int32.ofNat N))])
  refine own_go (fun _ k => XS.iconst X0.here hx rfl (hb hby at_82) k) ?_
  show own_Go p e below _ T0 (mkF m 83 #[.val (.int p1), .val (.int p2), .val (.int p3), .val (.int p4), .val (.int p5), .val (.int (Int32.ofNat N)), .val (.ref a1), .val (.int E)] [(.int (3 : Int32)), (.int (Int32.ofNat N))])
  by_cases hp : (3 : Int32) < (Int32.ofNat N)
  · refine own_go (fun _ k => XS.icmpNo X0.here hx rfl (hb hby at_83) rfl (tlt hp).2.2.2 k) ?_
    show own_Go p e below _ T0 (mkF m 86 #[.val (.int p1), .val (.int p2), .val (.int p3), .val (.int p4), .val (.int p5), .val (.int (Int32.ofNat N)), .val (.ref a1), .val (.int E)] [])
    have hk : 3 < N := (own_ltI hN rfl).mp hp
    obtain ⟨cl, Ar, S, H⟩ := K
    refine own_go (fun _ k => XS.aload X0.here hx rfl (hb hby at_86) rfl rfl k) ?_
    show own_Go p e below _ T0 (mkF m 88 #[.val (.int p1), .val (.int p2), .val (.int p3), .val (.int p4), .val (.int p5), .val (.int (Int32.ofNat N)), .val (.ref a1), .val (.int E)] [(.ref a1)])
    refine own_go (fun _ k => XS.iconst X0.here hx rfl (hb hby at_88) k) ?_
    show own_Go p e below _ T0 (mkF m 89 #[.val (.int p1), .val (.int p2), .val (.int p3), .val (.int p4), .val (.int p5), .val (.int (Int32.ofNat N)), .val (.ref a1), .val (.int E)] [(.int (3 : Int32)), (.ref a1)])
    refine own_go (fun _ k => XS.iloadN X0.here hx rfl (hb hby at_89) rfl  k) ?_
    show own_Go p e below _ T0 (mkF m 90 #[.val (.int p1), .val (.int p2), .val (.int p3), .val (.int p4), .val (.int p5), .val (.int (Int32.ofNat N)), .val (.ref a1), .val (.int E)] [(.int p4), (.int (3 : Int32)), (.ref a1)])
    refine own_go (fun _ k => XS.i2b X0.here hx rfl (hb hby at_90) rfl k) ?_
    show own_Go p e below _ T0 (mkF m 91 #[.val (.int p1), .val (.int p2), .val (.int p3), .val (.int p4), .val (.int p5), .val (.int (Int32.ofNat N)), .val (.ref a1), .val (.int E)] [(.int (p4.toInt8.toInt32)), (.int (3 : Int32)), (.ref a1)])
    obtain ⟨T2, h2, X2, e2, W2, st2⟩ := stB X0 hx hZ e0 Ar (j := (3 : Int32)) (inb_of S ⟨by decide, hp⟩) (g := (mkF m 91 #[.val (.int p1), .val (.int p2), .val (.int p3), .val (.int p4), .val (.int p5), .val (.int (Int32.ofNat N)), .val (.ref a1), .val (.int E)] [(.int (p4.toInt8.toInt32)), (.int (3 : Int32)), (.ref a1)])) rfl rfl (hb hby at_91)
    have N2 := Fr.snoc X2 N0 g1
    refine own_go st2 ?_
    show own_Go p e below _ T2 (mkF m 92 #[.val (.int p1), .val (.int p2), .val (.int p3), .val (.int p4), .val (.int p5), .val (.int (Int32.ofNat N)), .val (.ref a1), .val (.int E)] [])
    rw [own_nar] at W2
    obtain ⟨cl', Ar', S', H1, H2⟩ := own_wrB Ar W2
    have K' : own_By Z h2 a1 N (own_put g 3 p4.toInt8.toInt32) := ⟨cl', Ar', S'.trans S, fun j hj => by
      by_cases q : j = 3
      · subst q; rw [own_put_eq]; exact H1
      · rw [own_put_ne _ _ q, H2 j q]; exact H j hj⟩
    have hsz : n0 ≤ h2.size := by rw [W2.size]; exact Z0
    refine own_go (fun _ k => XS.iload X2.here hx rfl (hb hby at_92) rfl  k) ?_
    show own_Go p e below _ T2 (mkF m 94 #[.val (.int p1), .val (.int p2), .val (.int p3), .val (.int p4), .val (.int p5), .val (.int (Int32.ofNat N)), .val (.ref a1), .val (.int E)] [(.int E)])
    refine own_go (fun _ k => XS.iloadN X2.here hx rfl (hb hby at_94) rfl  k) ?_
    show own_Go p e below _ T2 (mkF m 95 #[.val (.int p1), .val (.int p2), .val (.int p3), .val (.int p4), .val (.int p5), .val (.int (Int32.ofNat N)), .val (.ref a1), .val (.int E)] [(.int p4), (.int E)])
    obtain ⟨T3, v3, L3, X3, q3, st3⟩ := own_callS X2 hx hZ hown (y := (⟨"com/example/traceloom/traceloom/io/Utf8UnitsAtMostPinLaw", "weight", "(I)I"⟩ : MethodName)) (hw _ (List.mem_of_getElem? (i := 6) rfl)) (hw _ (List.mem_of_getElem? (i := 7) rfl)) (hw _ (List.mem_of_getElem? (i := 8) rfl)) (hw _ (List.mem_of_getElem? (i := 9) rfl)) (by decide) (rmW l Z a0 hw [] p4 h2 n0 hsz) (Ls := #[.val (.int p1), .val (.int p2), .val (.int p3), .val (.int p4), .val (.int p5), .val (.int (Int32.ofNat N)), .val (.ref a1), .val (.int E)]) (st := [(.int p4), (.int E)]) (W := 1) (by decide) (by decide) (by rw [hml]; rfl) (argsL := [(.int p4)]) (rest := [(.int E)]) (lenOf pd_1 rfl) rfl rfl (Nat.le_of_eq rfl) (hb hby at_95) e2 (by decide) (by decide)
    obtain ⟨rfl, N3', e3⟩ := q3
    have N3 := Fr.app N2 N3'
    refine own_go st3 ?_
    show own_Go p e below _ T3 (mkF m 98 #[.val (.int p1), .val (.int p2), .val (.int p3), .val (.int p4), .val (.int p5), .val (.int (Int32.ofNat N)), .val (.ref a1), .val (.int E)] [(.int (own_we p4)), (.int E)])
    refine own_go (fun _ k => XS.iadd X3.here hx rfl (hb hby at_98) rfl k) ?_
    show own_Go p e below _ T3 (mkF m 99 #[.val (.int p1), .val (.int p2), .val (.int p3), .val (.int p4), .val (.int p5), .val (.int (Int32.ofNat N)), .val (.ref a1), .val (.int E)] [(.int (E + (own_we p4)))])
    refine own_go (fun _ k => XS.istore X3.here hx rfl (hb hby at_99) rfl (l' := #[.val (.int p1), .val (.int p2), .val (.int p3), .val (.int p4), .val (.int p5), .val (.int (Int32.ofNat N)), .val (.ref a1), .val (.int (E + (own_we p4)))]) rfl k) ?_
    show own_Go p e below _ T3 (mkF m 101 #[.val (.int p1), .val (.int p2), .val (.int p3), .val (.int p4), .val (.int p5), .val (.int (Int32.ofNat N)), .val (.ref a1), .val (.int (E + (own_we p4)))] [])
    exact own_t4 p1 p2 p3 p4 p5 _ N _ a1 X3 hx hZ hw hby hml hown hret hlk e3 hsz N3 g1 hN K' (fun j q1 q2 => by
      by_cases q : j = 3
      · subst q; rw [own_put_eq]; rfl
      · rw [own_put_ne _ _ q]; exact hg j (by omega) q2) (by
      rw [hE, Nat.min_eq_left (show 3 ≤ N by omega), Nat.min_eq_left (show 4 ≤ N by omega), ← own_same]; rfl)
  · refine own_go (fun _ k => XS.icmpYes X0.here hx rfl (pc0 := 83) (pc' := 101) rfl (hb hby at_83) rfl (flt hp).2.2.2 (by decide) (by decide) k) ?_
    show own_Go p e below _ T0 (mkF m 101 #[.val (.int p1), .val (.int p2), .val (.int p3), .val (.int p4), .val (.int p5), .val (.int (Int32.ofNat N)), .val (.ref a1), .val (.int E)] [])
    have hk : ¬ 3 < N := fun q => hp ((own_ltI hN rfl).mpr q)
    exact own_t4 p1 p2 p3 p4 p5 _ N _ a1 X0 hx hZ hw hby hml hown hret hlk e0 Z0 N0 g1 hN K (fun j q1 q2 => hg j (by omega) q2) (by
      rw [hE, Nat.min_eq_right (show N ≤ 3 by omega), Nat.min_eq_right (show N ≤ 4 by omega)])
set_option maxRecDepth 65536 in
set_option maxHeartbeats 40000000 in
theorem own_t2 {p : Program} {l : Launch} {e : Env} {s : State} {m : MethodId} {args : Array Value} {below : List Frame} {meth : Method} {c : Code} {T0 : State} {locs : List Loc} {Z : State} {a0 : Array Value} {h0 : Heap} {n0 : Nat} (p1 p2 p3 p4 p5 E : Int32) (N : Nat) (g : Nat → Int32) (a1 : Addr) (X0 : Stand p l e room_1 s m args below meth c T0 locs 1 4)
    (hx : p.tables.exec = Jvm.exec) (hZ : Z.Warmed39 s.vm) (hw : ∀ d ∈ tables_1, d.before a0 Z = true) (hby : c.code = code) (hml : c.maxLocals = 8) (hown : s.vm.findClass "com/example/traceloom/traceloom/io/Utf8UnitsAtMostPinLaw" = some m.cls) (hret : meth.sig.returnType = some .boolean) (hlk : meth.locks = false) (e0 : T0.heap = h0) (Z0 : n0 ≤ h0.size) (N0 : Fr n0 locs) (g1 : n0 ≤ a1) (hN : N ≤ 4) (K : own_By Z h0 a1 N g) (hg : ∀ j, j < 2 → j < N → g j = (own_bb p1 p2 p3 p4) j) (hE : E = own_sum (own_bb p1 p2 p3 p4) (min 2 N)) :
    own_Go p e below (own_P (own_R (fun v _ L => v = some (.int 1) ∧ Fr n0 L)) room_1 s) T0 (mkF m 59 #[.val (.int p1), .val (.int p2), .val (.int p3), .val (.int p4), .val (.int p5), .val (.int (Int32.ofNat N)), .val (.ref a1), .val (.int E)] []) := by
  refine own_go (fun _ k => XS.iload X0.here hx rfl (hb hby at_59) rfl  k) ?_
  show own_Go p e below _ T0 (mkF m 61 #[.val (.int p1), .val (.int p2), .val (.int p3), .val (.int p4), .val (.int p5), .val (.int (Int32.ofNat N)), .val (.ref a1), .val (.int E)] [(.int (Int32.ofNat N))])
  refine own_go (fun _ k => XS.iconst X0.here hx rfl (hb hby at_61) k) ?_
  show own_Go p e below _ T0 (mkF m 62 #[.val (.int p1), .val (.int p2), .val (.int p3), .val (.int p4), .val (.int p5), .val (.int (Int32.ofNat N)), .val (.ref a1), .val (.int E)] [(.int (2 : Int32)), (.int (Int32.ofNat N))])
  by_cases hp : (2 : Int32) < (Int32.ofNat N)
  · refine own_go (fun _ k => XS.icmpNo X0.here hx rfl (hb hby at_62) rfl (tlt hp).2.2.2 k) ?_
    show own_Go p e below _ T0 (mkF m 65 #[.val (.int p1), .val (.int p2), .val (.int p3), .val (.int p4), .val (.int p5), .val (.int (Int32.ofNat N)), .val (.ref a1), .val (.int E)] [])
    have hk : 2 < N := (own_ltI hN rfl).mp hp
    obtain ⟨cl, Ar, S, H⟩ := K
    refine own_go (fun _ k => XS.aload X0.here hx rfl (hb hby at_65) rfl rfl k) ?_
    show own_Go p e below _ T0 (mkF m 67 #[.val (.int p1), .val (.int p2), .val (.int p3), .val (.int p4), .val (.int p5), .val (.int (Int32.ofNat N)), .val (.ref a1), .val (.int E)] [(.ref a1)])
    refine own_go (fun _ k => XS.iconst X0.here hx rfl (hb hby at_67) k) ?_
    show own_Go p e below _ T0 (mkF m 68 #[.val (.int p1), .val (.int p2), .val (.int p3), .val (.int p4), .val (.int p5), .val (.int (Int32.ofNat N)), .val (.ref a1), .val (.int E)] [(.int (2 : Int32)), (.ref a1)])
    refine own_go (fun _ k => XS.iloadN X0.here hx rfl (hb hby at_68) rfl  k) ?_
    show own_Go p e below _ T0 (mkF m 69 #[.val (.int p1), .val (.int p2), .val (.int p3), .val (.int p4), .val (.int p5), .val (.int (Int32.ofNat N)), .val (.ref a1), .val (.int E)] [(.int p3), (.int (2 : Int32)), (.ref a1)])
    refine own_go (fun _ k => XS.i2b X0.here hx rfl (hb hby at_69) rfl k) ?_
    show own_Go p e below _ T0 (mkF m 70 #[.val (.int p1), .val (.int p2), .val (.int p3), .val (.int p4), .val (.int p5), .val (.int (Int32.ofNat N)), .val (.ref a1), .val (.int E)] [(.int (p3.toInt8.toInt32)), (.int (2 : Int32)), (.ref a1)])
    obtain ⟨T4, h4, X4, e4, W4, st4⟩ := stB X0 hx hZ e0 Ar (j := (2 : Int32)) (inb_of S ⟨by decide, hp⟩) (g := (mkF m 70 #[.val (.int p1), .val (.int p2), .val (.int p3), .val (.int p4), .val (.int p5), .val (.int (Int32.ofNat N)), .val (.ref a1), .val (.int E)] [(.int (p3.toInt8.toInt32)), (.int (2 : Int32)), (.ref a1)])) rfl rfl (hb hby at_70)
    have N4 := Fr.snoc X4 N0 g1
    refine own_go st4 ?_
    show own_Go p e below _ T4 (mkF m 71 #[.val (.int p1), .val (.int p2), .val (.int p3), .val (.int p4), .val (.int p5), .val (.int (Int32.ofNat N)), .val (.ref a1), .val (.int E)] [])
    rw [own_nar] at W4
    obtain ⟨cl', Ar', S', H1, H2⟩ := own_wrB Ar W4
    have K' : own_By Z h4 a1 N (own_put g 2 p3.toInt8.toInt32) := ⟨cl', Ar', S'.trans S, fun j hj => by
      by_cases q : j = 2
      · subst q; rw [own_put_eq]; exact H1
      · rw [own_put_ne _ _ q, H2 j q]; exact H j hj⟩
    have hsz : n0 ≤ h4.size := by rw [W4.size]; exact Z0
    refine own_go (fun _ k => XS.iload X4.here hx rfl (hb hby at_71) rfl  k) ?_
    show own_Go p e below _ T4 (mkF m 73 #[.val (.int p1), .val (.int p2), .val (.int p3), .val (.int p4), .val (.int p5), .val (.int (Int32.ofNat N)), .val (.ref a1), .val (.int E)] [(.int E)])
    refine own_go (fun _ k => XS.iloadN X4.here hx rfl (hb hby at_73) rfl  k) ?_
    show own_Go p e below _ T4 (mkF m 74 #[.val (.int p1), .val (.int p2), .val (.int p3), .val (.int p4), .val (.int p5), .val (.int (Int32.ofNat N)), .val (.ref a1), .val (.int E)] [(.int p3), (.int E)])
    obtain ⟨T5, v5, L5, X5, q5, st5⟩ := own_callS X4 hx hZ hown (y := (⟨"com/example/traceloom/traceloom/io/Utf8UnitsAtMostPinLaw", "weight", "(I)I"⟩ : MethodName)) (hw _ (List.mem_of_getElem? (i := 6) rfl)) (hw _ (List.mem_of_getElem? (i := 7) rfl)) (hw _ (List.mem_of_getElem? (i := 8) rfl)) (hw _ (List.mem_of_getElem? (i := 9) rfl)) (by decide) (rmW l Z a0 hw [] p3 h4 n0 hsz) (Ls := #[.val (.int p1), .val (.int p2), .val (.int p3), .val (.int p4), .val (.int p5), .val (.int (Int32.ofNat N)), .val (.ref a1), .val (.int E)]) (st := [(.int p3), (.int E)]) (W := 1) (by decide) (by decide) (by rw [hml]; rfl) (argsL := [(.int p3)]) (rest := [(.int E)]) (lenOf pd_1 rfl) rfl rfl (Nat.le_of_eq rfl) (hb hby at_74) e4 (by decide) (by decide)
    obtain ⟨rfl, N5', e5⟩ := q5
    have N5 := Fr.app N4 N5'
    refine own_go st5 ?_
    show own_Go p e below _ T5 (mkF m 77 #[.val (.int p1), .val (.int p2), .val (.int p3), .val (.int p4), .val (.int p5), .val (.int (Int32.ofNat N)), .val (.ref a1), .val (.int E)] [(.int (own_we p3)), (.int E)])
    refine own_go (fun _ k => XS.iadd X5.here hx rfl (hb hby at_77) rfl k) ?_
    show own_Go p e below _ T5 (mkF m 78 #[.val (.int p1), .val (.int p2), .val (.int p3), .val (.int p4), .val (.int p5), .val (.int (Int32.ofNat N)), .val (.ref a1), .val (.int E)] [(.int (E + (own_we p3)))])
    refine own_go (fun _ k => XS.istore X5.here hx rfl (hb hby at_78) rfl (l' := #[.val (.int p1), .val (.int p2), .val (.int p3), .val (.int p4), .val (.int p5), .val (.int (Int32.ofNat N)), .val (.ref a1), .val (.int (E + (own_we p3)))]) rfl k) ?_
    show own_Go p e below _ T5 (mkF m 80 #[.val (.int p1), .val (.int p2), .val (.int p3), .val (.int p4), .val (.int p5), .val (.int (Int32.ofNat N)), .val (.ref a1), .val (.int (E + (own_we p3)))] [])
    exact own_t3 p1 p2 p3 p4 p5 _ N _ a1 X5 hx hZ hw hby hml hown hret hlk e5 hsz N5 g1 hN K' (fun j q1 q2 => by
      by_cases q : j = 2
      · subst q; rw [own_put_eq]; rfl
      · rw [own_put_ne _ _ q]; exact hg j (by omega) q2) (by
      rw [hE, Nat.min_eq_left (show 2 ≤ N by omega), Nat.min_eq_left (show 3 ≤ N by omega), ← own_same]; rfl)
  · refine own_go (fun _ k => XS.icmpYes X0.here hx rfl (pc0 := 62) (pc' := 80) rfl (hb hby at_62) rfl (flt hp).2.2.2 (by decide) (by decide) k) ?_
    show own_Go p e below _ T0 (mkF m 80 #[.val (.int p1), .val (.int p2), .val (.int p3), .val (.int p4), .val (.int p5), .val (.int (Int32.ofNat N)), .val (.ref a1), .val (.int E)] [])
    have hk : ¬ 2 < N := fun q => hp ((own_ltI hN rfl).mpr q)
    exact own_t3 p1 p2 p3 p4 p5 _ N _ a1 X0 hx hZ hw hby hml hown hret hlk e0 Z0 N0 g1 hN K (fun j q1 q2 => hg j (by omega) q2) (by
      rw [hE, Nat.min_eq_right (show N ≤ 2 by omega), Nat.min_eq_right (show N ≤ 3 by omega)])
set_option maxRecDepth 65536 in
set_option maxHeartbeats 40000000 in
theorem own_t1 {p : Program} {l : Launch} {e : Env} {s : State} {m : MethodId} {args : Array Value} {below : List Frame} {meth : Method} {c : Code} {T0 : State} {locs : List Loc} {Z : State} {a0 : Array Value} {h0 : Heap} {n0 : Nat} (p1 p2 p3 p4 p5 E : Int32) (N : Nat) (g : Nat → Int32) (a1 : Addr) (X0 : Stand p l e room_1 s m args below meth c T0 locs 1 4)
    (hx : p.tables.exec = Jvm.exec) (hZ : Z.Warmed39 s.vm) (hw : ∀ d ∈ tables_1, d.before a0 Z = true) (hby : c.code = code) (hml : c.maxLocals = 8) (hown : s.vm.findClass "com/example/traceloom/traceloom/io/Utf8UnitsAtMostPinLaw" = some m.cls) (hret : meth.sig.returnType = some .boolean) (hlk : meth.locks = false) (e0 : T0.heap = h0) (Z0 : n0 ≤ h0.size) (N0 : Fr n0 locs) (g1 : n0 ≤ a1) (hN : N ≤ 4) (K : own_By Z h0 a1 N g) (hg : ∀ j, j < 1 → j < N → g j = (own_bb p1 p2 p3 p4) j) (hE : E = own_sum (own_bb p1 p2 p3 p4) (min 1 N)) :
    own_Go p e below (own_P (own_R (fun v _ L => v = some (.int 1) ∧ Fr n0 L)) room_1 s) T0 (mkF m 38 #[.val (.int p1), .val (.int p2), .val (.int p3), .val (.int p4), .val (.int p5), .val (.int (Int32.ofNat N)), .val (.ref a1), .val (.int E)] []) := by
  refine own_go (fun _ k => XS.iload X0.here hx rfl (hb hby at_38) rfl  k) ?_
  show own_Go p e below _ T0 (mkF m 40 #[.val (.int p1), .val (.int p2), .val (.int p3), .val (.int p4), .val (.int p5), .val (.int (Int32.ofNat N)), .val (.ref a1), .val (.int E)] [(.int (Int32.ofNat N))])
  refine own_go (fun _ k => XS.iconst X0.here hx rfl (hb hby at_40) k) ?_
  show own_Go p e below _ T0 (mkF m 41 #[.val (.int p1), .val (.int p2), .val (.int p3), .val (.int p4), .val (.int p5), .val (.int (Int32.ofNat N)), .val (.ref a1), .val (.int E)] [(.int (1 : Int32)), (.int (Int32.ofNat N))])
  by_cases hp : (1 : Int32) < (Int32.ofNat N)
  · refine own_go (fun _ k => XS.icmpNo X0.here hx rfl (hb hby at_41) rfl (tlt hp).2.2.2 k) ?_
    show own_Go p e below _ T0 (mkF m 44 #[.val (.int p1), .val (.int p2), .val (.int p3), .val (.int p4), .val (.int p5), .val (.int (Int32.ofNat N)), .val (.ref a1), .val (.int E)] [])
    have hk : 1 < N := (own_ltI hN rfl).mp hp
    obtain ⟨cl, Ar, S, H⟩ := K
    refine own_go (fun _ k => XS.aload X0.here hx rfl (hb hby at_44) rfl rfl k) ?_
    show own_Go p e below _ T0 (mkF m 46 #[.val (.int p1), .val (.int p2), .val (.int p3), .val (.int p4), .val (.int p5), .val (.int (Int32.ofNat N)), .val (.ref a1), .val (.int E)] [(.ref a1)])
    refine own_go (fun _ k => XS.iconst X0.here hx rfl (hb hby at_46) k) ?_
    show own_Go p e below _ T0 (mkF m 47 #[.val (.int p1), .val (.int p2), .val (.int p3), .val (.int p4), .val (.int p5), .val (.int (Int32.ofNat N)), .val (.ref a1), .val (.int E)] [(.int (1 : Int32)), (.ref a1)])
    refine own_go (fun _ k => XS.iloadN X0.here hx rfl (hb hby at_47) rfl  k) ?_
    show own_Go p e below _ T0 (mkF m 48 #[.val (.int p1), .val (.int p2), .val (.int p3), .val (.int p4), .val (.int p5), .val (.int (Int32.ofNat N)), .val (.ref a1), .val (.int E)] [(.int p2), (.int (1 : Int32)), (.ref a1)])
    refine own_go (fun _ k => XS.i2b X0.here hx rfl (hb hby at_48) rfl k) ?_
    show own_Go p e below _ T0 (mkF m 49 #[.val (.int p1), .val (.int p2), .val (.int p3), .val (.int p4), .val (.int p5), .val (.int (Int32.ofNat N)), .val (.ref a1), .val (.int E)] [(.int (p2.toInt8.toInt32)), (.int (1 : Int32)), (.ref a1)])
    obtain ⟨T6, h6, X6, e6, W6, st6⟩ := stB X0 hx hZ e0 Ar (j := (1 : Int32)) (inb_of S ⟨by decide, hp⟩) (g := (mkF m 49 #[.val (.int p1), .val (.int p2), .val (.int p3), .val (.int p4), .val (.int p5), .val (.int (Int32.ofNat N)), .val (.ref a1), .val (.int E)] [(.int (p2.toInt8.toInt32)), (.int (1 : Int32)), (.ref a1)])) rfl rfl (hb hby at_49)
    have N6 := Fr.snoc X6 N0 g1
    refine own_go st6 ?_
    show own_Go p e below _ T6 (mkF m 50 #[.val (.int p1), .val (.int p2), .val (.int p3), .val (.int p4), .val (.int p5), .val (.int (Int32.ofNat N)), .val (.ref a1), .val (.int E)] [])
    rw [own_nar] at W6
    obtain ⟨cl', Ar', S', H1, H2⟩ := own_wrB Ar W6
    have K' : own_By Z h6 a1 N (own_put g 1 p2.toInt8.toInt32) := ⟨cl', Ar', S'.trans S, fun j hj => by
      by_cases q : j = 1
      · subst q; rw [own_put_eq]; exact H1
      · rw [own_put_ne _ _ q, H2 j q]; exact H j hj⟩
    have hsz : n0 ≤ h6.size := by rw [W6.size]; exact Z0
    refine own_go (fun _ k => XS.iload X6.here hx rfl (hb hby at_50) rfl  k) ?_
    show own_Go p e below _ T6 (mkF m 52 #[.val (.int p1), .val (.int p2), .val (.int p3), .val (.int p4), .val (.int p5), .val (.int (Int32.ofNat N)), .val (.ref a1), .val (.int E)] [(.int E)])
    refine own_go (fun _ k => XS.iloadN X6.here hx rfl (hb hby at_52) rfl  k) ?_
    show own_Go p e below _ T6 (mkF m 53 #[.val (.int p1), .val (.int p2), .val (.int p3), .val (.int p4), .val (.int p5), .val (.int (Int32.ofNat N)), .val (.ref a1), .val (.int E)] [(.int p2), (.int E)])
    obtain ⟨T7, v7, L7, X7, q7, st7⟩ := own_callS X6 hx hZ hown (y := (⟨"com/example/traceloom/traceloom/io/Utf8UnitsAtMostPinLaw", "weight", "(I)I"⟩ : MethodName)) (hw _ (List.mem_of_getElem? (i := 6) rfl)) (hw _ (List.mem_of_getElem? (i := 7) rfl)) (hw _ (List.mem_of_getElem? (i := 8) rfl)) (hw _ (List.mem_of_getElem? (i := 9) rfl)) (by decide) (rmW l Z a0 hw [] p2 h6 n0 hsz) (Ls := #[.val (.int p1), .val (.int p2), .val (.int p3), .val (.int p4), .val (.int p5), .val (.int (Int32.ofNat N)), .val (.ref a1), .val (.int E)]) (st := [(.int p2), (.int E)]) (W := 1) (by decide) (by decide) (by rw [hml]; rfl) (argsL := [(.int p2)]) (rest := [(.int E)]) (lenOf pd_1 rfl) rfl rfl (Nat.le_of_eq rfl) (hb hby at_53) e6 (by decide) (by decide)
    obtain ⟨rfl, N7', e7⟩ := q7
    have N7 := Fr.app N6 N7'
    refine own_go st7 ?_
    show own_Go p e below _ T7 (mkF m 56 #[.val (.int p1), .val (.int p2), .val (.int p3), .val (.int p4), .val (.int p5), .val (.int (Int32.ofNat N)), .val (.ref a1), .val (.int E)] [(.int (own_we p2)), (.int E)])
    refine own_go (fun _ k => XS.iadd X7.here hx rfl (hb hby at_56) rfl k) ?_
    show own_Go p e below _ T7 (mkF m 57 #[.val (.int p1), .val (.int p2), .val (.int p3), .val (.int p4), .val (.int p5), .val (.int (Int32.ofNat N)), .val (.ref a1), .val (.int E)] [(.int (E + (own_we p2)))])
    refine own_go (fun _ k => XS.istore X7.here hx rfl (hb hby at_57) rfl (l' := #[.val (.int p1), .val (.int p2), .val (.int p3), .val (.int p4), .val (.int p5), .val (.int (Int32.ofNat N)), .val (.ref a1), .val (.int (E + (own_we p2)))]) rfl k) ?_
    show own_Go p e below _ T7 (mkF m 59 #[.val (.int p1), .val (.int p2), .val (.int p3), .val (.int p4), .val (.int p5), .val (.int (Int32.ofNat N)), .val (.ref a1), .val (.int (E + (own_we p2)))] [])
    exact own_t2 p1 p2 p3 p4 p5 _ N _ a1 X7 hx hZ hw hby hml hown hret hlk e7 hsz N7 g1 hN K' (fun j q1 q2 => by
      by_cases q : j = 1
      · subst q; rw [own_put_eq]; rfl
      · rw [own_put_ne _ _ q]; exact hg j (by omega) q2) (by
      rw [hE, Nat.min_eq_left (show 1 ≤ N by omega), Nat.min_eq_left (show 2 ≤ N by omega), ← own_same]; rfl)
  · refine own_go (fun _ k => XS.icmpYes X0.here hx rfl (pc0 := 41) (pc' := 59) rfl (hb hby at_41) rfl (flt hp).2.2.2 (by decide) (by decide) k) ?_
    show own_Go p e below _ T0 (mkF m 59 #[.val (.int p1), .val (.int p2), .val (.int p3), .val (.int p4), .val (.int p5), .val (.int (Int32.ofNat N)), .val (.ref a1), .val (.int E)] [])
    have hk : ¬ 1 < N := fun q => hp ((own_ltI hN rfl).mpr q)
    exact own_t2 p1 p2 p3 p4 p5 _ N _ a1 X0 hx hZ hw hby hml hown hret hlk e0 Z0 N0 g1 hN K (fun j q1 q2 => hg j (by omega) q2) (by
      rw [hE, Nat.min_eq_right (show N ≤ 1 by omega), Nat.min_eq_right (show N ≤ 2 by omega)])
set_option maxRecDepth 65536 in
set_option maxHeartbeats 40000000 in
theorem own_t0 {p : Program} {l : Launch} {e : Env} {s : State} {m : MethodId} {args : Array Value} {below : List Frame} {meth : Method} {c : Code} {T0 : State} {locs : List Loc} {Z : State} {a0 : Array Value} {h0 : Heap} {n0 : Nat} (p1 p2 p3 p4 p5 E : Int32) (N : Nat) (g : Nat → Int32) (a1 : Addr) (X0 : Stand p l e room_1 s m args below meth c T0 locs 1 4)
    (hx : p.tables.exec = Jvm.exec) (hZ : Z.Warmed39 s.vm) (hw : ∀ d ∈ tables_1, d.before a0 Z = true) (hby : c.code = code) (hml : c.maxLocals = 8) (hown : s.vm.findClass "com/example/traceloom/traceloom/io/Utf8UnitsAtMostPinLaw" = some m.cls) (hret : meth.sig.returnType = some .boolean) (hlk : meth.locks = false) (e0 : T0.heap = h0) (Z0 : n0 ≤ h0.size) (N0 : Fr n0 locs) (g1 : n0 ≤ a1) (hN : N ≤ 4) (K : own_By Z h0 a1 N g) (hg : ∀ j, j < 0 → j < N → g j = (own_bb p1 p2 p3 p4) j) (hE : E = own_sum (own_bb p1 p2 p3 p4) (min 0 N)) :
    own_Go p e below (own_P (own_R (fun v _ L => v = some (.int 1) ∧ Fr n0 L)) room_1 s) T0 (mkF m 18 #[.val (.int p1), .val (.int p2), .val (.int p3), .val (.int p4), .val (.int p5), .val (.int (Int32.ofNat N)), .val (.ref a1), .val (.int E)] []) := by
  refine own_go (fun _ k => XS.iload X0.here hx rfl (hb hby at_18) rfl  k) ?_
  show own_Go p e below _ T0 (mkF m 20 #[.val (.int p1), .val (.int p2), .val (.int p3), .val (.int p4), .val (.int p5), .val (.int (Int32.ofNat N)), .val (.ref a1), .val (.int E)] [(.int (Int32.ofNat N))])
  by_cases hp : (0 : Int32) < (Int32.ofNat N)
  · refine own_go (fun _ k => XS.ifNo X0.here hx rfl (hb hby at_20) rfl ((if0 _ _).trans (tlt hp).2.2.2) k) ?_
    show own_Go p e below _ T0 (mkF m 23 #[.val (.int p1), .val (.int p2), .val (.int p3), .val (.int p4), .val (.int p5), .val (.int (Int32.ofNat N)), .val (.ref a1), .val (.int E)] [])
    have hk : 0 < N := (own_ltI hN rfl).mp hp
    obtain ⟨cl, Ar, S, H⟩ := K
    refine own_go (fun _ k => XS.aload X0.here hx rfl (hb hby at_23) rfl rfl k) ?_
    show own_Go p e below _ T0 (mkF m 25 #[.val (.int p1), .val (.int p2), .val (.int p3), .val (.int p4), .val (.int p5), .val (.int (Int32.ofNat N)), .val (.ref a1), .val (.int E)] [(.ref a1)])
    refine own_go (fun _ k => XS.iconst X0.here hx rfl (hb hby at_25) k) ?_
    show own_Go p e below _ T0 (mkF m 26 #[.val (.int p1), .val (.int p2), .val (.int p3), .val (.int p4), .val (.int p5), .val (.int (Int32.ofNat N)), .val (.ref a1), .val (.int E)] [(.int (0 : Int32)), (.ref a1)])
    refine own_go (fun _ k => XS.iloadN X0.here hx rfl (hb hby at_26) rfl  k) ?_
    show own_Go p e below _ T0 (mkF m 27 #[.val (.int p1), .val (.int p2), .val (.int p3), .val (.int p4), .val (.int p5), .val (.int (Int32.ofNat N)), .val (.ref a1), .val (.int E)] [(.int p1), (.int (0 : Int32)), (.ref a1)])
    refine own_go (fun _ k => XS.i2b X0.here hx rfl (hb hby at_27) rfl k) ?_
    show own_Go p e below _ T0 (mkF m 28 #[.val (.int p1), .val (.int p2), .val (.int p3), .val (.int p4), .val (.int p5), .val (.int (Int32.ofNat N)), .val (.ref a1), .val (.int E)] [(.int (p1.toInt8.toInt32)), (.int (0 : Int32)), (.ref a1)])
    obtain ⟨T8, h8, X8, e8, W8, st8⟩ := stB X0 hx hZ e0 Ar (j := (0 : Int32)) (inb_of S ⟨by decide, hp⟩) (g := (mkF m 28 #[.val (.int p1), .val (.int p2), .val (.int p3), .val (.int p4), .val (.int p5), .val (.int (Int32.ofNat N)), .val (.ref a1), .val (.int E)] [(.int (p1.toInt8.toInt32)), (.int (0 : Int32)), (.ref a1)])) rfl rfl (hb hby at_28)
    have N8 := Fr.snoc X8 N0 g1
    refine own_go st8 ?_
    show own_Go p e below _ T8 (mkF m 29 #[.val (.int p1), .val (.int p2), .val (.int p3), .val (.int p4), .val (.int p5), .val (.int (Int32.ofNat N)), .val (.ref a1), .val (.int E)] [])
    rw [own_nar] at W8
    obtain ⟨cl', Ar', S', H1, H2⟩ := own_wrB Ar W8
    have K' : own_By Z h8 a1 N (own_put g 0 p1.toInt8.toInt32) := ⟨cl', Ar', S'.trans S, fun j hj => by
      by_cases q : j = 0
      · subst q; rw [own_put_eq]; exact H1
      · rw [own_put_ne _ _ q, H2 j q]; exact H j hj⟩
    have hsz : n0 ≤ h8.size := by rw [W8.size]; exact Z0
    refine own_go (fun _ k => XS.iload X8.here hx rfl (hb hby at_29) rfl  k) ?_
    show own_Go p e below _ T8 (mkF m 31 #[.val (.int p1), .val (.int p2), .val (.int p3), .val (.int p4), .val (.int p5), .val (.int (Int32.ofNat N)), .val (.ref a1), .val (.int E)] [(.int E)])
    refine own_go (fun _ k => XS.iloadN X8.here hx rfl (hb hby at_31) rfl  k) ?_
    show own_Go p e below _ T8 (mkF m 32 #[.val (.int p1), .val (.int p2), .val (.int p3), .val (.int p4), .val (.int p5), .val (.int (Int32.ofNat N)), .val (.ref a1), .val (.int E)] [(.int p1), (.int E)])
    obtain ⟨T9, v9, L9, X9, q9, st9⟩ := own_callS X8 hx hZ hown (y := (⟨"com/example/traceloom/traceloom/io/Utf8UnitsAtMostPinLaw", "weight", "(I)I"⟩ : MethodName)) (hw _ (List.mem_of_getElem? (i := 6) rfl)) (hw _ (List.mem_of_getElem? (i := 7) rfl)) (hw _ (List.mem_of_getElem? (i := 8) rfl)) (hw _ (List.mem_of_getElem? (i := 9) rfl)) (by decide) (rmW l Z a0 hw [] p1 h8 n0 hsz) (Ls := #[.val (.int p1), .val (.int p2), .val (.int p3), .val (.int p4), .val (.int p5), .val (.int (Int32.ofNat N)), .val (.ref a1), .val (.int E)]) (st := [(.int p1), (.int E)]) (W := 1) (by decide) (by decide) (by rw [hml]; rfl) (argsL := [(.int p1)]) (rest := [(.int E)]) (lenOf pd_1 rfl) rfl rfl (Nat.le_of_eq rfl) (hb hby at_32) e8 (by decide) (by decide)
    obtain ⟨rfl, N9', e9⟩ := q9
    have N9 := Fr.app N8 N9'
    refine own_go st9 ?_
    show own_Go p e below _ T9 (mkF m 35 #[.val (.int p1), .val (.int p2), .val (.int p3), .val (.int p4), .val (.int p5), .val (.int (Int32.ofNat N)), .val (.ref a1), .val (.int E)] [(.int (own_we p1)), (.int E)])
    refine own_go (fun _ k => XS.iadd X9.here hx rfl (hb hby at_35) rfl k) ?_
    show own_Go p e below _ T9 (mkF m 36 #[.val (.int p1), .val (.int p2), .val (.int p3), .val (.int p4), .val (.int p5), .val (.int (Int32.ofNat N)), .val (.ref a1), .val (.int E)] [(.int (E + (own_we p1)))])
    refine own_go (fun _ k => XS.istore X9.here hx rfl (hb hby at_36) rfl (l' := #[.val (.int p1), .val (.int p2), .val (.int p3), .val (.int p4), .val (.int p5), .val (.int (Int32.ofNat N)), .val (.ref a1), .val (.int (E + (own_we p1)))]) rfl k) ?_
    show own_Go p e below _ T9 (mkF m 38 #[.val (.int p1), .val (.int p2), .val (.int p3), .val (.int p4), .val (.int p5), .val (.int (Int32.ofNat N)), .val (.ref a1), .val (.int (E + (own_we p1)))] [])
    exact own_t1 p1 p2 p3 p4 p5 _ N _ a1 X9 hx hZ hw hby hml hown hret hlk e9 hsz N9 g1 hN K' (fun j q1 q2 => by
      by_cases q : j = 0
      · subst q; rw [own_put_eq]; rfl
      · rw [own_put_ne _ _ q]; exact hg j (by omega) q2) (by
      rw [hE, Nat.min_eq_left (show 0 ≤ N by omega), Nat.min_eq_left (show 1 ≤ N by omega), ← own_same]; rfl)
  · refine own_go (fun _ k => XS.ifYes X0.here hx rfl (pc0 := 20) (pc' := 38) rfl (hb hby at_20) rfl ((if0 _ _).trans (flt hp).2.2.2) (by decide) (by decide) k) ?_
    show own_Go p e below _ T0 (mkF m 38 #[.val (.int p1), .val (.int p2), .val (.int p3), .val (.int p4), .val (.int p5), .val (.int (Int32.ofNat N)), .val (.ref a1), .val (.int E)] [])
    have hk : ¬ 0 < N := fun q => hp ((own_ltI hN rfl).mpr q)
    exact own_t1 p1 p2 p3 p4 p5 _ N _ a1 X0 hx hZ hw hby hml hown hret hlk e0 Z0 N0 g1 hN K (fun j q1 q2 => hg j (by omega) q2) (by
      rw [hE, Nat.min_eq_right (show N ≤ 0 by omega), Nat.min_eq_right (show N ≤ 1 by omega)])
theorem ef_0 (m : MethodId) (x0 : Int32) (x1 : Int32) (x2 : Int32) (x3 : Int32) (x4 : Int32) : entryFrame m #[(.int x0), (.int x1), (.int x2), (.int x3), (.int x4)] maxLocals = mkF m 0 #[.val (.int x0), .val (.int x1), .val (.int x2), .val (.int x3), .val (.int x4), .unset, .unset, .unset] [] := by first | (simp [entryFrame, mkF, argsToLocals, Value.category, maxLocals]; done) | rfl
set_option maxRecDepth 65536 in
set_option maxHeartbeats 40000000 in
theorem rm0 (l : Launch) (Z : State) (a0 : Array Value) (hw : ∀ d ∈ tables_1, d.before a0 Z = true) (ws : List Jvm.Cond) (p1 : Int32) (p2 : Int32) (p3 : Int32) (p4 : Int32) (p5 : Int32) (h0 : Heap) (n0 : Nat) (Z0 : n0 ≤ h0.size)  :
    MetFree l x (head1 (Jvm.Cond.code x code maxLocals ret :: ws) room_1) (fun a U => a = #[(.int p1), (.int p2), (.int p3), (.int p4), (.int p5)] ∧ Z.Warmed39 U.vm ∧ U.heap = h0) (fun _ _ _ _ _ => True) (fun _ U o U' => ∃ v L, o = .returned v ∧ (own_R (fun v _ L => v = some (.int 1) ∧ Fr n0 L)) v U'.heap L ∧ FrameEnd U o U' L room_1.cells room_1.slots) := by
  refine MetFree.of_bodySF (plainFor_of_name pn_0) hisR ?_
  intro p e s m args below meth c s₁ Bd hml0 hP hK
  obtain ⟨rfl, hZ, hh⟩ := hP
  have hx := Bd.exec
  have hby := Bd.bytes
  have hml : c.maxLocals = 8 := hml0
  have hown : s.vm.findClass "com/example/traceloom/traceloom/io/Utf8UnitsAtMostPinLaw" = some m.cls := findClass_of_methodNamed Bd.named
  have hnm := (name_of_methodNamed Bd.named Bd.method).1
  have hret := Bd.returns
  have hlk : meth.locks = false := Bd.notSynchronized
  have X0 : Stand p l e room_1 s m #[(.int p1), (.int p2), (.int p3), (.int p4), (.int p5)] below meth c s₁ [] 0 0 := Stand.of_body Bd
  have e0 : s₁.heap = h0 := by rw [← hh, Bd.state]; rfl
  have N0 := Fr.nil n0
  show own_Go p e below (own_P (own_R (fun v _ L => v = some (.int 1) ∧ Fr n0 L)) room_1 s) s₁ (entryFrame m #[(.int p1), (.int p2), (.int p3), (.int p4), (.int p5)] maxLocals)
  rw [ef_0 m p1 p2 p3 p4 p5]
  show own_Go p e below _ s₁ (mkF m 0 #[.val (.int p1), .val (.int p2), .val (.int p3), .val (.int p4), .val (.int p5), .unset, .unset, .unset] [])
  refine own_go (fun _ k => XS.iload X0.here hx rfl (hb hby at_0) rfl  k) ?_
  show own_Go p e below _ s₁ (mkF m 2 #[.val (.int p1), .val (.int p2), .val (.int p3), .val (.int p4), .val (.int p5), .unset, .unset, .unset] [(.int p5)])
  refine own_go (fun _ k => X0.ldcInt hx hown (mvT hZ (hw _ (List.mem_of_getElem? (i := 0) rfl))) (g := (mkF m 2 #[.val (.int p1), .val (.int p2), .val (.int p3), .val (.int p4), .val (.int p5), .unset, .unset, .unset] [(.int p5)])) rfl (hb hby at_2) _ k) ?_
  show own_Go p e below _ s₁ (mkF m 4 #[.val (.int p1), .val (.int p2), .val (.int p3), .val (.int p4), .val (.int p5), .unset, .unset, .unset] [(.int (2147483647 : Int32)), (.int p5)])
  refine own_go (fun _ k => XS.iand X0.here hx rfl (hb hby at_4) rfl k) ?_
  show own_Go p e below _ s₁ (mkF m 5 #[.val (.int p1), .val (.int p2), .val (.int p3), .val (.int p4), .val (.int p5), .unset, .unset, .unset] [(.int (p5 &&& (2147483647 : Int32)))])
  refine own_go (fun _ k => XS.iconst X0.here hx rfl (hb hby at_5) k) ?_
  show own_Go p e below _ s₁ (mkF m 6 #[.val (.int p1), .val (.int p2), .val (.int p3), .val (.int p4), .val (.int p5), .unset, .unset, .unset] [(.int (5 : Int32)), (.int (p5 &&& (2147483647 : Int32)))])
  refine own_go (fun _ k => XS.irem X0.here hx rfl (hb hby at_6) rfl (by decide) k) ?_
  show own_Go p e below _ s₁ (mkF m 7 #[.val (.int p1), .val (.int p2), .val (.int p3), .val (.int p4), .val (.int p5), .unset, .unset, .unset] [(.int ((p5 &&& (2147483647 : Int32)) - ((p5 &&& (2147483647 : Int32)) / (5 : Int32)) * (5 : Int32)))])
  obtain ⟨N, hN, hm⟩ := own_len p5
  rw [hm]
  show own_Go p e below _ s₁ (mkF m 7 #[.val (.int p1), .val (.int p2), .val (.int p3), .val (.int p4), .val (.int p5), .unset, .unset, .unset] [(.int (Int32.ofNat N))])
  refine own_go (fun _ k => XS.istore X0.here hx rfl (hb hby at_7) rfl (l' := #[.val (.int p1), .val (.int p2), .val (.int p3), .val (.int p4), .val (.int p5), .val (.int (Int32.ofNat N)), .unset, .unset]) rfl k) ?_
  show own_Go p e below _ s₁ (mkF m 9 #[.val (.int p1), .val (.int p2), .val (.int p3), .val (.int p4), .val (.int p5), .val (.int (Int32.ofNat N)), .unset, .unset] [])
  refine own_go (fun _ k => XS.iload X0.here hx rfl (hb hby at_9) rfl  k) ?_
  show own_Go p e below _ s₁ (mkF m 11 #[.val (.int p1), .val (.int p2), .val (.int p3), .val (.int p4), .val (.int p5), .val (.int (Int32.ofNat N)), .unset, .unset] [(.int (Int32.ofNat N))])
  obtain ⟨T10, h10, k10, X10, e10, E10, A10, st10⟩ := newP X0 hx hZ (hw _ (List.mem_of_getElem? (i := 1) rfl)) e0 (g := (mkF m 11 #[.val (.int p1), .val (.int p2), .val (.int p3), .val (.int p4), .val (.int p5), .val (.int (Int32.ofNat N)), .unset, .unset] [(.int (Int32.ofNat N))])) rfl (hb hby at_11) rfl (own_nn hN) (cap := 4) (by rw [own_clamp hN]; exact hN) (by decide) (by decide) (by decide)
  obtain ⟨b10, g10⟩ : ∃ z, z = h0.size := ⟨_, rfl⟩
  rw [← g10] at A10 st10
  refine own_go st10 ?_
  show own_Go p e below _ T10 (mkF m 13 #[.val (.int p1), .val (.int p2), .val (.int p3), .val (.int p4), .val (.int p5), .val (.int (Int32.ofNat N)), .unset, .unset] [(.ref b10)])
  have g1 : n0 ≤ b10 := Nat.le_trans Z0 (Nat.le_of_eq g10.symm)
  have K : own_By Z h10 b10 N (fun _ => 0) := ⟨_, A10, sz_new _ _ _, fun j hj => by
    have : j < (Int32.ofNat N).toNatClampNeg := by rw [own_clamp hN]; exact hj
    simp [newA, this]; rfl⟩
  refine own_go (fun _ k => XS.astore X10.here hx rfl (hb hby at_13) rfl rfl (l' := #[.val (.int p1), .val (.int p2), .val (.int p3), .val (.int p4), .val (.int p5), .val (.int (Int32.ofNat N)), .val (.ref b10), .unset]) rfl k) ?_
  show own_Go p e below _ T10 (mkF m 15 #[.val (.int p1), .val (.int p2), .val (.int p3), .val (.int p4), .val (.int p5), .val (.int (Int32.ofNat N)), .val (.ref b10), .unset] [])
  refine own_go (fun _ k => XS.iconst X10.here hx rfl (hb hby at_15) k) ?_
  show own_Go p e below _ T10 (mkF m 16 #[.val (.int p1), .val (.int p2), .val (.int p3), .val (.int p4), .val (.int p5), .val (.int (Int32.ofNat N)), .val (.ref b10), .unset] [(.int (0 : Int32))])
  refine own_go (fun _ k => XS.istore X10.here hx rfl (hb hby at_16) rfl (l' := #[.val (.int p1), .val (.int p2), .val (.int p3), .val (.int p4), .val (.int p5), .val (.int (Int32.ofNat N)), .val (.ref b10), .val (.int (0 : Int32))]) rfl k) ?_
  show own_Go p e below _ T10 (mkF m 18 #[.val (.int p1), .val (.int p2), .val (.int p3), .val (.int p4), .val (.int p5), .val (.int (Int32.ofNat N)), .val (.ref b10), .val (.int (0 : Int32))] [])
  exact own_t0 p1 p2 p3 p4 p5 _ N _ b10 X10 hx hZ hw hby hml hown hret hlk e10 (Nat.le_trans Z0 E10.1) N0 g1 hN K (fun j q => absurd q (Nat.not_lt_zero j)) (by rw [Nat.zero_min]; rfl)
set_option maxRecDepth 65536 in
set_option maxHeartbeats 40000000 in
theorem comes_1 {Post : Tables → Env → Array Value → State → Outcome → State → Prop} (hpost : ∀ tb e args s v u, (limb_1_1.after args s (.returned v) u = true ∧ limb_1_2.after args s (.returned v) u = true ∧ True) → FrameEnd s (.returned v) u (Jvm.fieldLocs frame_1_writes args s ++ Jvm.arrayLocs frame_1_arrays args s ++ Jvm.staticLocs frame_1_statics s) 16 128 → Post tb e args s (.returned v) u) :
    ArmFor flags0 classFile x code maxLocals ret World_1 tables_1 room_1 Calls_1 rest_1 Pre_1 Post := by
  intro l hfl _ _ p e ha hc hk s m args below hf hA hF happ hP
  obtain ⟨hcalls, hrest, hpre⟩ := hP
  obtain ⟨-, -, -, hnamed, -, -, -, hat⟩ := (Spec.applies_iff hf).mp happ
  obtain ⟨hg, hn⟩ := and_e (Cond.before_iff.mp (show (Jvm.Cond.and given_1 narrow_1).before args s = true from hpre))
  obtain ⟨k0, g0⟩ := and_e hg
  obtain ⟨k1, g1⟩ := and_e g0
  obtain ⟨k2, g2⟩ := and_e g1
  obtain ⟨k3, g3⟩ := and_e g2
  obtain ⟨k4, g4⟩ := and_e g3
  obtain ⟨w0, w1, w2, w3, w4, rfl⟩ : ∃ w0 w1 w2 w3 w4 : Value, args = #[w0, w1, w2, w3, w4] := by
    have hs : args.size = 5 := by simpa [Cond.value, given_1] using k0
    obtain ⟨L⟩ := args
    match L, hs with
    | [w0, w1, w2, w3, w4], _ => exact ⟨w0, w1, w2, w3, w4, rfl⟩
  have hw := fun d (hd : d ∈ tables_1) => atoms_spec (ws := Jvm.Cond.code x code maxLocals ret :: tables_1) hat d (List.mem_cons_of_mem _ hd)
  obtain ⟨i0, ei0⟩ := is_v k1
  obtain rfl : w0 = (.int i0) := Option.some.inj ei0
  obtain ⟨i1, ei1⟩ := is_v k2
  obtain rfl : w1 = (.int i1) := Option.some.inj ei1
  obtain ⟨i2, ei2⟩ := is_v k3
  obtain rfl : w2 = (.int i2) := Option.some.inj ei2
  obtain ⟨i3, ei3⟩ := is_v k4
  obtain rfl : w3 = (.int i3) := Option.some.inj ei3
  obtain ⟨i4, ei4⟩ := is_v g4
  obtain rfl : w4 = (.int i4) := Option.some.inj ei4
  obtain ⟨n, o, h1, h2, h3, _, L, rfl, ⟨rfl, N⟩, hq⟩ := rm0 l s _ hw tables_1 i0 i1 i2 i3 i4 s.heap s.heap.size (Nat.le_refl _) p e ha hc hk s m _ below hf ((Spec.applies_iff_loose hf).mp happ).1 ⟨rfl, State.Warmed39.refl s, rfl⟩ trivial
  refine ⟨n, _, h1, h2, h3, hpost _ _ _ _ _ _ ⟨Cond.after_iff.mpr rfl, Cond.after_iff.mpr (eq_i res_at (Term.int_eval (1)) rfl), trivial⟩ ⟨hq.1, hq.2.1, (hq.2.2.sift fun y hy => Or.inr (N y hy)).mono (by decide) (by decide)⟩⟩
theorem main_1_1 : Claimed_1_1 := comes_1 fun _ _ _ _ _ _ h hF => ⟨h.1, hF⟩
theorem main_1_2 : Claimed_1_2 := comes_1 fun _ _ _ _ _ _ h hF => ⟨h.2.1, hF⟩
end Jvm.Pilot.@@N@@
namespace Jvm.Pilot.@@N@@
open Jvm Jvm.ClassFile Sem Op Lib Jvm.Free Jvm.Stand Jvm.Pilot.@@N@@.Jvm.D
/-! MADE BY PROGRAM (witnessworld.py) out of the Statement's table words and the real class files: 9 classes; the members and pool entries that the words name. The judged class is class 1, her method 2. -/
namespace start1
open Jvm.ClassFile
def u (s : String) : CpInfo := .utf8 (stringToUtf16 s)
/-- a pool by its gaps: so many unusable entries, then the entry; so many at the end -/
def gap : Nat → List CpInfo → List CpInfo
  | 0, r => r
  | n + 1, r => .unusable :: gap n r
def poolList (es : List (Nat × CpInfo)) (last : Nat) : List CpInfo := es.foldr (fun e r => gap e.1 (e.2 :: r)) (gap last [])
def pool (es : List (Nat × CpInfo)) (last : Nat) : Array CpInfo := ⟨poolList es last⟩
def fileOf (pool : Array CpInfo) (this : Nat) (attrs : Array Attribute := #[]) (ms : Array MethodInfo := #[]) (fl : Nat := 33) (sup : Nat := 0) (ifs : Array Nat := #[]) (fds : Array FieldInfo := #[]) : ClassFile where
  minorVersion := 0
  majorVersion := 65
  constantPool := pool
  accessFlags := fl
  thisClass := this
  superClass := sup
  interfaces := ifs
  fields := fds
  methods := ms
  attributes := attrs
def plain (name : String) (sup : Option ClassId) : Class where
  name := name
  kind := .ordinary
  loader := none
  accessFlags := 33
  super := sup
  interfaces := #[]
  cf := none
  fields := #[]
  methods := #[]
  instanceTypes := #[]
  staticTypes := #[]
  resolved := #[]
  callSites := []
  init := .initialized
  statics := none
  mirror := none

def pool0 : Array CpInfo := pool [(5, u "<init>"), (0, u "()V"), (1, .class_ 10), (1, u "java/lang/Object")] 113

def k0m0 : Method := { name := "<init>", desc := "()V", sig := { parameters := [], returnType := none }, accessFlags := 1, code := none }
/-- java/lang/Object -/
def k0 : Class := { plain "java/lang/Object" none with
  accessFlags := 33
  interfaces := #[]
  cf := some (fileOf pool0 8 #[] #[{ accessFlags := 1, nameIndex := 5, descriptorIndex := 6, attributes := #[] }] 33 0 #[] #[])
  fields := #[]
  methods := #[k0m0]
  instanceTypes := #[]
  staticTypes := #[]
  resolved := Array.replicate 124 none
  statics := none }

def pool1 : Array CpInfo := pool [(2, .class_ 4), (1, u "java/lang/Object"), (0, u "<init>"), (0, u "()V"), (0, .integer 2147483647), (0, .methodref 9 10), (0, .class_ 11), (0, .nameAndType 12 13), (0, u "com/example/traceloom/traceloom/io/Utf8UnitsAtMostPinLaw"), (0, u "weight"), (0, u "(I)I"), (0, .methodref 15 16), (0, .class_ 17), (0, .nameAndType 18 19), (0, u "com/example/traceloom/traceloom/io/Utf8"), (0, u "unitsAtMost"), (0, u "([B)I"), (3, u "law"), (0, u "(IIIII)Z")] 4

def k1m0 : Method := { name := "<init>", desc := "()V", sig := { parameters := [], returnType := none }, accessFlags := 2, code := none }
def k1c1 : Code := { maxStack := 2, maxLocals := 2, code := method_2_code, exceptionTable := #[], attributes := #[] }
def k1m1 : Method := { name := "weight", desc := "(I)I", sig := { parameters := [.int], returnType := some .int }, accessFlags := 10, code := some k1c1 }
def k1c2 : Code := { maxStack := 3, maxLocals := 8, code := code, exceptionTable := #[], attributes := #[] }
def k1m2 : Method := { name := "law", desc := "(IIIII)Z", sig := { parameters := [.int, .int, .int, .int, .int], returnType := some .boolean }, accessFlags := 9, code := some k1c2 }
/-- com/example/traceloom/traceloom/io/Utf8UnitsAtMostPinLaw -/
def k1 : Class := { plain "com/example/traceloom/traceloom/io/Utf8UnitsAtMostPinLaw" (some 0) with
  accessFlags := 49
  interfaces := #[]
  cf := some (fileOf pool1 9 #[] #[{ accessFlags := 2, nameIndex := 5, descriptorIndex := 6, attributes := #[] }, { accessFlags := 10, nameIndex := 12, descriptorIndex := 13, attributes := #[] }, { accessFlags := 9, nameIndex := 23, descriptorIndex := 24, attributes := #[] }] 49 2 #[] #[])
  fields := #[]
  methods := #[k1m0, k1m1, k1m2]
  instanceTypes := #[]
  staticTypes := #[]
  resolved := Array.replicate 29 none
  statics := none }

def pool2 : Array CpInfo := pool [(2, .class_ 4), (1, u "java/lang/Object"), (0, u "<init>"), (0, u "()V"), (29, .class_ 38), (1, u "com/example/traceloom/traceloom/io/Utf8"), (45, u "unitsAtMost"), (0, u "([B)I")] 24

def k2m0 : Method := { name := "<init>", desc := "()V", sig := { parameters := [], returnType := none }, accessFlags := 2, code := none }
def k2c1 : Code := { maxStack := 3, maxLocals := 6, code := prog_84_method_3_code, exceptionTable := #[], attributes := #[] }
def k2m1 : Method := { name := "unitsAtMost", desc := "([B)I", sig := { parameters := [(.array .byte)], returnType := some .int }, accessFlags := 9, code := some k2c1 }
/-- com/example/traceloom/traceloom/io/Utf8 -/
def k2 : Class := { plain "com/example/traceloom/traceloom/io/Utf8" (some 0) with
  accessFlags := 49
  interfaces := #[]
  cf := some (fileOf pool2 36 #[] #[{ accessFlags := 2, nameIndex := 5, descriptorIndex := 6, attributes := #[] }, { accessFlags := 9, nameIndex := 84, descriptorIndex := 85, attributes := #[] }] 49 2 #[] #[])
  fields := #[]
  methods := #[k2m0, k2m1]
  instanceTypes := #[]
  staticTypes := #[]
  resolved := Array.replicate 110 none
  statics := none }

def pool3 : Array CpInfo := pool [(1, u "java/lang/Cloneable"), (0, .class_ 1), (0, u "java/lang/Object"), (0, .class_ 3)] 3

/-- java/lang/Cloneable -/
def k3 : Class := { plain "java/lang/Cloneable" (some 0) with
  accessFlags := 1537
  interfaces := #[]
  cf := some (fileOf pool3 2 #[] #[] 1537 4 #[] #[])
  fields := #[]
  methods := #[]
  instanceTypes := #[]
  staticTypes := #[]
  resolved := Array.replicate 8 none
  statics := none }

def pool4 : Array CpInfo := pool [(1, u "java/io/Serializable"), (0, .class_ 1), (0, u "java/lang/Object"), (0, .class_ 3)] 3

/-- java/io/Serializable -/
def k4 : Class := { plain "java/io/Serializable" (some 0) with
  accessFlags := 1537
  interfaces := #[]
  cf := some (fileOf pool4 2 #[] #[] 1537 4 #[] #[])
  fields := #[]
  methods := #[]
  instanceTypes := #[]
  staticTypes := #[]
  resolved := Array.replicate 8 none
  statics := none }

/-- the primitive byte -/
def k5 : Class := { plain "byte" none with kind := .primitive 'B', accessFlags := 0x411 }
/-- [B -/
def k6 : Class := { plain "[B" (some 0) with kind := .array 5 .byte, interfaces := #[3, 4], accessFlags := 1041 }

/-- the primitive int -/
def k7 : Class := { plain "int" none with kind := .primitive 'I', accessFlags := 0x411 }
/-- [I -/
def k8 : Class := { plain "[I" (some 0) with kind := .array 7 .int, interfaces := #[3, 4], accessFlags := 1041 }

def heap : Heap := #[]
def classes : Array Class := #[k0, k1, k2, k3, k4, k5, k6, k7, k8]
def interned : List (Array UInt16 × Addr) := []
def slotsUsed : Nat := 0
def theMethod : MethodId := ⟨1, 2⟩
def args0 : Array Value := #[.int 5, .int 3, .int 7, .int 9, .int 2]
def aboutOver (below : List Frame) : State where
  vm := { classes := classes, interned := interned.toArray }
  heap := heap
  slotsUsed := slotsUsed
  threads := #[{ frames := .invoking theMethod args0 :: below }]
def below0 : List Frame := [.native { method := ⟨0, 0⟩, args := #[] }]
def about1 : State := aboutOver below0
def p0 : Program := .bare "" "" ""
def e0 : Env := launch0.env 0 0 0
theorem w_frames : about1.frames = Frame.invoking theMethod args0 :: below0 := rfl
set_option maxRecDepth 65536 in
theorem w_args : argsFit about1.vm theMethod args0 = true := by decide +kernel
set_option maxRecDepth 65536 in
theorem w_heap : heapFits about1 = true := by decide +kernel
set_option maxRecDepth 65536 in
theorem w_runnable : about1.curStatus? = some .runnable := by decide +kernel
set_option maxRecDepth 65536 in
theorem w_alone : about1.alone = true := by decide +kernel
set_option maxRecDepth 65536 in
theorem w_named : about1.methodNamed? x = some theMethod := by decide +kernel
set_option maxRecDepth 65536 in
theorem w_hears : about1.hears theMethod below0 = true := by decide +kernel
set_option maxRecDepth 65536 in
theorem w_ripe : about1.ripe theMethod args0 below0 = true := by decide +kernel
theorem w_running : about1.status = .running := rfl
set_option maxRecDepth 65536 in
theorem w_room : about1.hasRoom e0.platform room_1 = true :=
  launch0.hasRoom_least _ room_1 (by decide +kernel) (by decide +kernel) (by decide +kernel) (by decide +kernel) (by decide +kernel) (by decide +kernel)
theorem allAtoms_all (ts : List Jvm.Cond) (a : Array Jvm.Value) (st : Jvm.State) : (allAtoms ts).before a st = ts.all (fun c => c.before a st) := by
  induction ts with
  | nil => rfl
  | cons c t ih =>
    show (Jvm.Cond.and c (allAtoms t)).before a st = _
    rw [Jvm.Cond.before_and, ih, List.all_cons]
def words1 : List Jvm.Cond := Jvm.Cond.code x code maxLocals ret :: tables_1
/-- a 'code' word, met by the world's own term for the bytes: nothing is compared byte by byte -/
theorem code_word {y : MethodName} {bytes : ByteArray} {mx : Nat} {rt : Option FieldType} {a : Array Value} {s : State} {m : MethodId} {meth : Method} {c : Code} (h1 : s.methodNamed? y = some m) (h2 : s.vm.method? m = some meth) (h3 : meth.code = some c) (h4 : c.code = bytes)
    (h5 : (c.maxLocals == mx && c.exceptionTable.isEmpty && decide (c.maxStack ≤ mostOperands) && decide (meth.sig.returnType = rt) && !meth.locks && decide (parseMethodDescriptor y.desc = some meth.sig)) = true) : (Jvm.Cond.code y bytes mx rt).before a s = true := by
  simp only [Bool.and_eq_true, beq_iff_eq, Bool.not_eq_true', decide_eq_true_eq] at h5
  obtain ⟨⟨⟨⟨⟨g1, g2⟩, g3⟩, g4⟩, g5⟩, g6⟩ := h5
  simp [Cond.before, Cond.holds, Cond.value, h1, h2, h3, h4, g1, g2, g3, g4, g5, g6]
def isCode : Jvm.Cond → Bool
  | .code _ _ _ _ => true
  | _ => false
theorem all_split {L : List Jvm.Cond} {P : Jvm.Cond → Bool} (h1 : L.all (fun c => isCode c || P c) = true) (h2 : ∀ c ∈ L.filter isCode, P c = true) : L.all P = true := by
  refine List.all_eq_true.mpr fun c hc => ?_
  have h := List.all_eq_true.mp h1 c hc
  rcases Bool.eq_false_or_eq_true (isCode c) with hi | hi
  · exact h2 c (List.mem_filter.mpr ⟨hc, hi⟩)
  · simpa [hi] using h
set_option maxRecDepth 65536 in
theorem w_c0 : (Jvm.Cond.code x code maxLocals ret).before args0 about1 = true := code_word (m := ⟨1, 2⟩) (meth := k1m2) (c := k1c2) (by decide +kernel) rfl rfl rfl (by decide +kernel)
set_option maxRecDepth 65536 in
theorem w_c1 : (Jvm.Cond.code ({ cls := "com/example/traceloom/traceloom/io/Utf8", name := "unitsAtMost", desc := "([B)I" } : Jvm.MethodName) prog_84_method_3_code (6 : Nat) (Option.some Jvm.ClassFile.FieldType.int)).before args0 about1 = true := code_word (m := ⟨2, 1⟩) (meth := k2m1) (c := k2c1) (by decide +kernel) rfl rfl rfl (by decide +kernel)
set_option maxRecDepth 65536 in
theorem w_c2 : (Jvm.Cond.code ({ cls := "com/example/traceloom/traceloom/io/Utf8UnitsAtMostPinLaw", name := "weight", desc := "(I)I" } : Jvm.MethodName) method_2_code (2 : Nat) (Option.some Jvm.ClassFile.FieldType.int)).before args0 about1 = true := code_word (m := ⟨1, 1⟩) (meth := k1m1) (c := k1c1) (by decide +kernel) rfl rfl rfl (by decide +kernel)
def codes1 : List Jvm.Cond := [Jvm.Cond.code x code maxLocals ret, Jvm.Cond.code ({ cls := "com/example/traceloom/traceloom/io/Utf8", name := "unitsAtMost", desc := "([B)I" } : Jvm.MethodName) prog_84_method_3_code (6 : Nat) (Option.some Jvm.ClassFile.FieldType.int), Jvm.Cond.code ({ cls := "com/example/traceloom/traceloom/io/Utf8UnitsAtMostPinLaw", name := "weight", desc := "(I)I" } : Jvm.MethodName) method_2_code (2 : Nat) (Option.some Jvm.ClassFile.FieldType.int)]
set_option maxRecDepth 65536 in
theorem codes_eq : words1.filter isCode = codes1 := rfl
theorem w_codes : ∀ c ∈ words1.filter isCode, c.before args0 about1 = true := by
  rw [codes_eq]
  intro c hc
  simp only [codes1, List.mem_cons, List.not_mem_nil, or_false] at hc
  rcases hc with rfl | rfl | rfl
  · exact w_c0
  · exact w_c1
  · exact w_c2
set_option maxRecDepth 65536 in
theorem w_t1 : words1.all (fun c => isCode c || c.before args0 about1) = true := by decide +kernel
theorem w_tables : (allAtoms (Jvm.Cond.code x code maxLocals ret :: tables_1)).before args0 about1 = true := by
  rw [allAtoms_all]
  show words1.all (fun c => c.before args0 about1) = true
  refine all_split ?_ w_codes
  rw [w_t1]
set_option maxRecDepth 65536 in
theorem w_case : (Jvm.Cond.and given_1 narrow_1).before args0 about1 = true := by decide +kernel
theorem w_applies : (headSpec (Jvm.Cond.code x code maxLocals ret :: tables_1) room_1).applies x e0.platform about1 = true :=
  (Spec.applies_iff w_frames).mpr ⟨w_running, w_runnable, w_alone, w_named, w_hears, w_ripe, w_room, w_tables⟩
theorem atStart : AtStart classFile x code maxLocals ret World_1 tables_1 room_1 Calls_1 rest_1 Pre_1 launch0 p0 e0 about1 theMethod args0 below0 :=
  ⟨lists_1, trivial, launch0.admits_env _ _ _, launch0.least_env, fairChoices_fair.cas, fairChoices_fair.clock, w_frames, w_args, w_heap, w_applies, trivial, trivial, w_case⟩
end start1
theorem witness_1 : WitnessClaimed_1 := ⟨start1.p0, start1.e0, start1.about1, start1.theMethod, start1.args0, start1.below0, start1.atStart⟩
end Jvm.Pilot.@@N@@
