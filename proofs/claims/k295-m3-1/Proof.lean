import JvmDerived
import JvmDerived.Pilot.@@N@@Statement
import JvmDerived.Pilot.@@N@@Code
set_option linter.unusedVariables false
set_option linter.unusedSimpArgs false
namespace Jvm.Pilot.@@N@@
open Jvm Jvm.ClassFile Sem Op Lib Jvm.Free Jvm.Stand Jvm.LawKit Jvm.RoadKit Bundle Jvm.Pilot.@@N@@.Jvm.D
section Own
variable {p : Program} {l : Launch} {e : Env} {R : Room} {s : State} {m : MethodId} {args : Array Value} {below : List Frame} {meth : Method} {c : Code} {T : State} {locs : List Loc} {cells slots : Nat} {Z : State} {a0 : Array Value} {h : Heap}
/-- from this frame on the run ends, and P holds at the end -/
def own_Go (p : Program) (e : Env) (below : List Frame) (P : Outcome → State → Prop) (T : State) (f : JFrame) : Prop :=
  ∃ s₂ o, Steps p.tables e below (T.setTop f) s₂ ∧ s₂.status = .running ∧ Ended s₂ below o ∧ P o s₂
theorem own_go {P : Outcome → State → Prop} {T T' : State} {f f' : JFrame} (st : ∀ target, Steps p.tables e below (T'.setTop f') target → Steps p.tables e below (T.setTop f) target) (hg : own_Go p e below P T' f') : own_Go p e below P T f := by
  obtain ⟨s₂, o, h1, h2⟩ := hg
  exact ⟨s₂, o, st _ h1, h2⟩
/-- what a contract says of the end -/
def own_P (Q : Option Value → Heap → List Loc → Prop) (rm : Room) (s : State) (o : Outcome) (U : State) : Prop :=
  ∃ v L, o = .returned v ∧ Q v U.heap L ∧ FrameEnd s o U L rm.cells rm.slots
/-- a contract of a body that writes nothing and returns v -/
def own_pure (v : Option Value) (h0 : Heap) (n0 : Nat) (w : Option Value) (h : Heap) (L : List Loc) : Prop := w = v ∧ Fr n0 L ∧ h = h0
/-- a contract's word, held together -/
def own_R (Q : Option Value → Heap → List Loc → Prop) : Option Value → Heap → List Loc → Prop := Q
theorem own_endZ {Q : Option Value → Heap → List Loc → Prop} (X : Stand p l e R s m args below meth c T locs cells slots) (hx : p.tables.exec = Jvm.exec) (hret : meth.sig.returnType = some .boolean) (hlk : meth.locks = false) {pc : Nat} {Ls : Array Slot} {z : Int32} {rest : List Value}
    (hd : decode c.code pc = .ok (.ireturn, 1)) (hn : narrow .boolean (.int z) = .int z) (hc : cells ≤ R.cells) (hs : slots ≤ R.slots) (hQ : Q (some (.int z)) T.heap locs) : own_Go p e below (own_P Q R s) T (mkF m pc Ls (.int z :: rest)) := by
  obtain ⟨fs, hr, hrun, hended, hW, hsame⟩ := X.leave (v := some (.int z)) (fun h => by rw [hret] at h; cases h) hlk
  exact ⟨_, _, retOut X hx hret hn (Or.inl ⟨rfl, Or.inr (Or.inl rfl), z, rfl⟩) hd hr, hrun, hended, _, _, rfl, hQ, ⟨_, rfl⟩, hW, hsame.mono hc hs⟩
theorem own_endI {Q : Option Value → Heap → List Loc → Prop} (X : Stand p l e R s m args below meth c T locs cells slots) (hx : p.tables.exec = Jvm.exec) (hret : meth.sig.returnType = some .int) (hlk : meth.locks = false) {pc : Nat} {Ls : Array Slot} {z : Int32} {rest : List Value}
    (hd : decode c.code pc = .ok (.ireturn, 1)) (hc : cells ≤ R.cells) (hs : slots ≤ R.slots) (hQ : Q (some (.int z)) T.heap locs) : own_Go p e below (own_P Q R s) T (mkF m pc Ls (.int z :: rest)) := by
  obtain ⟨fs, hr, hrun, hended, hW, hsame⟩ := X.leave (v := some (.int z)) (fun h => by rw [hret] at h; cases h) hlk
  exact ⟨_, _, retOut X hx hret rfl (Or.inl ⟨rfl, Or.inl rfl, z, rfl⟩) hd hr, hrun, hended, _, _, rfl, hQ, ⟨_, rfl⟩, hW, hsame.mono hc hs⟩
theorem own_endJ {Q : Option Value → Heap → List Loc → Prop} (X : Stand p l e R s m args below meth c T locs cells slots) (hx : p.tables.exec = Jvm.exec) (hret : meth.sig.returnType = some .long) (hlk : meth.locks = false) {pc : Nat} {Ls : Array Slot} {z : Int64} {rest : List Value}
    (hd : decode c.code pc = .ok (.lreturn, 1)) (hc : cells ≤ R.cells) (hs : slots ≤ R.slots) (hQ : Q (some (.long z)) T.heap locs) : own_Go p e below (own_P Q R s) T (mkF m pc Ls (.long z :: rest)) := by
  obtain ⟨fs, hr, hrun, hended, hW, hsame⟩ := X.leave (v := some (.long z)) (fun h => by rw [hret] at h; cases h) hlk
  exact ⟨_, _, retOut X hx hret rfl (Or.inr (Or.inl ⟨rfl, rfl, z, rfl⟩)) hd hr, hrun, hended, _, _, rfl, hQ, ⟨_, rfl⟩, hW, hsame.mono hc hs⟩
theorem own_endA {Q : Option Value → Heap → List Loc → Prop} {t : FieldType} (X : Stand p l e R s m args below meth c T locs cells slots) (hx : p.tables.exec = Jvm.exec) (hret : meth.sig.returnType = some t) (ht : t.isReference = true) (hlk : meth.locks = false) {pc : Nat} {Ls : Array Slot} {a : Addr} {rest : List Value}
    (hd : decode c.code pc = .ok (.areturn, 1)) (hn : narrow t (.ref a) = .ref a) (hc : cells ≤ R.cells) (hs : slots ≤ R.slots) (hQ : Q (some (.ref a)) T.heap locs) : own_Go p e below (own_P Q R s) T (mkF m pc Ls (.ref a :: rest)) := by
  obtain ⟨fs, hr, hrun, hended, hW, hsame⟩ := X.leave (v := some (.ref a)) (fun h => by rw [hret] at h; cases h) hlk
  exact ⟨_, _, retOut X hx hret hn (Or.inr (Or.inr (Or.inr (Or.inr ⟨rfl, ht, rfl⟩)))) hd hr, hrun, hended, _, _, rfl, hQ, ⟨_, rfl⟩, hW, hsame.mono hc hs⟩
theorem own_endV {Q : Option Value → Heap → List Loc → Prop} (X : Stand p l e R s m args below meth c T locs cells slots) (hx : p.tables.exec = Jvm.exec) (hret : meth.sig.returnType = none) (hlk : meth.locks = false) {pc : Nat} {Ls : Array Slot}
    (hd : decode c.code pc = .ok (.return_, 1)) (hc : cells ≤ R.cells) (hs : slots ≤ R.slots) (hQ : Q none T.heap locs) : own_Go p e below (own_P Q R s) T (mkF m pc Ls []) := by
  obtain ⟨fs, hr, hrun, hended, hW, hsame⟩ := X.leave (v := none) (fun _ => rfl) hlk
  exact ⟨_, _, X.returnOut hx hret hd hr, hrun, hended, _, _, rfl, hQ, ⟨_, rfl⟩, hW, hsame.mono hc hs⟩
/-- a static call, paid by the callee's contract -/
theorem own_callS (X : Stand p l e R s m args below meth c T locs cells slots) (hx : p.tables.exec = Jvm.exec) (hZ : Z.Warmed39 s.vm) {own : String} {index : Nat} {y : MethodName} {bytes : ByteArray} {maxL : Nat} {ret : Option FieldType} (hown : s.vm.findClass own = some m.cls)
    (w1 : (Cond.methodLink own index y).before a0 Z = true) (w2 : (Cond.static y).before a0 Z = true) (w3 : (Cond.initialized y.cls).before a0 Z = true) (w4 : (Cond.code y bytes maxL ret).before a0 Z = true) (hy : y.cls ≠ "java/lang/invoke/MethodHandle" ∧ y.cls ≠ "java/lang/invoke/VarHandle")
    {rm : Room} {as' : Array Value} {Q : Option Value → Heap → List Loc → Prop}
    (hM : MetFree l y (head1 [Cond.code y bytes maxL ret] rm) (fun a U => a = as' ∧ Z.Warmed39 U.vm ∧ U.heap = h) (fun _ _ _ _ _ => True) (fun _ U o U' => ∃ v L, o = .returned v ∧ Q v U'.heap L ∧ FrameEnd U o U' L rm.cells rm.slots))
    {Ls : Array Slot} {st : List Value} {W : Nat} (hf : rm.frames + 1 ≤ R.frames) (hl : W + (maxL + 11) + rm.locals ≤ R.locals) {pc : Nat} (hsize : Ls.size = c.maxLocals) {argsL rest : List Value} (hlen : ∀ sig, parseMethodDescriptor y.desc = some sig → argsL.length = sig.parameters.length)
    (has : argsL.toArray = as') (hstack : st = argsL.reverse ++ rest) (hW : (rest.map fun v => v.category).sum ≤ W) (hd : decode c.code pc = .ok (.invokestatic index, 3)) (eT : T.heap = h) (hc : cells + rm.cells ≤ R.cells) (hs : slots + rm.slots ≤ R.slots) :
    ∃ T' v L, Stand p l e R s m args below meth c T' (locs ++ L) (cells + rm.cells) (slots + rm.slots) ∧ Q v T'.heap L ∧ ∀ target, Steps p.tables e below (T'.setTop (mkF m (pc + 3) Ls (v.toList ++ rest))) target → Steps p.tables e below (T.setTop (mkF m pc Ls st)) target := by
  obtain ⟨v, _, ⟨T', L', k', n'⟩, -, X', ⟨L, hQ, l1, l2, l3⟩, st'⟩ := Jvm.LawKit.callS X hx (y := y) hown (mvT hZ w1) (mvT hZ w2) (mvT hZ w3) (mvT hZ w4) hy (backOf (W := W) hM hZ w4 w3 hf hl) (g := mkF m pc Ls st) rfl hsize (argsL := argsL) (rest := rest) hlen hstack (by show 2 * 0 + _ ≤ _; omega) hd (fun _ _ => ⟨has, eT, hc, hs⟩)
  dsimp only [Pt.U, Pt.locs, Pt.cells, Pt.slots] at X' l1 l2 l3 st' hQ
  subst l1 l2 l3
  exact ⟨T', v, L, X', hQ, st'⟩
/-- a constructor's call, paid by its contract -/
theorem own_callC (X : Stand p l e R s m args below meth c T locs cells slots) (hx : p.tables.exec = Jvm.exec) (hZ : Z.Warmed39 s.vm) {own : String} {index : Nat} {y : MethodName} {bytes : ByteArray} {maxL : Nat} (hy1 : y.name = "<init>") (hown : s.vm.findClass own = some m.cls)
    (w1 : (Cond.methodLink own index y).before a0 Z = true) (w2 : (Cond.instanceMethod y).before a0 Z = true) (w3 : (Cond.initialized y.cls).before a0 Z = true) (w4 : (Cond.code y bytes maxL none).before a0 Z = true) (hy : y.cls ≠ "java/lang/invoke/MethodHandle" ∧ y.cls ≠ "java/lang/invoke/VarHandle")
    {rm : Room} {as' : Array Value} {Q : Option Value → Heap → List Loc → Prop}
    (hM : MetFree l y (head1 [Cond.code y bytes maxL none] rm) (fun a U => a = as' ∧ Z.Warmed39 U.vm ∧ U.heap = h) (fun _ _ _ _ _ => True) (fun _ U o U' => ∃ v L, o = .returned v ∧ Q v U'.heap L ∧ FrameEnd U o U' L rm.cells rm.slots))
    {Ls : Array Slot} {st : List Value} {W : Nat} (hf : rm.frames + 1 ≤ R.frames) (hl : W + (maxL + 11) + rm.locals ≤ R.locals) {pc : Nat} (hsize : Ls.size = c.maxLocals) {a : Addr} {argsL rest : List Value} (hlen : ∀ sig, parseMethodDescriptor y.desc = some sig → argsL.length = sig.parameters.length)
    (has : (.ref a :: argsL).toArray = as') (hstack : st = argsL.reverse ++ .ref a :: rest) (hW : (rest.map fun v => v.category).sum ≤ W) (hd : decode c.code pc = .ok (.invokespecial index, 3)) (eT : T.heap = h) (hc : cells + rm.cells ≤ R.cells) (hs : slots + rm.slots ≤ R.slots) :
    ∃ T' v L, Stand p l e R s m args below meth c T' (locs ++ L) (cells + rm.cells) (slots + rm.slots) ∧ Q v T'.heap L ∧ ∀ target, Steps p.tables e below (T'.setTop (mkF m (pc + 3) Ls (v.toList ++ rest))) target → Steps p.tables e below (T.setTop (mkF m pc Ls st)) target := by
  obtain ⟨v, _, ⟨T', L', k', n'⟩, -, X', ⟨L, hQ, l1, l2, l3⟩, st'⟩ := X.specialBack hx (y := y) hy1 hown (mvT hZ w1) (mvT hZ w2) (mvT hZ w4) hy (backOf (W := W) hM hZ w4 w3 hf hl) (g := mkF m pc Ls st) rfl hsize (Steps.refl _) (a := a) (argsL := argsL) (rest := rest) hlen hstack (by show 2 * 0 + _ ≤ _; omega) hd (fun _ _ => ⟨has, eT, hc, hs⟩)
  dsimp only [Pt.U, Pt.locs, Pt.cells, Pt.slots] at X' l1 l2 l3 st' hQ
  subst l1 l2 l3
  exact ⟨T', v, L, X', hQ, fun _ k => st'.trans k⟩
/-- an instance method's call, paid by its contract -/
theorem own_callV (X : Stand p l e R s m args below meth c T locs cells slots) (hx : p.tables.exec = Jvm.exec) (hZ : Z.Warmed39 s.vm) {own : String} {index : Nat} {y : MethodName} {bytes : ByteArray} {maxL : Nat} {ret : Option FieldType} (hown : s.vm.findClass own = some m.cls)
    (w1 : (Cond.methodLink own index y).before a0 Z = true) (w2 : (Cond.declares y).before a0 Z = true) (w5 : (Cond.selects y.cls y y).before a0 Z = true) (w6 : (Cond.instanceMethod y).before a0 Z = true) (w3 : (Cond.initialized y.cls).before a0 Z = true) (w4 : (Cond.code y bytes maxL ret).before a0 Z = true) (hy : y.cls ≠ "java/lang/invoke/MethodHandle" ∧ y.cls ≠ "java/lang/invoke/VarHandle")
    {rm : Room} {as' : Array Value} {Q : Option Value → Heap → List Loc → Prop}
    (hM : MetFree l y (head1 [Cond.code y bytes maxL ret] rm) (fun a U => a = as' ∧ Z.Warmed39 U.vm ∧ U.heap = h) (fun _ _ _ _ _ => True) (fun _ U o U' => ∃ v L, o = .returned v ∧ Q v U'.heap L ∧ FrameEnd U o U' L rm.cells rm.slots))
    {a : Addr} (E : Exa Z h a y.cls)
    {Ls : Array Slot} {st : List Value} {W : Nat} (hf : rm.frames + 1 ≤ R.frames) (hl : W + (maxL + 11) + rm.locals ≤ R.locals) {pc : Nat} (hsize : Ls.size = c.maxLocals) {argsL rest : List Value} (hlen : ∀ sig, parseMethodDescriptor y.desc = some sig → argsL.length = sig.parameters.length)
    (has : (.ref a :: argsL).toArray = as') (hstack : st = argsL.reverse ++ .ref a :: rest) (hW : (rest.map fun v => v.category).sum ≤ W) (hd : decode c.code pc = .ok (.invokevirtual index, 3)) (eT : T.heap = h) (hc : cells + rm.cells ≤ R.cells) (hs : slots + rm.slots ≤ R.slots) :
    ∃ T' v L, Stand p l e R s m args below meth c T' (locs ++ L) (cells + rm.cells) (slots + rm.slots) ∧ Q v T'.heap L ∧ ∀ target, Steps p.tables e below (T'.setTop (mkF m (pc + 3) Ls (v.toList ++ rest))) target → Steps p.tables e below (T.setTop (mkF m pc Ls st)) target := by
  obtain ⟨cq, kq, qa, qb, qc⟩ := isOf hZ eT E
  obtain ⟨v, _, ⟨T', L', k', n'⟩, -, X', ⟨L, hQ, l1, l2, l3⟩, st'⟩ := X.virtualBack hx (y := y) (z := y) hown (mvT hZ w1) (mvT hZ w2) (notFace_of_selects (args := #[]) (mvT hZ w5)) (mvT hZ w5) (mvT hZ w6) hy (backOf (W := W) hM hZ w4 w3 hf hl) qa qc (g := mkF m pc Ls st) rfl hsize (Steps.refl _) (argsL := argsL) (rest := rest) hlen hstack (by show 2 * 0 + _ ≤ _; omega) hd (fun _ _ => ⟨has, eT, hc, hs⟩)
  dsimp only [Pt.U, Pt.locs, Pt.cells, Pt.slots] at X' l1 l2 l3 st' hQ
  subst l1 l2 l3
  exact ⟨T', v, L, X', hQ, fun _ k => st'.trans k⟩
/-- a private instance method's call by invokevirtual, paid by its contract; that the class is no interface, another method's 'selects' word says -/
theorem own_callP (X : Stand p l e R s m args below meth c T locs cells slots) (hx : p.tables.exec = Jvm.exec) (hZ : Z.Warmed39 s.vm) {own : String} {index : Nat} {y z : MethodName} {bytes : ByteArray} {maxL : Nat} {ret : Option FieldType} (hown : s.vm.findClass own = some m.cls)
    (w1 : (Cond.methodLink own index y).before a0 Z = true) (wp : (Cond.privateMethod y).before a0 Z = true) (w5 : (Cond.selects y.cls z z).before a0 Z = true) (hz : z.cls = y.cls) (w6 : (Cond.instanceMethod y).before a0 Z = true) (w3 : (Cond.initialized y.cls).before a0 Z = true) (w4 : (Cond.code y bytes maxL ret).before a0 Z = true) (hy : y.cls ≠ "java/lang/invoke/MethodHandle" ∧ y.cls ≠ "java/lang/invoke/VarHandle")
    {rm : Room} {as' : Array Value} {Q : Option Value → Heap → List Loc → Prop}
    (hM : MetFree l y (head1 [Cond.code y bytes maxL ret] rm) (fun a U => a = as' ∧ Z.Warmed39 U.vm ∧ U.heap = h) (fun _ _ _ _ _ => True) (fun _ U o U' => ∃ v L, o = .returned v ∧ Q v U'.heap L ∧ FrameEnd U o U' L rm.cells rm.slots))
    {a : Addr} (E : Exa Z h a y.cls)
    {Ls : Array Slot} {st : List Value} {W : Nat} (hf : rm.frames + 1 ≤ R.frames) (hl : W + (maxL + 11) + rm.locals ≤ R.locals) {pc : Nat} (hsize : Ls.size = c.maxLocals) {argsL rest : List Value} (hlen : ∀ sig, parseMethodDescriptor y.desc = some sig → argsL.length = sig.parameters.length)
    (has : (.ref a :: argsL).toArray = as') (hstack : st = argsL.reverse ++ .ref a :: rest) (hW : (rest.map fun v => v.category).sum ≤ W) (hd : decode c.code pc = .ok (.invokevirtual index, 3)) (eT : T.heap = h) (hc : cells + rm.cells ≤ R.cells) (hs : slots + rm.slots ≤ R.slots) :
    ∃ T' v L, Stand p l e R s m args below meth c T' (locs ++ L) (cells + rm.cells) (slots + rm.slots) ∧ Q v T'.heap L ∧ ∀ target, Steps p.tables e below (T'.setTop (mkF m (pc + 3) Ls (v.toList ++ rest))) target → Steps p.tables e below (T.setTop (mkF m pc Ls st)) target := by
  have hpriv : s.PrivateAt y := Cond.privateMethod_at (mvP hZ wp (args := #[]))
  obtain ⟨c2, r2, m2, q1, q2, q3, q4, kP, hkP, hkPi⟩ := Cond.selects_spec (show (Cond.selects y.cls z z).before args s = true from mvT hZ w5)
  have hcl : s.vm.findClass y.cls = some m2.cls := by rw [← hz]; exact findClass_of_methodNamed q3
  have hsel := selects_self_of_private (args := args) hcl hkP hkPi hpriv (mvT hZ w6) hy
  obtain ⟨cell, hcell, hobj⟩ := E.cell
  obtain ⟨v, _, ⟨T', L', k', n'⟩, -, X', ⟨L, hQ, l1, l2, l3⟩, st'⟩ := X.privateBack hx (y := y) hown (mvT hZ w1) (mvT hZ w6) hsel hpriv (mvT hZ w4) hy (backOf (W := W) hM hZ w4 w3 hf hl) (g := mkF m pc Ls st) rfl hsize (Steps.refl _) (a := a) (by rw [eT]; exact hcell) hobj (argsL := argsL) (rest := rest) hlen hstack (by show 2 * 0 + _ ≤ _; omega) hd (fun _ _ => ⟨has, eT, hc, hs⟩)
  dsimp only [Pt.U, Pt.locs, Pt.cells, Pt.slots] at X' l1 l2 l3 st' hQ
  subst l1 l2 l3
  exact ⟨T', v, L, X', hQ, fun _ k => st'.trans k⟩
end Own
theorem pd_0 : parseMethodDescriptor "([B)Z" = some ⟨[(.array .byte)], some .boolean⟩ := by decide +kernel
theorem pd_1 : parseMethodDescriptor "()[B" = some ⟨[], some (.array .byte)⟩ := by decide +kernel
theorem pn_0 : plainName "com/example/tidebucket/tidebucket/store/StoreLayout" = true := by first | (simp [plainName, overriddenIn]; done) | decide +kernel
theorem pn_1 : plainName "com/example/tidebucket/tidebucket/store/StoreLayoutIsSeriesPinLaw" = true := by first | (simp [plainName, overriddenIn]; done) | decide +kernel
theorem d1_0 : decode prog_23_method_10_code 0 = .ok (.aload_n 0, 1) := by decide +kernel
theorem d1_1 : decode prog_23_method_10_code 1 = .ok (.arraylength, 1) := by decide +kernel
theorem d1_2 : decode prog_23_method_10_code 2 = .ok (.ifCond .le 15, 3) := by decide +kernel
theorem d1_5 : decode prog_23_method_10_code 5 = .ok (.aload_n 0, 1) := by decide +kernel
theorem d1_6 : decode prog_23_method_10_code 6 = .ok (.iconst 0, 1) := by decide +kernel
theorem d1_7 : decode prog_23_method_10_code 7 = .ok (.baload, 1) := by decide +kernel
theorem d1_8 : decode prog_23_method_10_code 8 = .ok (.bipush 83, 2) := by decide +kernel
theorem d1_10 : decode prog_23_method_10_code 10 = .ok (.if_icmp .ne 7, 3) := by decide +kernel
theorem d1_13 : decode prog_23_method_10_code 13 = .ok (.iconst 1, 1) := by decide +kernel
theorem d1_14 : decode prog_23_method_10_code 14 = .ok (.goto 4, 3) := by decide +kernel
theorem d1_17 : decode prog_23_method_10_code 17 = .ok (.iconst 0, 1) := by decide +kernel
theorem d1_18 : decode prog_23_method_10_code 18 = .ok (.ireturn, 1) := by decide +kernel
theorem d2_0 : decode prog_23_method_7_code 0 = .ok (.iconst 1, 1) := by decide +kernel
theorem d2_1 : decode prog_23_method_7_code 1 = .ok (.newarray .byte, 2) := by decide +kernel
theorem d2_3 : decode prog_23_method_7_code 3 = .ok (.dup, 1) := by decide +kernel
theorem d2_4 : decode prog_23_method_7_code 4 = .ok (.iconst 0, 1) := by decide +kernel
theorem d2_5 : decode prog_23_method_7_code 5 = .ok (.bipush 83, 2) := by decide +kernel
theorem d2_7 : decode prog_23_method_7_code 7 = .ok (.bastore, 1) := by decide +kernel
theorem d2_8 : decode prog_23_method_7_code 8 = .ok (.areturn, 1) := by decide +kernel
theorem d3_0 : decode prog_23_method_25_code 0 = .ok (.iconst 1, 1) := by decide +kernel
theorem d3_1 : decode prog_23_method_25_code 1 = .ok (.newarray .byte, 2) := by decide +kernel
theorem d3_3 : decode prog_23_method_25_code 3 = .ok (.dup, 1) := by decide +kernel
theorem d3_4 : decode prog_23_method_25_code 4 = .ok (.iconst 0, 1) := by decide +kernel
theorem d3_5 : decode prog_23_method_25_code 5 = .ok (.bipush 80, 2) := by decide +kernel
theorem d3_7 : decode prog_23_method_25_code 7 = .ok (.bastore, 1) := by decide +kernel
theorem d3_8 : decode prog_23_method_25_code 8 = .ok (.areturn, 1) := by decide +kernel
theorem own_wrB {Z : State} {h h' : Heap} {a : Addr} {cl : Cell} {ty : FieldType} {sl : Nat} {v : Value} (Ar : Arr Z h a cl ty) (W : Wr h h' a sl v) :
    ∃ cl' : Cell, Arr Z h' a cl' ty ∧ cl'.slots.size = cl.slots.size ∧ cl'.slots[sl]? = some v ∧ ∀ j, j ≠ sl → cl'.slots[j]? = cl.slots[j]? := by
  obtain ⟨c', e1, -, -, e4, -, e6, e7⟩ := wr_at W Ar.1
  obtain ⟨q1, q2, -⟩ := e7 rfl
  exact ⟨c', by rw [q1]; exact Ar.same W, e4, q2, e6⟩
/-- a byte array of length n whose first byte, where it has one, is b -/
def own_Ky (Z : State) (h : Heap) (a : Addr) (n b : Int32) : Prop := ∃ cl : Cell, Arr Z h a cl .byte ∧ cl.slots.size = n.toNatClampNeg ∧ (0 < n → cl.slots[0]? = some (.int b))
/-- what isSeries returns -/
def own_ser (n b : Int32) : Int32 := if 0 < n then (if b = 83 then 1 else 0) else 0
theorem own_nar (x : Int32) : nar .byte (x.toInt8.toInt32) = x.toInt8.toInt32 := by
  show (x.toInt8.toInt32).toInt8.toInt32 = _
  rw [Int8.toInt8_toInt32]
theorem own_m3 (x : Int32) : ¬ (x &&& (3 : Int32)) < 0 ∧ (x &&& (3 : Int32)).toNatClampNeg ≤ 3 := by
  have h := c_mask x 3 2 (by decide) (by decide)
  have e : (0 : Int32).toInt = 0 := rfl
  refine ⟨fun q => ?_, ?_⟩
  · rw [Int32.lt_iff_toInt_lt] at q; omega
  · show (x &&& (3 : Int32)).toInt.toNat ≤ 3
    omega
theorem ef_1 (m : MethodId) (x0 : Addr) : entryFrame m #[(.ref x0)] 1 = mkF m 0 #[.val (.ref x0)] [] := by first | (simp [entryFrame, mkF, argsToLocals, Value.category]; done) | rfl
set_option maxRecDepth 65536 in
set_option maxHeartbeats 40000000 in
theorem rmS (l : Launch) (Z : State) (a0 : Array Value) (hw : ∀ d ∈ tables_1, d.before a0 Z = true) (ws : List Jvm.Cond) (a1 : Addr) (n b : Int32) (h0 : Heap) (n0 : Nat) (Z0 : n0 ≤ h0.size) (hn : ¬ n < 0) (K : own_Ky Z h0 a1 n b) :
    MetFree l (⟨"com/example/tidebucket/tidebucket/store/StoreLayout", "isSeries", "([B)Z"⟩ : MethodName) (head1 (Jvm.Cond.code (⟨"com/example/tidebucket/tidebucket/store/StoreLayout", "isSeries", "([B)Z"⟩ : MethodName) prog_23_method_10_code 1 (some .boolean) :: ws) ({ frames := 0, cells := 0, slots := 0, locals := 0 } : Room)) (fun a U => a = #[(.ref a1)] ∧ Z.Warmed39 U.vm ∧ U.heap = h0) (fun _ _ _ _ _ => True) (fun _ U o U' => ∃ v L, o = .returned v ∧ (own_pure (some (.int (own_ser n b))) h0 n0) v U'.heap L ∧ FrameEnd U o U' L ({ frames := 0, cells := 0, slots := 0, locals := 0 } : Room).cells ({ frames := 0, cells := 0, slots := 0, locals := 0 } : Room).slots) := by
  refine MetFree.of_bodySF (plainFor_of_name pn_0) hisR ?_
  intro p e s m args below meth c s₁ Bd hml0 hP hK
  obtain ⟨rfl, hZ, hh⟩ := hP
  have hx := Bd.exec
  have hby := Bd.bytes
  have hml : c.maxLocals = 1 := hml0
  have hown : s.vm.findClass "com/example/tidebucket/tidebucket/store/StoreLayout" = some m.cls := findClass_of_methodNamed Bd.named
  have hnm := (name_of_methodNamed Bd.named Bd.method).1
  have hret := Bd.returns
  have hlk : meth.locks = false := Bd.notSynchronized
  have X0 : Stand p l e ({ frames := 0, cells := 0, slots := 0, locals := 0 } : Room) s m #[(.ref a1)] below meth c s₁ [] 0 0 := Stand.of_body Bd
  have e0 : s₁.heap = h0 := by rw [← hh, Bd.state]; rfl
  have N0 := Fr.nil n0
  show own_Go p e below (own_P (own_pure (some (.int (own_ser n b))) h0 n0) ({ frames := 0, cells := 0, slots := 0, locals := 0 } : Room) s) s₁ (entryFrame m #[(.ref a1)] 1)
  rw [ef_1 m a1]
  show own_Go p e below _ s₁ (mkF m 0 #[.val (.ref a1)] [])
  obtain ⟨cl, Ar, S, H⟩ := K
  refine own_go (fun _ k => XS.aloadN X0.here hx rfl (hb hby d1_0) rfl rfl k) ?_
  show own_Go p e below _ s₁ (mkF m 1 #[.val (.ref a1)] [(.ref a1)])
  refine own_go (fun _ k => X0.arraylength hx (by rw [e0]; exact Ar.1) (State.isArrayOf_alike hZ.alike Ar.2.1) (g := (mkF m 1 #[.val (.ref a1)] [(.ref a1)])) rfl rfl (hb hby d1_1) _ k) ?_
  rw [len_of S hn]
  show own_Go p e below _ s₁ (mkF m 2 #[.val (.ref a1)] [(.int n)])
  by_cases hp : (0 : Int32) < n
  · refine own_go (fun _ k => XS.ifNo X0.here hx rfl (hb hby d1_2) rfl ((if0 _ _).trans (tlt hp).2.2.2) k) ?_
    show own_Go p e below _ s₁ (mkF m 5 #[.val (.ref a1)] [])
    refine own_go (fun _ k => XS.aloadN X0.here hx rfl (hb hby d1_5) rfl rfl k) ?_
    show own_Go p e below _ s₁ (mkF m 6 #[.val (.ref a1)] [(.ref a1)])
    refine own_go (fun _ k => XS.iconst X0.here hx rfl (hb hby d1_6) k) ?_
    show own_Go p e below _ s₁ (mkF m 7 #[.val (.ref a1)] [(.int (0 : Int32)), (.ref a1)])
    refine own_go (fun _ k => X0.baloadBytes hx (j := (0 : Int32)) (v := (.int b)) (by rw [e0]; exact Ar.1) (State.isArrayOf_alike hZ.alike Ar.2.1) Ar.2.2 (inb_of S ⟨by decide, hp⟩) (H hp) (g := (mkF m 7 #[.val (.ref a1)] [(.int (0 : Int32)), (.ref a1)])) rfl rfl (hb hby d1_7) _ k) ?_
    show own_Go p e below _ s₁ (mkF m 8 #[.val (.ref a1)] [(.int b)])
    refine own_go (fun _ k => XS.bipush X0.here hx rfl (hb hby d1_8) k) ?_
    show own_Go p e below _ s₁ (mkF m 10 #[.val (.ref a1)] [(.int (83 : Int32)), (.int b)])
    by_cases hb83 : b = (83 : Int32)
    · refine own_go (fun _ k => XS.icmpNo X0.here hx rfl (hb hby d1_10) rfl (teq hb83).2 k) ?_
      show own_Go p e below _ s₁ (mkF m 13 #[.val (.ref a1)] [])
      refine own_go (fun _ k => XS.iconst X0.here hx rfl (hb hby d1_13) k) ?_
      show own_Go p e below _ s₁ (mkF m 14 #[.val (.ref a1)] [(.int (1 : Int32))])
      refine own_go (fun _ k => XS.goto X0.here hx rfl (pc0 := 14) (pc' := 18) rfl (hb hby d1_14) (by decide) (by decide) k) ?_
      show own_Go p e below _ s₁ (mkF m 18 #[.val (.ref a1)] [(.int (1 : Int32))])
      exact own_endZ X0 hx hret hlk (hb hby d1_18) rfl (by decide) (by decide) ⟨by rw [own_ser, if_pos hp, if_pos hb83], N0, e0⟩
    · refine own_go (fun _ k => XS.icmpYes X0.here hx rfl (pc0 := 10) (pc' := 17) rfl (hb hby d1_10) rfl (feq hb83).2 (by decide) (by decide) k) ?_
      show own_Go p e below _ s₁ (mkF m 17 #[.val (.ref a1)] [])
      refine own_go (fun _ k => XS.iconst X0.here hx rfl (hb hby d1_17) k) ?_
      show own_Go p e below _ s₁ (mkF m 18 #[.val (.ref a1)] [(.int (0 : Int32))])
      exact own_endZ X0 hx hret hlk (hb hby d1_18) rfl (by decide) (by decide) ⟨by rw [own_ser, if_pos hp, if_neg hb83], N0, e0⟩
  · refine own_go (fun _ k => XS.ifYes X0.here hx rfl (pc0 := 2) (pc' := 17) rfl (hb hby d1_2) rfl ((if0 _ _).trans (flt hp).2.2.2) (by decide) (by decide) k) ?_
    show own_Go p e below _ s₁ (mkF m 17 #[.val (.ref a1)] [])
    refine own_go (fun _ k => XS.iconst X0.here hx rfl (hb hby d1_17) k) ?_
    show own_Go p e below _ s₁ (mkF m 18 #[.val (.ref a1)] [(.int (0 : Int32))])
    exact own_endZ X0 hx hret hlk (hb hby d1_18) rfl (by decide) (by decide) ⟨by rw [own_ser, if_neg hp], N0, e0⟩
theorem ef_2 (m : MethodId)  : entryFrame m #[] 0 = mkF m 0 #[] [] := by first | (simp [entryFrame, mkF, argsToLocals, Value.category]; done) | rfl
set_option maxRecDepth 65536 in
set_option maxHeartbeats 40000000 in
theorem rmF (l : Launch) (Z : State) (a0 : Array Value) (hw : ∀ d ∈ tables_1, d.before a0 Z = true) (ws : List Jvm.Cond)  (h0 : Heap) (n0 : Nat) (Z0 : n0 ≤ h0.size)  :
    MetFree l (⟨"com/example/tidebucket/tidebucket/store/StoreLayout", "firstSeries", "()[B"⟩ : MethodName) (head1 (Jvm.Cond.code (⟨"com/example/tidebucket/tidebucket/store/StoreLayout", "firstSeries", "()[B"⟩ : MethodName) prog_23_method_7_code 0 (some (.array .byte)) :: ws) ({ frames := 0, cells := 1, slots := 1, locals := 0 } : Room)) (fun a U => a = #[] ∧ Z.Warmed39 U.vm ∧ U.heap = h0) (fun _ _ _ _ _ => True) (fun _ U o U' => ∃ v L, o = .returned v ∧ (own_R (fun v h L => ∃ b, v = some (.ref b) ∧ Fr n0 L ∧ h0.size ≤ h.size ∧ own_Ky Z h b 1 83)) v U'.heap L ∧ FrameEnd U o U' L ({ frames := 0, cells := 1, slots := 1, locals := 0 } : Room).cells ({ frames := 0, cells := 1, slots := 1, locals := 0 } : Room).slots) := by
  refine MetFree.of_bodySF (plainFor_of_name pn_0) hisR ?_
  intro p e s m args below meth c s₁ Bd hml0 hP hK
  obtain ⟨rfl, hZ, hh⟩ := hP
  have hx := Bd.exec
  have hby := Bd.bytes
  have hml : c.maxLocals = 0 := hml0
  have hown : s.vm.findClass "com/example/tidebucket/tidebucket/store/StoreLayout" = some m.cls := findClass_of_methodNamed Bd.named
  have hnm := (name_of_methodNamed Bd.named Bd.method).1
  have hret := Bd.returns
  have hlk : meth.locks = false := Bd.notSynchronized
  have X0 : Stand p l e ({ frames := 0, cells := 1, slots := 1, locals := 0 } : Room) s m #[] below meth c s₁ [] 0 0 := Stand.of_body Bd
  have e0 : s₁.heap = h0 := by rw [← hh, Bd.state]; rfl
  have N0 := Fr.nil n0
  show own_Go p e below (own_P (own_R (fun v h L => ∃ b, v = some (.ref b) ∧ Fr n0 L ∧ h0.size ≤ h.size ∧ own_Ky Z h b 1 83)) ({ frames := 0, cells := 1, slots := 1, locals := 0 } : Room) s) s₁ (entryFrame m #[] 0)
  rw [ef_2 m ]
  show own_Go p e below _ s₁ (mkF m 0 #[] [])
  refine own_go (fun _ k => XS.iconst X0.here hx rfl (hb hby d2_0) k) ?_
  show own_Go p e below _ s₁ (mkF m 1 #[] [(.int (1 : Int32))])
  obtain ⟨T1, h1, k1, X1, e1, E1, A1, st1⟩ := newP X0 hx hZ (hw _ (List.mem_of_getElem? (i := 0) rfl)) e0 (g := (mkF m 1 #[] [(.int (1 : Int32))])) rfl (hb hby d2_1) rfl (by decide) (cap := 1) (by decide) (by decide) (by decide) (by decide)
  obtain ⟨b1, g1⟩ : ∃ z, z = h0.size := ⟨_, rfl⟩
  rw [← g1] at A1 st1
  refine own_go st1 ?_
  show own_Go p e below _ T1 (mkF m 3 #[] [(.ref b1)])
  have g_b : n0 ≤ b1 := Nat.le_trans Z0 (Nat.le_of_eq g1.symm)
  refine own_go (fun _ k => XS.dup X1.here hx rfl (hb hby d2_3) rfl rfl k) ?_
  show own_Go p e below _ T1 (mkF m 4 #[] [(.ref b1), (.ref b1)])
  refine own_go (fun _ k => XS.iconst X1.here hx rfl (hb hby d2_4) k) ?_
  show own_Go p e below _ T1 (mkF m 5 #[] [(.int (0 : Int32)), (.ref b1), (.ref b1)])
  refine own_go (fun _ k => XS.bipush X1.here hx rfl (hb hby d2_5) k) ?_
  show own_Go p e below _ T1 (mkF m 7 #[] [(.int (83 : Int32)), (.int (0 : Int32)), (.ref b1), (.ref b1)])
  have S := sz_new k1 FieldType.byte (1 : Int32)
  obtain ⟨T2, h2, X2, e2, W2, st2⟩ := stB X1 hx hZ e1 A1 (j := (0 : Int32)) (inb_of S ⟨by decide, by decide⟩) (g := (mkF m 7 #[] [(.int (83 : Int32)), (.int (0 : Int32)), (.ref b1), (.ref b1)])) rfl rfl (hb hby d2_7)
  have N2 := Fr.snoc X2 N0 g_b
  refine own_go st2 ?_
  show own_Go p e below _ T2 (mkF m 8 #[] [(.ref b1)])
  obtain ⟨cl, Ar, S', H, -⟩ := own_wrB A1 W2
  exact own_endA X2 hx hret rfl hlk (hb hby d2_8) rfl (by decide) (by decide) ⟨_, rfl, N2, by rw [e2, W2.size]; exact E1.1, by rw [e2]; exact ⟨cl, Ar, S'.trans S, fun _ => H⟩⟩
theorem ef_3 (m : MethodId)  : entryFrame m #[] 0 = mkF m 0 #[] [] := by first | (simp [entryFrame, mkF, argsToLocals, Value.category]; done) | rfl
set_option maxRecDepth 65536 in
set_option maxHeartbeats 40000000 in
theorem rmP (l : Launch) (Z : State) (a0 : Array Value) (hw : ∀ d ∈ tables_1, d.before a0 Z = true) (ws : List Jvm.Cond)  (h0 : Heap) (n0 : Nat) (Z0 : n0 ≤ h0.size)  :
    MetFree l (⟨"com/example/tidebucket/tidebucket/store/StoreLayout", "firstPoint", "()[B"⟩ : MethodName) (head1 (Jvm.Cond.code (⟨"com/example/tidebucket/tidebucket/store/StoreLayout", "firstPoint", "()[B"⟩ : MethodName) prog_23_method_25_code 0 (some (.array .byte)) :: ws) ({ frames := 0, cells := 1, slots := 1, locals := 0 } : Room)) (fun a U => a = #[] ∧ Z.Warmed39 U.vm ∧ U.heap = h0) (fun _ _ _ _ _ => True) (fun _ U o U' => ∃ v L, o = .returned v ∧ (own_R (fun v h L => ∃ b, v = some (.ref b) ∧ Fr n0 L ∧ h0.size ≤ h.size ∧ own_Ky Z h b 1 80)) v U'.heap L ∧ FrameEnd U o U' L ({ frames := 0, cells := 1, slots := 1, locals := 0 } : Room).cells ({ frames := 0, cells := 1, slots := 1, locals := 0 } : Room).slots) := by
  refine MetFree.of_bodySF (plainFor_of_name pn_0) hisR ?_
  intro p e s m args below meth c s₁ Bd hml0 hP hK
  obtain ⟨rfl, hZ, hh⟩ := hP
  have hx := Bd.exec
  have hby := Bd.bytes
  have hml : c.maxLocals = 0 := hml0
  have hown : s.vm.findClass "com/example/tidebucket/tidebucket/store/StoreLayout" = some m.cls := findClass_of_methodNamed Bd.named
  have hnm := (name_of_methodNamed Bd.named Bd.method).1
  have hret := Bd.returns
  have hlk : meth.locks = false := Bd.notSynchronized
  have X0 : Stand p l e ({ frames := 0, cells := 1, slots := 1, locals := 0 } : Room) s m #[] below meth c s₁ [] 0 0 := Stand.of_body Bd
  have e0 : s₁.heap = h0 := by rw [← hh, Bd.state]; rfl
  have N0 := Fr.nil n0
  show own_Go p e below (own_P (own_R (fun v h L => ∃ b, v = some (.ref b) ∧ Fr n0 L ∧ h0.size ≤ h.size ∧ own_Ky Z h b 1 80)) ({ frames := 0, cells := 1, slots := 1, locals := 0 } : Room) s) s₁ (entryFrame m #[] 0)
  rw [ef_3 m ]
  show own_Go p e below _ s₁ (mkF m 0 #[] [])
  refine own_go (fun _ k => XS.iconst X0.here hx rfl (hb hby d3_0) k) ?_
  show own_Go p e below _ s₁ (mkF m 1 #[] [(.int (1 : Int32))])
  obtain ⟨T3, h3, k3, X3, e3, E3, A3, st3⟩ := newP X0 hx hZ (hw _ (List.mem_of_getElem? (i := 0) rfl)) e0 (g := (mkF m 1 #[] [(.int (1 : Int32))])) rfl (hb hby d3_1) rfl (by decide) (cap := 1) (by decide) (by decide) (by decide) (by decide)
  obtain ⟨b3, g3⟩ : ∃ z, z = h0.size := ⟨_, rfl⟩
  rw [← g3] at A3 st3
  refine own_go st3 ?_
  show own_Go p e below _ T3 (mkF m 3 #[] [(.ref b3)])
  have g_b : n0 ≤ b3 := Nat.le_trans Z0 (Nat.le_of_eq g3.symm)
  refine own_go (fun _ k => XS.dup X3.here hx rfl (hb hby d3_3) rfl rfl k) ?_
  show own_Go p e below _ T3 (mkF m 4 #[] [(.ref b3), (.ref b3)])
  refine own_go (fun _ k => XS.iconst X3.here hx rfl (hb hby d3_4) k) ?_
  show own_Go p e below _ T3 (mkF m 5 #[] [(.int (0 : Int32)), (.ref b3), (.ref b3)])
  refine own_go (fun _ k => XS.bipush X3.here hx rfl (hb hby d3_5) k) ?_
  show own_Go p e below _ T3 (mkF m 7 #[] [(.int (80 : Int32)), (.int (0 : Int32)), (.ref b3), (.ref b3)])
  have S := sz_new k3 FieldType.byte (1 : Int32)
  obtain ⟨T4, h4, X4, e4, W4, st4⟩ := stB X3 hx hZ e3 A3 (j := (0 : Int32)) (inb_of S ⟨by decide, by decide⟩) (g := (mkF m 7 #[] [(.int (80 : Int32)), (.int (0 : Int32)), (.ref b3), (.ref b3)])) rfl rfl (hb hby d3_7)
  have N4 := Fr.snoc X4 N0 g_b
  refine own_go st4 ?_
  show own_Go p e below _ T4 (mkF m 8 #[] [(.ref b3)])
  obtain ⟨cl, Ar, S', H, -⟩ := own_wrB A3 W4
  exact own_endA X4 hx hret rfl hlk (hb hby d3_8) rfl (by decide) (by decide) ⟨_, rfl, N4, by rw [e4, W4.size]; exact E3.1, by rw [e4]; exact ⟨cl, Ar, S'.trans S, fun _ => H⟩⟩
set_option maxRecDepth 65536 in
set_option maxHeartbeats 40000000 in
theorem own_t98 {p : Program} {l : Launch} {e : Env} {s : State} {m : MethodId} {args : Array Value} {below : List Frame} {meth : Method} {c : Code} {T0 : State} {locs : List Loc} {Z : State} {a0 : Array Value} {h0 : Heap} {n0 : Nat} (p1 p2 p3 p4 n b : Int32) (a1 : Addr) (X0 : Stand p l e room_1 s m args below meth c T0 locs 1 3) (ex : Int32)
    (hx : p.tables.exec = Jvm.exec) (hZ : Z.Warmed39 s.vm) (hw : ∀ d ∈ tables_1, d.before a0 Z = true) (hby : c.code = code) (hml : c.maxLocals = 10) (hown : s.vm.findClass "com/example/tidebucket/tidebucket/store/StoreLayoutIsSeriesPinLaw" = some m.cls) (hret : meth.sig.returnType = some .boolean) (hlk : meth.locks = false) (e0 : T0.heap = h0) (Z0 : n0 ≤ h0.size) (N0 : Fr n0 locs) (g1 : n0 ≤ a1) (hn : ¬ n < 0) (K : own_Ky Z h0 a1 n b) (hex : own_ser n b = ex) :
    own_Go p e below (own_P (own_R (fun v _ L => v = some (.int 1) ∧ Fr n0 L)) room_1 s) T0 (mkF m 98 #[.val (.int p1), .val (.int p2), .val (.int p3), .val (.int p4), .val (.int n), .val (.int b), .val (.ref a1), .val (.int ex), .unset, .unset] []) := by
  refine own_go (fun _ k => XS.aload X0.here hx rfl (hb hby at_98) rfl rfl k) ?_
  show own_Go p e below _ T0 (mkF m 100 #[.val (.int p1), .val (.int p2), .val (.int p3), .val (.int p4), .val (.int n), .val (.int b), .val (.ref a1), .val (.int ex), .unset, .unset] [(.ref a1)])
  obtain ⟨T5, v5, L5, X5, q5, st5⟩ := own_callS X0 hx hZ hown (y := (⟨"com/example/tidebucket/tidebucket/store/StoreLayout", "isSeries", "([B)Z"⟩ : MethodName)) (hw _ (List.mem_of_getElem? (i := 1) rfl)) (hw _ (List.mem_of_getElem? (i := 2) rfl)) (hw _ (List.mem_of_getElem? (i := 3) rfl)) (hw _ (List.mem_of_getElem? (i := 4) rfl)) (by decide) (rmS l Z a0 hw [] a1 n b h0 n0 Z0 hn K) (Ls := #[.val (.int p1), .val (.int p2), .val (.int p3), .val (.int p4), .val (.int n), .val (.int b), .val (.ref a1), .val (.int ex), .unset, .unset]) (st := [(.ref a1)]) (W := 0) (by decide) (by decide) (by rw [hml]; rfl) (argsL := [(.ref a1)]) (rest := []) (lenOf pd_0 rfl) rfl rfl (Nat.le_of_eq rfl) (hb hby at_100) e0 (by decide) (by decide)
  obtain ⟨rfl, N5', e5⟩ := q5
  have N5 := Fr.app N0 N5'
  refine own_go st5 ?_
  show own_Go p e below _ T5 (mkF m 103 #[.val (.int p1), .val (.int p2), .val (.int p3), .val (.int p4), .val (.int n), .val (.int b), .val (.ref a1), .val (.int ex), .unset, .unset] [(.int (own_ser n b))])
  refine own_go (fun _ k => XS.istore X5.here hx rfl (hb hby at_103) rfl (l' := #[.val (.int p1), .val (.int p2), .val (.int p3), .val (.int p4), .val (.int n), .val (.int b), .val (.ref a1), .val (.int ex), .val (.int (own_ser n b)), .unset]) rfl k) ?_
  show own_Go p e below _ T5 (mkF m 105 #[.val (.int p1), .val (.int p2), .val (.int p3), .val (.int p4), .val (.int n), .val (.int b), .val (.ref a1), .val (.int ex), .val (.int (own_ser n b)), .unset] [])
  obtain ⟨T6, v6, L6, X6, q6, st6⟩ := own_callS X5 hx hZ hown (y := (⟨"com/example/tidebucket/tidebucket/store/StoreLayout", "firstSeries", "()[B"⟩ : MethodName)) (hw _ (List.mem_of_getElem? (i := 5) rfl)) (hw _ (List.mem_of_getElem? (i := 6) rfl)) (hw _ (List.mem_of_getElem? (i := 3) rfl)) (hw _ (List.mem_of_getElem? (i := 7) rfl)) (by decide) (rmF l Z a0 hw [] h0 n0 Z0) (Ls := #[.val (.int p1), .val (.int p2), .val (.int p3), .val (.int p4), .val (.int n), .val (.int b), .val (.ref a1), .val (.int ex), .val (.int (own_ser n b)), .unset]) (st := []) (W := 0) (by decide) (by decide) (by rw [hml]; rfl) (argsL := []) (rest := []) (lenOf pd_1 rfl) rfl rfl (Nat.le_of_eq rfl) (hb hby at_105) e5 (by decide) (by decide)
  obtain ⟨b2, rfl, N6', hs2, K2⟩ := q6
  have N6 := Fr.app N5 N6'
  refine own_go st6 ?_
  show own_Go p e below _ T6 (mkF m 108 #[.val (.int p1), .val (.int p2), .val (.int p3), .val (.int p4), .val (.int n), .val (.int b), .val (.ref a1), .val (.int ex), .val (.int (own_ser n b)), .unset] [(.ref b2)])
  have Z2 := Nat.le_trans Z0 hs2
  obtain ⟨T7, v7, L7, X7, q7, st7⟩ := own_callS X6 hx hZ hown (y := (⟨"com/example/tidebucket/tidebucket/store/StoreLayout", "isSeries", "([B)Z"⟩ : MethodName)) (hw _ (List.mem_of_getElem? (i := 1) rfl)) (hw _ (List.mem_of_getElem? (i := 2) rfl)) (hw _ (List.mem_of_getElem? (i := 3) rfl)) (hw _ (List.mem_of_getElem? (i := 4) rfl)) (by decide) (rmS l Z a0 hw [] b2 1 83 T6.heap n0 Z2 (by decide) K2) (Ls := #[.val (.int p1), .val (.int p2), .val (.int p3), .val (.int p4), .val (.int n), .val (.int b), .val (.ref a1), .val (.int ex), .val (.int (own_ser n b)), .unset]) (st := [(.ref b2)]) (W := 0) (by decide) (by decide) (by rw [hml]; rfl) (argsL := [(.ref b2)]) (rest := []) (lenOf pd_0 rfl) rfl rfl (Nat.le_of_eq rfl) (hb hby at_108) rfl (by decide) (by decide)
  obtain ⟨rfl, N7', e7⟩ := q7
  have N7 := Fr.app N6 N7'
  refine own_go st7 ?_
  show own_Go p e below _ T7 (mkF m 111 #[.val (.int p1), .val (.int p2), .val (.int p3), .val (.int p4), .val (.int n), .val (.int b), .val (.ref a1), .val (.int ex), .val (.int (own_ser n b)), .unset] [(.int (own_ser 1 83))])
  refine own_go (fun _ k => XS.ifNo X7.here hx rfl (hb hby at_111) rfl ((if0 _ _).trans (feq (by decide)).1) k) ?_
  show own_Go p e below _ T7 (mkF m 114 #[.val (.int p1), .val (.int p2), .val (.int p3), .val (.int p4), .val (.int n), .val (.int b), .val (.ref a1), .val (.int ex), .val (.int (own_ser n b)), .unset] [])
  obtain ⟨T8, v8, L8, X8, q8, st8⟩ := own_callS X7 hx hZ hown (y := (⟨"com/example/tidebucket/tidebucket/store/StoreLayout", "firstPoint", "()[B"⟩ : MethodName)) (hw _ (List.mem_of_getElem? (i := 8) rfl)) (hw _ (List.mem_of_getElem? (i := 9) rfl)) (hw _ (List.mem_of_getElem? (i := 3) rfl)) (hw _ (List.mem_of_getElem? (i := 10) rfl)) (by decide) (rmP l Z a0 hw [] T6.heap n0 Z2) (Ls := #[.val (.int p1), .val (.int p2), .val (.int p3), .val (.int p4), .val (.int n), .val (.int b), .val (.ref a1), .val (.int ex), .val (.int (own_ser n b)), .unset]) (st := []) (W := 0) (by decide) (by decide) (by rw [hml]; rfl) (argsL := []) (rest := []) (lenOf pd_1 rfl) rfl rfl (Nat.le_of_eq rfl) (hb hby at_114) e7 (by decide) (by decide)
  obtain ⟨b4, rfl, N8', hs4, K4⟩ := q8
  have N8 := Fr.app N7 N8'
  refine own_go st8 ?_
  show own_Go p e below _ T8 (mkF m 117 #[.val (.int p1), .val (.int p2), .val (.int p3), .val (.int p4), .val (.int n), .val (.int b), .val (.ref a1), .val (.int ex), .val (.int (own_ser n b)), .unset] [(.ref b4)])
  obtain ⟨T9, v9, L9, X9, q9, st9⟩ := own_callS X8 hx hZ hown (y := (⟨"com/example/tidebucket/tidebucket/store/StoreLayout", "isSeries", "([B)Z"⟩ : MethodName)) (hw _ (List.mem_of_getElem? (i := 1) rfl)) (hw _ (List.mem_of_getElem? (i := 2) rfl)) (hw _ (List.mem_of_getElem? (i := 3) rfl)) (hw _ (List.mem_of_getElem? (i := 4) rfl)) (by decide) (rmS l Z a0 hw [] b4 1 80 T8.heap n0 (Nat.le_trans Z2 hs4) (by decide) K4) (Ls := #[.val (.int p1), .val (.int p2), .val (.int p3), .val (.int p4), .val (.int n), .val (.int b), .val (.ref a1), .val (.int ex), .val (.int (own_ser n b)), .unset]) (st := [(.ref b4)]) (W := 0) (by decide) (by decide) (by rw [hml]; rfl) (argsL := [(.ref b4)]) (rest := []) (lenOf pd_0 rfl) rfl rfl (Nat.le_of_eq rfl) (hb hby at_117) rfl (by decide) (by decide)
  obtain ⟨rfl, N9', e9⟩ := q9
  have N9 := Fr.app N8 N9'
  refine own_go st9 ?_
  show own_Go p e below _ T9 (mkF m 120 #[.val (.int p1), .val (.int p2), .val (.int p3), .val (.int p4), .val (.int n), .val (.int b), .val (.ref a1), .val (.int ex), .val (.int (own_ser n b)), .unset] [(.int (own_ser 1 80))])
  refine own_go (fun _ k => XS.ifNo X9.here hx rfl (hb hby at_120) rfl ((if0 _ _).trans (teq (by decide)).2) k) ?_
  show own_Go p e below _ T9 (mkF m 123 #[.val (.int p1), .val (.int p2), .val (.int p3), .val (.int p4), .val (.int n), .val (.int b), .val (.ref a1), .val (.int ex), .val (.int (own_ser n b)), .unset] [])
  refine own_go (fun _ k => XS.iconst X9.here hx rfl (hb hby at_123) k) ?_
  show own_Go p e below _ T9 (mkF m 124 #[.val (.int p1), .val (.int p2), .val (.int p3), .val (.int p4), .val (.int n), .val (.int b), .val (.ref a1), .val (.int ex), .val (.int (own_ser n b)), .unset] [(.int (1 : Int32))])
  refine own_go (fun _ k => XS.goto X9.here hx rfl (pc0 := 124) (pc' := 128) rfl (hb hby at_124) (by decide) (by decide) k) ?_
  show own_Go p e below _ T9 (mkF m 128 #[.val (.int p1), .val (.int p2), .val (.int p3), .val (.int p4), .val (.int n), .val (.int b), .val (.ref a1), .val (.int ex), .val (.int (own_ser n b)), .unset] [(.int (1 : Int32))])
  refine own_go (fun _ k => XS.istore X9.here hx rfl (hb hby at_128) rfl (l' := #[.val (.int p1), .val (.int p2), .val (.int p3), .val (.int p4), .val (.int n), .val (.int b), .val (.ref a1), .val (.int ex), .val (.int (own_ser n b)), .val (.int (1 : Int32))]) rfl k) ?_
  show own_Go p e below _ T9 (mkF m 130 #[.val (.int p1), .val (.int p2), .val (.int p3), .val (.int p4), .val (.int n), .val (.int b), .val (.ref a1), .val (.int ex), .val (.int (own_ser n b)), .val (.int (1 : Int32))] [])
  refine own_go (fun _ k => XS.iload X9.here hx rfl (hb hby at_130) rfl  k) ?_
  show own_Go p e below _ T9 (mkF m 132 #[.val (.int p1), .val (.int p2), .val (.int p3), .val (.int p4), .val (.int n), .val (.int b), .val (.ref a1), .val (.int ex), .val (.int (own_ser n b)), .val (.int (1 : Int32))] [(.int (1 : Int32))])
  refine own_go (fun _ k => XS.ifNo X9.here hx rfl (hb hby at_132) rfl ((if0 _ _).trans (feq (by decide)).1) k) ?_
  show own_Go p e below _ T9 (mkF m 135 #[.val (.int p1), .val (.int p2), .val (.int p3), .val (.int p4), .val (.int n), .val (.int b), .val (.ref a1), .val (.int ex), .val (.int (own_ser n b)), .val (.int (1 : Int32))] [])
  refine own_go (fun _ k => XS.iload X9.here hx rfl (hb hby at_135) rfl  k) ?_
  show own_Go p e below _ T9 (mkF m 137 #[.val (.int p1), .val (.int p2), .val (.int p3), .val (.int p4), .val (.int n), .val (.int b), .val (.ref a1), .val (.int ex), .val (.int (own_ser n b)), .val (.int (1 : Int32))] [(.int (own_ser n b))])
  refine own_go (fun _ k => XS.iload X9.here hx rfl (hb hby at_137) rfl  k) ?_
  show own_Go p e below _ T9 (mkF m 139 #[.val (.int p1), .val (.int p2), .val (.int p3), .val (.int p4), .val (.int n), .val (.int b), .val (.ref a1), .val (.int ex), .val (.int (own_ser n b)), .val (.int (1 : Int32))] [(.int ex), (.int (own_ser n b))])
  refine own_go (fun _ k => XS.icmpNo X9.here hx rfl (hb hby at_139) rfl (teq hex).2 k) ?_
  show own_Go p e below _ T9 (mkF m 142 #[.val (.int p1), .val (.int p2), .val (.int p3), .val (.int p4), .val (.int n), .val (.int b), .val (.ref a1), .val (.int ex), .val (.int (own_ser n b)), .val (.int (1 : Int32))] [])
  refine own_go (fun _ k => XS.iconst X9.here hx rfl (hb hby at_142) k) ?_
  show own_Go p e below _ T9 (mkF m 143 #[.val (.int p1), .val (.int p2), .val (.int p3), .val (.int p4), .val (.int n), .val (.int b), .val (.ref a1), .val (.int ex), .val (.int (own_ser n b)), .val (.int (1 : Int32))] [(.int (1 : Int32))])
  refine own_go (fun _ k => XS.goto X9.here hx rfl (pc0 := 143) (pc' := 147) rfl (hb hby at_143) (by decide) (by decide) k) ?_
  show own_Go p e below _ T9 (mkF m 147 #[.val (.int p1), .val (.int p2), .val (.int p3), .val (.int p4), .val (.int n), .val (.int b), .val (.ref a1), .val (.int ex), .val (.int (own_ser n b)), .val (.int (1 : Int32))] [(.int (1 : Int32))])
  exact own_endZ X9 hx hret hlk (hb hby at_147) rfl (by decide) (by decide) ⟨rfl, N9⟩
set_option maxRecDepth 65536 in
set_option maxHeartbeats 40000000 in
theorem own_t71 {p : Program} {l : Launch} {e : Env} {s : State} {m : MethodId} {args : Array Value} {below : List Frame} {meth : Method} {c : Code} {T0 : State} {locs : List Loc} {Z : State} {a0 : Array Value} {h0 : Heap} {n0 : Nat} (p1 p2 p3 p4 n b : Int32) (a1 : Addr) (X0 : Stand p l e room_1 s m args below meth c T0 locs 1 3)
    (hx : p.tables.exec = Jvm.exec) (hZ : Z.Warmed39 s.vm) (hw : ∀ d ∈ tables_1, d.before a0 Z = true) (hby : c.code = code) (hml : c.maxLocals = 10) (hown : s.vm.findClass "com/example/tidebucket/tidebucket/store/StoreLayoutIsSeriesPinLaw" = some m.cls) (hret : meth.sig.returnType = some .boolean) (hlk : meth.locks = false) (e0 : T0.heap = h0) (Z0 : n0 ≤ h0.size) (N0 : Fr n0 locs) (g1 : n0 ≤ a1) (hn : ¬ n < 0) (K : own_Ky Z h0 a1 n b) :
    own_Go p e below (own_P (own_R (fun v _ L => v = some (.int 1) ∧ Fr n0 L)) room_1 s) T0 (mkF m 71 #[.val (.int p1), .val (.int p2), .val (.int p3), .val (.int p4), .val (.int n), .val (.int b), .val (.ref a1), .unset, .unset, .unset] []) := by
  refine own_go (fun _ k => XS.iload X0.here hx rfl (hb hby at_71) rfl  k) ?_
  show own_Go p e below _ T0 (mkF m 73 #[.val (.int p1), .val (.int p2), .val (.int p3), .val (.int p4), .val (.int n), .val (.int b), .val (.ref a1), .unset, .unset, .unset] [(.int n)])
  by_cases hz : n = (0 : Int32)
  · refine own_go (fun _ k => XS.ifNo X0.here hx rfl (hb hby at_73) rfl ((if0 _ _).trans (teq hz).2) k) ?_
    show own_Go p e below _ T0 (mkF m 76 #[.val (.int p1), .val (.int p2), .val (.int p3), .val (.int p4), .val (.int n), .val (.int b), .val (.ref a1), .unset, .unset, .unset] [])
    refine own_go (fun _ k => XS.iconst X0.here hx rfl (hb hby at_76) k) ?_
    show own_Go p e below _ T0 (mkF m 77 #[.val (.int p1), .val (.int p2), .val (.int p3), .val (.int p4), .val (.int n), .val (.int b), .val (.ref a1), .unset, .unset, .unset] [(.int (0 : Int32))])
    refine own_go (fun _ k => XS.istore X0.here hx rfl (hb hby at_77) rfl (l' := #[.val (.int p1), .val (.int p2), .val (.int p3), .val (.int p4), .val (.int n), .val (.int b), .val (.ref a1), .val (.int (0 : Int32)), .unset, .unset]) rfl k) ?_
    show own_Go p e below _ T0 (mkF m 79 #[.val (.int p1), .val (.int p2), .val (.int p3), .val (.int p4), .val (.int n), .val (.int b), .val (.ref a1), .val (.int (0 : Int32)), .unset, .unset] [])
    refine own_go (fun _ k => XS.goto X0.here hx rfl (pc0 := 79) (pc' := 98) rfl (hb hby at_79) (by decide) (by decide) k) ?_
    show own_Go p e below _ T0 (mkF m 98 #[.val (.int p1), .val (.int p2), .val (.int p3), .val (.int p4), .val (.int n), .val (.int b), .val (.ref a1), .val (.int (0 : Int32)), .unset, .unset] [])
    exact own_t98 p1 p2 p3 p4 n b a1 X0 0 hx hZ hw hby hml hown hret hlk e0 Z0 N0 g1 hn K (by rw [own_ser, if_neg (by rw [hz]; decide)])
  · refine own_go (fun _ k => XS.ifYes X0.here hx rfl (pc0 := 73) (pc' := 82) rfl (hb hby at_73) rfl ((if0 _ _).trans (feq hz).2) (by decide) (by decide) k) ?_
    show own_Go p e below _ T0 (mkF m 82 #[.val (.int p1), .val (.int p2), .val (.int p3), .val (.int p4), .val (.int n), .val (.int b), .val (.ref a1), .unset, .unset, .unset] [])
    have hp : 0 < n := by
      rw [Int32.lt_iff_toInt_lt] at hn ⊢
      have e : (0 : Int32).toInt = 0 := rfl
      have hz' : ¬ n.toInt = 0 := fun q => hz (Int32.toInt_inj.mp (q.trans e.symm))
      omega
    refine own_go (fun _ k => XS.iload X0.here hx rfl (hb hby at_82) rfl  k) ?_
    show own_Go p e below _ T0 (mkF m 84 #[.val (.int p1), .val (.int p2), .val (.int p3), .val (.int p4), .val (.int n), .val (.int b), .val (.ref a1), .unset, .unset, .unset] [(.int b)])
    refine own_go (fun _ k => XS.bipush X0.here hx rfl (hb hby at_84) k) ?_
    show own_Go p e below _ T0 (mkF m 86 #[.val (.int p1), .val (.int p2), .val (.int p3), .val (.int p4), .val (.int n), .val (.int b), .val (.ref a1), .unset, .unset, .unset] [(.int (83 : Int32)), (.int b)])
    by_cases h83 : b = (83 : Int32)
    · refine own_go (fun _ k => XS.icmpNo X0.here hx rfl (hb hby at_86) rfl (teq h83).2 k) ?_
      show own_Go p e below _ T0 (mkF m 89 #[.val (.int p1), .val (.int p2), .val (.int p3), .val (.int p4), .val (.int n), .val (.int b), .val (.ref a1), .unset, .unset, .unset] [])
      refine own_go (fun _ k => XS.iconst X0.here hx rfl (hb hby at_89) k) ?_
      show own_Go p e below _ T0 (mkF m 90 #[.val (.int p1), .val (.int p2), .val (.int p3), .val (.int p4), .val (.int n), .val (.int b), .val (.ref a1), .unset, .unset, .unset] [(.int (1 : Int32))])
      refine own_go (fun _ k => XS.istore X0.here hx rfl (hb hby at_90) rfl (l' := #[.val (.int p1), .val (.int p2), .val (.int p3), .val (.int p4), .val (.int n), .val (.int b), .val (.ref a1), .val (.int (1 : Int32)), .unset, .unset]) rfl k) ?_
      show own_Go p e below _ T0 (mkF m 92 #[.val (.int p1), .val (.int p2), .val (.int p3), .val (.int p4), .val (.int n), .val (.int b), .val (.ref a1), .val (.int (1 : Int32)), .unset, .unset] [])
      refine own_go (fun _ k => XS.goto X0.here hx rfl (pc0 := 92) (pc' := 98) rfl (hb hby at_92) (by decide) (by decide) k) ?_
      show own_Go p e below _ T0 (mkF m 98 #[.val (.int p1), .val (.int p2), .val (.int p3), .val (.int p4), .val (.int n), .val (.int b), .val (.ref a1), .val (.int (1 : Int32)), .unset, .unset] [])
      exact own_t98 p1 p2 p3 p4 n b a1 X0 1 hx hZ hw hby hml hown hret hlk e0 Z0 N0 g1 hn K (by rw [own_ser, if_pos hp, if_pos h83])
    · refine own_go (fun _ k => XS.icmpYes X0.here hx rfl (pc0 := 86) (pc' := 95) rfl (hb hby at_86) rfl (feq h83).2 (by decide) (by decide) k) ?_
      show own_Go p e below _ T0 (mkF m 95 #[.val (.int p1), .val (.int p2), .val (.int p3), .val (.int p4), .val (.int n), .val (.int b), .val (.ref a1), .unset, .unset, .unset] [])
      refine own_go (fun _ k => XS.iconst X0.here hx rfl (hb hby at_95) k) ?_
      show own_Go p e below _ T0 (mkF m 96 #[.val (.int p1), .val (.int p2), .val (.int p3), .val (.int p4), .val (.int n), .val (.int b), .val (.ref a1), .unset, .unset, .unset] [(.int (0 : Int32))])
      refine own_go (fun _ k => XS.istore X0.here hx rfl (hb hby at_96) rfl (l' := #[.val (.int p1), .val (.int p2), .val (.int p3), .val (.int p4), .val (.int n), .val (.int b), .val (.ref a1), .val (.int (0 : Int32)), .unset, .unset]) rfl k) ?_
      show own_Go p e below _ T0 (mkF m 98 #[.val (.int p1), .val (.int p2), .val (.int p3), .val (.int p4), .val (.int n), .val (.int b), .val (.ref a1), .val (.int (0 : Int32)), .unset, .unset] [])
      exact own_t98 p1 p2 p3 p4 n b a1 X0 0 hx hZ hw hby hml hown hret hlk e0 Z0 N0 g1 hn K (by rw [own_ser, if_pos hp, if_neg h83])
set_option maxRecDepth 65536 in
set_option maxHeartbeats 40000000 in
theorem own_t56 {p : Program} {l : Launch} {e : Env} {s : State} {m : MethodId} {args : Array Value} {below : List Frame} {meth : Method} {c : Code} {T0 : State} {locs : List Loc} {Z : State} {a0 : Array Value} {h0 : Heap} {n0 : Nat} (p1 p2 p3 p4 n b : Int32) (a1 : Addr) (X0 : Stand p l e room_1 s m args below meth c T0 locs 1 3)
    (hx : p.tables.exec = Jvm.exec) (hZ : Z.Warmed39 s.vm) (hw : ∀ d ∈ tables_1, d.before a0 Z = true) (hby : c.code = code) (hml : c.maxLocals = 10) (hown : s.vm.findClass "com/example/tidebucket/tidebucket/store/StoreLayoutIsSeriesPinLaw" = some m.cls) (hret : meth.sig.returnType = some .boolean) (hlk : meth.locks = false) (e0 : T0.heap = h0) (Z0 : n0 ≤ h0.size) (N0 : Fr n0 locs) (g1 : n0 ≤ a1) (hn : ¬ n < 0) (K : own_Ky Z h0 a1 n b) :
    own_Go p e below (own_P (own_R (fun v _ L => v = some (.int 1) ∧ Fr n0 L)) room_1 s) T0 (mkF m 56 #[.val (.int p1), .val (.int p2), .val (.int p3), .val (.int p4), .val (.int n), .val (.int b), .val (.ref a1), .unset, .unset, .unset] []) := by
  refine own_go (fun _ k => XS.iload X0.here hx rfl (hb hby at_56) rfl  k) ?_
  show own_Go p e below _ T0 (mkF m 58 #[.val (.int p1), .val (.int p2), .val (.int p3), .val (.int p4), .val (.int n), .val (.int b), .val (.ref a1), .unset, .unset, .unset] [(.int n)])
  refine own_go (fun _ k => XS.iconst X0.here hx rfl (hb hby at_58) k) ?_
  show own_Go p e below _ T0 (mkF m 59 #[.val (.int p1), .val (.int p2), .val (.int p3), .val (.int p4), .val (.int n), .val (.int b), .val (.ref a1), .unset, .unset, .unset] [(.int (2 : Int32)), (.int n)])
  by_cases hp : (2 : Int32) < n
  · refine own_go (fun _ k => XS.icmpNo X0.here hx rfl (hb hby at_59) rfl (tlt hp).2.2.2 k) ?_
    show own_Go p e below _ T0 (mkF m 62 #[.val (.int p1), .val (.int p2), .val (.int p3), .val (.int p4), .val (.int n), .val (.int b), .val (.ref a1), .unset, .unset, .unset] [])
    obtain ⟨cl, Ar, S, H⟩ := K
    refine own_go (fun _ k => XS.aload X0.here hx rfl (hb hby at_62) rfl rfl k) ?_
    show own_Go p e below _ T0 (mkF m 64 #[.val (.int p1), .val (.int p2), .val (.int p3), .val (.int p4), .val (.int n), .val (.int b), .val (.ref a1), .unset, .unset, .unset] [(.ref a1)])
    refine own_go (fun _ k => XS.iconst X0.here hx rfl (hb hby at_64) k) ?_
    show own_Go p e below _ T0 (mkF m 65 #[.val (.int p1), .val (.int p2), .val (.int p3), .val (.int p4), .val (.int n), .val (.int b), .val (.ref a1), .unset, .unset, .unset] [(.int (2 : Int32)), (.ref a1)])
    refine own_go (fun _ k => XS.iloadN X0.here hx rfl (hb hby at_65) rfl  k) ?_
    show own_Go p e below _ T0 (mkF m 66 #[.val (.int p1), .val (.int p2), .val (.int p3), .val (.int p4), .val (.int n), .val (.int b), .val (.ref a1), .unset, .unset, .unset] [(.int p4), (.int (2 : Int32)), (.ref a1)])
    refine own_go (fun _ k => XS.bipush X0.here hx rfl (hb hby at_66) k) ?_
    show own_Go p e below _ T0 (mkF m 68 #[.val (.int p1), .val (.int p2), .val (.int p3), .val (.int p4), .val (.int n), .val (.int b), .val (.ref a1), .unset, .unset, .unset] [(.int (8 : Int32)), (.int p4), (.int (2 : Int32)), (.ref a1)])
    refine own_go (fun _ k => XS.ishr X0.here hx rfl (hb hby at_68) rfl k) ?_
    show own_Go p e below _ T0 (mkF m 69 #[.val (.int p1), .val (.int p2), .val (.int p3), .val (.int p4), .val (.int n), .val (.int b), .val (.ref a1), .unset, .unset, .unset] [(.int (p4 >>> ((8 : Int32) &&& 31))), (.int (2 : Int32)), (.ref a1)])
    refine own_go (fun _ k => XS.i2b X0.here hx rfl (hb hby at_69) rfl k) ?_
    show own_Go p e below _ T0 (mkF m 70 #[.val (.int p1), .val (.int p2), .val (.int p3), .val (.int p4), .val (.int n), .val (.int b), .val (.ref a1), .unset, .unset, .unset] [(.int ((p4 >>> ((8 : Int32) &&& 31)).toInt8.toInt32)), (.int (2 : Int32)), (.ref a1)])
    obtain ⟨T10, h10, X10, e10, W10, st10⟩ := stB X0 hx hZ e0 Ar (j := (2 : Int32)) (inb_of S ⟨by decide, hp⟩) (g := (mkF m 70 #[.val (.int p1), .val (.int p2), .val (.int p3), .val (.int p4), .val (.int n), .val (.int b), .val (.ref a1), .unset, .unset, .unset] [(.int ((p4 >>> ((8 : Int32) &&& 31)).toInt8.toInt32)), (.int (2 : Int32)), (.ref a1)])) rfl rfl (hb hby at_70)
    have N10 := Fr.snoc X10 N0 g1
    refine own_go st10 ?_
    show own_Go p e below _ T10 (mkF m 71 #[.val (.int p1), .val (.int p2), .val (.int p3), .val (.int p4), .val (.int n), .val (.int b), .val (.ref a1), .unset, .unset, .unset] [])
    obtain ⟨cl', Ar', S', -, H'⟩ := own_wrB Ar W10
    have K' : own_Ky Z h10 a1 n b := ⟨cl', Ar', S'.trans S, fun q => (H' 0 (by decide)).trans (H q)⟩
    exact own_t71 p1 p2 p3 p4 n b a1 X10 hx hZ hw hby hml hown hret hlk e10 (by rw [W10.size]; exact Z0) N10 g1 hn K'
  · refine own_go (fun _ k => XS.icmpYes X0.here hx rfl (pc0 := 59) (pc' := 71) rfl (hb hby at_59) rfl (flt hp).2.2.2 (by decide) (by decide) k) ?_
    show own_Go p e below _ T0 (mkF m 71 #[.val (.int p1), .val (.int p2), .val (.int p3), .val (.int p4), .val (.int n), .val (.int b), .val (.ref a1), .unset, .unset, .unset] [])
    exact own_t71 p1 p2 p3 p4 n b a1 X0 hx hZ hw hby hml hown hret hlk e0 Z0 N0 g1 hn K
set_option maxRecDepth 65536 in
set_option maxHeartbeats 40000000 in
theorem own_t44 {p : Program} {l : Launch} {e : Env} {s : State} {m : MethodId} {args : Array Value} {below : List Frame} {meth : Method} {c : Code} {T0 : State} {locs : List Loc} {Z : State} {a0 : Array Value} {h0 : Heap} {n0 : Nat} (p1 p2 p3 p4 n b : Int32) (a1 : Addr) (X0 : Stand p l e room_1 s m args below meth c T0 locs 1 3)
    (hx : p.tables.exec = Jvm.exec) (hZ : Z.Warmed39 s.vm) (hw : ∀ d ∈ tables_1, d.before a0 Z = true) (hby : c.code = code) (hml : c.maxLocals = 10) (hown : s.vm.findClass "com/example/tidebucket/tidebucket/store/StoreLayoutIsSeriesPinLaw" = some m.cls) (hret : meth.sig.returnType = some .boolean) (hlk : meth.locks = false) (e0 : T0.heap = h0) (Z0 : n0 ≤ h0.size) (N0 : Fr n0 locs) (g1 : n0 ≤ a1) (hn : ¬ n < 0) (K : own_Ky Z h0 a1 n b) :
    own_Go p e below (own_P (own_R (fun v _ L => v = some (.int 1) ∧ Fr n0 L)) room_1 s) T0 (mkF m 44 #[.val (.int p1), .val (.int p2), .val (.int p3), .val (.int p4), .val (.int n), .val (.int b), .val (.ref a1), .unset, .unset, .unset] []) := by
  refine own_go (fun _ k => XS.iload X0.here hx rfl (hb hby at_44) rfl  k) ?_
  show own_Go p e below _ T0 (mkF m 46 #[.val (.int p1), .val (.int p2), .val (.int p3), .val (.int p4), .val (.int n), .val (.int b), .val (.ref a1), .unset, .unset, .unset] [(.int n)])
  refine own_go (fun _ k => XS.iconst X0.here hx rfl (hb hby at_46) k) ?_
  show own_Go p e below _ T0 (mkF m 47 #[.val (.int p1), .val (.int p2), .val (.int p3), .val (.int p4), .val (.int n), .val (.int b), .val (.ref a1), .unset, .unset, .unset] [(.int (1 : Int32)), (.int n)])
  by_cases hp : (1 : Int32) < n
  · refine own_go (fun _ k => XS.icmpNo X0.here hx rfl (hb hby at_47) rfl (tlt hp).2.2.2 k) ?_
    show own_Go p e below _ T0 (mkF m 50 #[.val (.int p1), .val (.int p2), .val (.int p3), .val (.int p4), .val (.int n), .val (.int b), .val (.ref a1), .unset, .unset, .unset] [])
    obtain ⟨cl, Ar, S, H⟩ := K
    refine own_go (fun _ k => XS.aload X0.here hx rfl (hb hby at_50) rfl rfl k) ?_
    show own_Go p e below _ T0 (mkF m 52 #[.val (.int p1), .val (.int p2), .val (.int p3), .val (.int p4), .val (.int n), .val (.int b), .val (.ref a1), .unset, .unset, .unset] [(.ref a1)])
    refine own_go (fun _ k => XS.iconst X0.here hx rfl (hb hby at_52) k) ?_
    show own_Go p e below _ T0 (mkF m 53 #[.val (.int p1), .val (.int p2), .val (.int p3), .val (.int p4), .val (.int n), .val (.int b), .val (.ref a1), .unset, .unset, .unset] [(.int (1 : Int32)), (.ref a1)])
    refine own_go (fun _ k => XS.iloadN X0.here hx rfl (hb hby at_53) rfl  k) ?_
    show own_Go p e below _ T0 (mkF m 54 #[.val (.int p1), .val (.int p2), .val (.int p3), .val (.int p4), .val (.int n), .val (.int b), .val (.ref a1), .unset, .unset, .unset] [(.int p4), (.int (1 : Int32)), (.ref a1)])
    refine own_go (fun _ k => XS.i2b X0.here hx rfl (hb hby at_54) rfl k) ?_
    show own_Go p e below _ T0 (mkF m 55 #[.val (.int p1), .val (.int p2), .val (.int p3), .val (.int p4), .val (.int n), .val (.int b), .val (.ref a1), .unset, .unset, .unset] [(.int (p4.toInt8.toInt32)), (.int (1 : Int32)), (.ref a1)])
    obtain ⟨T11, h11, X11, e11, W11, st11⟩ := stB X0 hx hZ e0 Ar (j := (1 : Int32)) (inb_of S ⟨by decide, hp⟩) (g := (mkF m 55 #[.val (.int p1), .val (.int p2), .val (.int p3), .val (.int p4), .val (.int n), .val (.int b), .val (.ref a1), .unset, .unset, .unset] [(.int (p4.toInt8.toInt32)), (.int (1 : Int32)), (.ref a1)])) rfl rfl (hb hby at_55)
    have N11 := Fr.snoc X11 N0 g1
    refine own_go st11 ?_
    show own_Go p e below _ T11 (mkF m 56 #[.val (.int p1), .val (.int p2), .val (.int p3), .val (.int p4), .val (.int n), .val (.int b), .val (.ref a1), .unset, .unset, .unset] [])
    obtain ⟨cl', Ar', S', -, H'⟩ := own_wrB Ar W11
    have K' : own_Ky Z h11 a1 n b := ⟨cl', Ar', S'.trans S, fun q => (H' 0 (by decide)).trans (H q)⟩
    exact own_t56 p1 p2 p3 p4 n b a1 X11 hx hZ hw hby hml hown hret hlk e11 (by rw [W11.size]; exact Z0) N11 g1 hn K'
  · refine own_go (fun _ k => XS.icmpYes X0.here hx rfl (pc0 := 47) (pc' := 56) rfl (hb hby at_47) rfl (flt hp).2.2.2 (by decide) (by decide) k) ?_
    show own_Go p e below _ T0 (mkF m 56 #[.val (.int p1), .val (.int p2), .val (.int p3), .val (.int p4), .val (.int n), .val (.int b), .val (.ref a1), .unset, .unset, .unset] [])
    exact own_t56 p1 p2 p3 p4 n b a1 X0 hx hZ hw hby hml hown hret hlk e0 Z0 N0 g1 hn K
set_option maxRecDepth 65536 in
set_option maxHeartbeats 40000000 in
theorem own_t27 {p : Program} {l : Launch} {e : Env} {s : State} {m : MethodId} {args : Array Value} {below : List Frame} {meth : Method} {c : Code} {T0 : State} {locs : List Loc} {Z : State} {a0 : Array Value} {h0 : Heap} {n0 : Nat} (p1 p2 p3 p4 n b : Int32) (X0 : Stand p l e room_1 s m args below meth c T0 locs 0 0)
    (hx : p.tables.exec = Jvm.exec) (hZ : Z.Warmed39 s.vm) (hw : ∀ d ∈ tables_1, d.before a0 Z = true) (hby : c.code = code) (hml : c.maxLocals = 10) (hown : s.vm.findClass "com/example/tidebucket/tidebucket/store/StoreLayoutIsSeriesPinLaw" = some m.cls) (hret : meth.sig.returnType = some .boolean) (hlk : meth.locks = false) (e0 : T0.heap = h0) (Z0 : n0 ≤ h0.size) (N0 : Fr n0 locs) (hn : ¬ n < 0) (hn3 : n.toNatClampNeg ≤ 3) (hbb : nar .byte b = b) :
    own_Go p e below (own_P (own_R (fun v _ L => v = some (.int 1) ∧ Fr n0 L)) room_1 s) T0 (mkF m 27 #[.val (.int p1), .val (.int p2), .val (.int p3), .val (.int p4), .val (.int n), .val (.int b), .unset, .unset, .unset, .unset] []) := by
  refine own_go (fun _ k => XS.iload X0.here hx rfl (hb hby at_27) rfl  k) ?_
  show own_Go p e below _ T0 (mkF m 29 #[.val (.int p1), .val (.int p2), .val (.int p3), .val (.int p4), .val (.int n), .val (.int b), .unset, .unset, .unset, .unset] [(.int n)])
  obtain ⟨T12, h12, k12, X12, e12, E12, A12, st12⟩ := newP X0 hx hZ (hw _ (List.mem_of_getElem? (i := 0) rfl)) e0 (g := (mkF m 29 #[.val (.int p1), .val (.int p2), .val (.int p3), .val (.int p4), .val (.int n), .val (.int b), .unset, .unset, .unset, .unset] [(.int n)])) rfl (hb hby at_29) rfl hn (cap := 3) hn3 (by decide) (by decide) (by decide)
  obtain ⟨b12, g12⟩ : ∃ z, z = h0.size := ⟨_, rfl⟩
  rw [← g12] at A12 st12
  refine own_go st12 ?_
  show own_Go p e below _ T12 (mkF m 31 #[.val (.int p1), .val (.int p2), .val (.int p3), .val (.int p4), .val (.int n), .val (.int b), .unset, .unset, .unset, .unset] [(.ref b12)])
  have g1 : n0 ≤ b12 := Nat.le_trans Z0 (Nat.le_of_eq g12.symm)
  have S := sz_new k12 FieldType.byte n
  have Z1 := Nat.le_trans Z0 E12.1
  refine own_go (fun _ k => XS.astore X12.here hx rfl (hb hby at_31) rfl rfl (l' := #[.val (.int p1), .val (.int p2), .val (.int p3), .val (.int p4), .val (.int n), .val (.int b), .val (.ref b12), .unset, .unset, .unset]) rfl k) ?_
  show own_Go p e below _ T12 (mkF m 33 #[.val (.int p1), .val (.int p2), .val (.int p3), .val (.int p4), .val (.int n), .val (.int b), .val (.ref b12), .unset, .unset, .unset] [])
  refine own_go (fun _ k => XS.iload X12.here hx rfl (hb hby at_33) rfl  k) ?_
  show own_Go p e below _ T12 (mkF m 35 #[.val (.int p1), .val (.int p2), .val (.int p3), .val (.int p4), .val (.int n), .val (.int b), .val (.ref b12), .unset, .unset, .unset] [(.int n)])
  by_cases hp : (0 : Int32) < n
  · refine own_go (fun _ k => XS.ifNo X12.here hx rfl (hb hby at_35) rfl ((if0 _ _).trans (tlt hp).2.2.2) k) ?_
    show own_Go p e below _ T12 (mkF m 38 #[.val (.int p1), .val (.int p2), .val (.int p3), .val (.int p4), .val (.int n), .val (.int b), .val (.ref b12), .unset, .unset, .unset] [])
    refine own_go (fun _ k => XS.aload X12.here hx rfl (hb hby at_38) rfl rfl k) ?_
    show own_Go p e below _ T12 (mkF m 40 #[.val (.int p1), .val (.int p2), .val (.int p3), .val (.int p4), .val (.int n), .val (.int b), .val (.ref b12), .unset, .unset, .unset] [(.ref b12)])
    refine own_go (fun _ k => XS.iconst X12.here hx rfl (hb hby at_40) k) ?_
    show own_Go p e below _ T12 (mkF m 41 #[.val (.int p1), .val (.int p2), .val (.int p3), .val (.int p4), .val (.int n), .val (.int b), .val (.ref b12), .unset, .unset, .unset] [(.int (0 : Int32)), (.ref b12)])
    refine own_go (fun _ k => XS.iload X12.here hx rfl (hb hby at_41) rfl  k) ?_
    show own_Go p e below _ T12 (mkF m 43 #[.val (.int p1), .val (.int p2), .val (.int p3), .val (.int p4), .val (.int n), .val (.int b), .val (.ref b12), .unset, .unset, .unset] [(.int b), (.int (0 : Int32)), (.ref b12)])
    obtain ⟨T13, h13, X13, e13, W13, st13⟩ := stB X12 hx hZ e12 A12 (j := (0 : Int32)) (inb_of S ⟨by decide, hp⟩) (g := (mkF m 43 #[.val (.int p1), .val (.int p2), .val (.int p3), .val (.int p4), .val (.int n), .val (.int b), .val (.ref b12), .unset, .unset, .unset] [(.int b), (.int (0 : Int32)), (.ref b12)])) rfl rfl (hb hby at_43)
    have N13 := Fr.snoc X13 N0 g1
    refine own_go st13 ?_
    show own_Go p e below _ T13 (mkF m 44 #[.val (.int p1), .val (.int p2), .val (.int p3), .val (.int p4), .val (.int n), .val (.int b), .val (.ref b12), .unset, .unset, .unset] [])
    rw [hbb] at W13
    obtain ⟨cl', Ar', S', H', -⟩ := own_wrB A12 W13
    exact own_t44 p1 p2 p3 p4 n b b12 X13 hx hZ hw hby hml hown hret hlk e13 (by rw [W13.size]; exact Z1) N13 g1 hn ⟨cl', Ar', S'.trans S, fun _ => H'⟩
  · refine own_go (fun _ k => XS.ifYes X12.here hx rfl (pc0 := 35) (pc' := 44) rfl (hb hby at_35) rfl ((if0 _ _).trans (flt hp).2.2.2) (by decide) (by decide) k) ?_
    show own_Go p e below _ T12 (mkF m 44 #[.val (.int p1), .val (.int p2), .val (.int p3), .val (.int p4), .val (.int n), .val (.int b), .val (.ref b12), .unset, .unset, .unset] [])
    exact own_t44 p1 p2 p3 p4 n b b12 X12 hx hZ hw hby hml hown hret hlk e12 Z1 N0 g1 hn ⟨_, A12, S, fun q => absurd q hp⟩
theorem ef_0 (m : MethodId) (x0 : Int32) (x1 : Int32) (x2 : Int32) (x3 : Int32) : entryFrame m #[(.int x0), (.int x1), (.int x2), (.int x3)] maxLocals = mkF m 0 #[.val (.int x0), .val (.int x1), .val (.int x2), .val (.int x3), .unset, .unset, .unset, .unset, .unset, .unset] [] := by first | (simp [entryFrame, mkF, argsToLocals, Value.category, maxLocals]; done) | rfl
set_option maxRecDepth 65536 in
set_option maxHeartbeats 40000000 in
theorem rm0 (l : Launch) (Z : State) (a0 : Array Value) (hw : ∀ d ∈ tables_1, d.before a0 Z = true) (ws : List Jvm.Cond) (p1 : Int32) (p2 : Int32) (p3 : Int32) (p4 : Int32) (h0 : Heap) (n0 : Nat) (Z0 : n0 ≤ h0.size)  :
    MetFree l x (head1 (Jvm.Cond.code x code maxLocals ret :: ws) room_1) (fun a U => a = #[(.int p1), (.int p2), (.int p3), (.int p4)] ∧ Z.Warmed39 U.vm ∧ U.heap = h0) (fun _ _ _ _ _ => True) (fun _ U o U' => ∃ v L, o = .returned v ∧ (own_R (fun v _ L => v = some (.int 1) ∧ Fr n0 L)) v U'.heap L ∧ FrameEnd U o U' L room_1.cells room_1.slots) := by
  refine MetFree.of_bodySF (plainFor_of_name pn_1) hisR ?_
  intro p e s m args below meth c s₁ Bd hml0 hP hK
  obtain ⟨rfl, hZ, hh⟩ := hP
  have hx := Bd.exec
  have hby := Bd.bytes
  have hml : c.maxLocals = 10 := hml0
  have hown : s.vm.findClass "com/example/tidebucket/tidebucket/store/StoreLayoutIsSeriesPinLaw" = some m.cls := findClass_of_methodNamed Bd.named
  have hnm := (name_of_methodNamed Bd.named Bd.method).1
  have hret := Bd.returns
  have hlk : meth.locks = false := Bd.notSynchronized
  have X0 : Stand p l e room_1 s m #[(.int p1), (.int p2), (.int p3), (.int p4)] below meth c s₁ [] 0 0 := Stand.of_body Bd
  have e0 : s₁.heap = h0 := by rw [← hh, Bd.state]; rfl
  have N0 := Fr.nil n0
  show own_Go p e below (own_P (own_R (fun v _ L => v = some (.int 1) ∧ Fr n0 L)) room_1 s) s₁ (entryFrame m #[(.int p1), (.int p2), (.int p3), (.int p4)] maxLocals)
  rw [ef_0 m p1 p2 p3 p4]
  show own_Go p e below _ s₁ (mkF m 0 #[.val (.int p1), .val (.int p2), .val (.int p3), .val (.int p4), .unset, .unset, .unset, .unset, .unset, .unset] [])
  obtain ⟨m1, m2⟩ := own_m3 p1
  refine own_go (fun _ k => XS.iloadN X0.here hx rfl (hb hby at_0) rfl  k) ?_
  show own_Go p e below _ s₁ (mkF m 1 #[.val (.int p1), .val (.int p2), .val (.int p3), .val (.int p4), .unset, .unset, .unset, .unset, .unset, .unset] [(.int p1)])
  refine own_go (fun _ k => XS.iconst X0.here hx rfl (hb hby at_1) k) ?_
  show own_Go p e below _ s₁ (mkF m 2 #[.val (.int p1), .val (.int p2), .val (.int p3), .val (.int p4), .unset, .unset, .unset, .unset, .unset, .unset] [(.int (3 : Int32)), (.int p1)])
  refine own_go (fun _ k => XS.iand X0.here hx rfl (hb hby at_2) rfl k) ?_
  show own_Go p e below _ s₁ (mkF m 3 #[.val (.int p1), .val (.int p2), .val (.int p3), .val (.int p4), .unset, .unset, .unset, .unset, .unset, .unset] [(.int (p1 &&& (3 : Int32)))])
  refine own_go (fun _ k => XS.istore X0.here hx rfl (hb hby at_3) rfl (l' := #[.val (.int p1), .val (.int p2), .val (.int p3), .val (.int p4), .val (.int (p1 &&& (3 : Int32))), .unset, .unset, .unset, .unset, .unset]) rfl k) ?_
  show own_Go p e below _ s₁ (mkF m 5 #[.val (.int p1), .val (.int p2), .val (.int p3), .val (.int p4), .val (.int (p1 &&& (3 : Int32))), .unset, .unset, .unset, .unset, .unset] [])
  refine own_go (fun _ k => XS.iloadN X0.here hx rfl (hb hby at_5) rfl  k) ?_
  show own_Go p e below _ s₁ (mkF m 6 #[.val (.int p1), .val (.int p2), .val (.int p3), .val (.int p4), .val (.int (p1 &&& (3 : Int32))), .unset, .unset, .unset, .unset, .unset] [(.int p2)])
  refine own_go (fun _ k => XS.iconst X0.here hx rfl (hb hby at_6) k) ?_
  show own_Go p e below _ s₁ (mkF m 7 #[.val (.int p1), .val (.int p2), .val (.int p3), .val (.int p4), .val (.int (p1 &&& (3 : Int32))), .unset, .unset, .unset, .unset, .unset] [(.int (1 : Int32)), (.int p2)])
  refine own_go (fun _ k => XS.iand X0.here hx rfl (hb hby at_7) rfl k) ?_
  show own_Go p e below _ s₁ (mkF m 8 #[.val (.int p1), .val (.int p2), .val (.int p3), .val (.int p4), .val (.int (p1 &&& (3 : Int32))), .unset, .unset, .unset, .unset, .unset] [(.int (p2 &&& (1 : Int32)))])
  by_cases hm : (p2 &&& (1 : Int32)) = (0 : Int32)
  · refine own_go (fun _ k => XS.ifYes X0.here hx rfl (pc0 := 8) (pc' := 23) rfl (hb hby at_8) rfl ((if0 _ _).trans (teq hm).1) (by decide) (by decide) k) ?_
    show own_Go p e below _ s₁ (mkF m 23 #[.val (.int p1), .val (.int p2), .val (.int p3), .val (.int p4), .val (.int (p1 &&& (3 : Int32))), .unset, .unset, .unset, .unset, .unset] [])
    refine own_go (fun _ k => XS.iloadN X0.here hx rfl (hb hby at_23) rfl  k) ?_
    show own_Go p e below _ s₁ (mkF m 24 #[.val (.int p1), .val (.int p2), .val (.int p3), .val (.int p4), .val (.int (p1 &&& (3 : Int32))), .unset, .unset, .unset, .unset, .unset] [(.int p3)])
    refine own_go (fun _ k => XS.i2b X0.here hx rfl (hb hby at_24) rfl k) ?_
    show own_Go p e below _ s₁ (mkF m 25 #[.val (.int p1), .val (.int p2), .val (.int p3), .val (.int p4), .val (.int (p1 &&& (3 : Int32))), .unset, .unset, .unset, .unset, .unset] [(.int (p3.toInt8.toInt32))])
    refine own_go (fun _ k => XS.istore X0.here hx rfl (hb hby at_25) rfl (l' := #[.val (.int p1), .val (.int p2), .val (.int p3), .val (.int p4), .val (.int (p1 &&& (3 : Int32))), .val (.int (p3.toInt8.toInt32)), .unset, .unset, .unset, .unset]) rfl k) ?_
    show own_Go p e below _ s₁ (mkF m 27 #[.val (.int p1), .val (.int p2), .val (.int p3), .val (.int p4), .val (.int (p1 &&& (3 : Int32))), .val (.int (p3.toInt8.toInt32)), .unset, .unset, .unset, .unset] [])
    exact own_t27 p1 p2 p3 p4 _ _ X0 hx hZ hw hby hml hown hret hlk e0 Z0 N0 m1 m2 (own_nar _)
  · refine own_go (fun _ k => XS.ifNo X0.here hx rfl (hb hby at_8) rfl ((if0 _ _).trans (feq hm).1) k) ?_
    show own_Go p e below _ s₁ (mkF m 11 #[.val (.int p1), .val (.int p2), .val (.int p3), .val (.int p4), .val (.int (p1 &&& (3 : Int32))), .unset, .unset, .unset, .unset, .unset] [])
    refine own_go (fun _ k => XS.bipush X0.here hx rfl (hb hby at_11) k) ?_
    show own_Go p e below _ s₁ (mkF m 13 #[.val (.int p1), .val (.int p2), .val (.int p3), .val (.int p4), .val (.int (p1 &&& (3 : Int32))), .unset, .unset, .unset, .unset, .unset] [(.int (83 : Int32))])
    refine own_go (fun _ k => XS.iloadN X0.here hx rfl (hb hby at_13) rfl  k) ?_
    show own_Go p e below _ s₁ (mkF m 14 #[.val (.int p1), .val (.int p2), .val (.int p3), .val (.int p4), .val (.int (p1 &&& (3 : Int32))), .unset, .unset, .unset, .unset, .unset] [(.int p3), (.int (83 : Int32))])
    refine own_go (fun _ k => XS.iconst X0.here hx rfl (hb hby at_14) k) ?_
    show own_Go p e below _ s₁ (mkF m 15 #[.val (.int p1), .val (.int p2), .val (.int p3), .val (.int p4), .val (.int (p1 &&& (3 : Int32))), .unset, .unset, .unset, .unset, .unset] [(.int (3 : Int32)), (.int p3), (.int (83 : Int32))])
    refine own_go (fun _ k => XS.iand X0.here hx rfl (hb hby at_15) rfl k) ?_
    show own_Go p e below _ s₁ (mkF m 16 #[.val (.int p1), .val (.int p2), .val (.int p3), .val (.int p4), .val (.int (p1 &&& (3 : Int32))), .unset, .unset, .unset, .unset, .unset] [(.int (p3 &&& (3 : Int32))), (.int (83 : Int32))])
    refine own_go (fun _ k => XS.ixor X0.here hx rfl (hb hby at_16) rfl k) ?_
    show own_Go p e below _ s₁ (mkF m 17 #[.val (.int p1), .val (.int p2), .val (.int p3), .val (.int p4), .val (.int (p1 &&& (3 : Int32))), .unset, .unset, .unset, .unset, .unset] [(.int ((83 : Int32) ^^^ (p3 &&& (3 : Int32))))])
    refine own_go (fun _ k => XS.i2b X0.here hx rfl (hb hby at_17) rfl k) ?_
    show own_Go p e below _ s₁ (mkF m 18 #[.val (.int p1), .val (.int p2), .val (.int p3), .val (.int p4), .val (.int (p1 &&& (3 : Int32))), .unset, .unset, .unset, .unset, .unset] [(.int (((83 : Int32) ^^^ (p3 &&& (3 : Int32))).toInt8.toInt32))])
    refine own_go (fun _ k => XS.istore X0.here hx rfl (hb hby at_18) rfl (l' := #[.val (.int p1), .val (.int p2), .val (.int p3), .val (.int p4), .val (.int (p1 &&& (3 : Int32))), .val (.int (((83 : Int32) ^^^ (p3 &&& (3 : Int32))).toInt8.toInt32)), .unset, .unset, .unset, .unset]) rfl k) ?_
    show own_Go p e below _ s₁ (mkF m 20 #[.val (.int p1), .val (.int p2), .val (.int p3), .val (.int p4), .val (.int (p1 &&& (3 : Int32))), .val (.int (((83 : Int32) ^^^ (p3 &&& (3 : Int32))).toInt8.toInt32)), .unset, .unset, .unset, .unset] [])
    refine own_go (fun _ k => XS.goto X0.here hx rfl (pc0 := 20) (pc' := 27) rfl (hb hby at_20) (by decide) (by decide) k) ?_
    show own_Go p e below _ s₁ (mkF m 27 #[.val (.int p1), .val (.int p2), .val (.int p3), .val (.int p4), .val (.int (p1 &&& (3 : Int32))), .val (.int (((83 : Int32) ^^^ (p3 &&& (3 : Int32))).toInt8.toInt32)), .unset, .unset, .unset, .unset] [])
    exact own_t27 p1 p2 p3 p4 _ _ X0 hx hZ hw hby hml hown hret hlk e0 Z0 N0 m1 m2 (own_nar _)
set_option maxRecDepth 65536 in
set_option maxHeartbeats 40000000 in
theorem comes_1 {Post : Tables → Env → Array Value → State → Outcome → State → Prop} (hpost : ∀ tb e args s v u, (limb_1_1.after args s (.returned v) u = true ∧ limb_1_2.after args s (.returned v) u = true ∧ True) → FrameEnd s (.returned v) u (Jvm.fieldLocs frame_1_writes args s ++ Jvm.arrayLocs frame_1_arrays args s ++ Jvm.staticLocs frame_1_statics s) 16 128 → Post tb e args s (.returned v) u) :
    ArmFor flags0 classFile x code maxLocals ret World_1 tables_1 room_1 Calls_1 rest_1 Pre_1 Post := by
  intro l hfl _ _ p e ha hc hk s m args below hf hA hF happ hP
  obtain ⟨hcalls, hrest, hpre⟩ := hP
  obtain ⟨-, -, -, hnamed, -, -, -, hat⟩ := (Spec.applies_iff hf).mp happ
  obtain ⟨hg, hn⟩ := and_e (Cond.before_iff.mp (show (Jvm.Cond.and given_1 narrow_1).before args s = true from hpre))
  obtain ⟨k0, g0⟩ := and_e hg
  obtain ⟨k1, g1⟩ := and_e g0
  obtain ⟨k2, g2⟩ := and_e g1
  obtain ⟨k3, g3⟩ := and_e g2
  obtain ⟨w0, w1, w2, w3, rfl⟩ : ∃ w0 w1 w2 w3 : Value, args = #[w0, w1, w2, w3] := by
    have hs : args.size = 4 := by simpa [Cond.value, given_1] using k0
    obtain ⟨L⟩ := args
    match L, hs with
    | [w0, w1, w2, w3], _ => exact ⟨w0, w1, w2, w3, rfl⟩
  have hw := fun d (hd : d ∈ tables_1) => atoms_spec (ws := Jvm.Cond.code x code maxLocals ret :: tables_1) hat d (List.mem_cons_of_mem _ hd)
  obtain ⟨i0, ei0⟩ := is_v k1
  obtain rfl : w0 = (.int i0) := Option.some.inj ei0
  obtain ⟨i1, ei1⟩ := is_v k2
  obtain rfl : w1 = (.int i1) := Option.some.inj ei1
  obtain ⟨i2, ei2⟩ := is_v k3
  obtain rfl : w2 = (.int i2) := Option.some.inj ei2
  obtain ⟨i3, ei3⟩ := is_v g3
  obtain rfl : w3 = (.int i3) := Option.some.inj ei3
  obtain ⟨n, o, h1, h2, h3, _, L, rfl, ⟨rfl, N⟩, hq⟩ := rm0 l s _ hw tables_1 i0 i1 i2 i3 s.heap s.heap.size (Nat.le_refl _) p e ha hc hk s m _ below hf ((Spec.applies_iff_loose hf).mp happ).1 ⟨rfl, State.Warmed39.refl s, rfl⟩ trivial
  refine ⟨n, _, h1, h2, h3, hpost _ _ _ _ _ _ ⟨Cond.after_iff.mpr rfl, Cond.after_iff.mpr (eq_i res_at (Term.int_eval (1)) rfl), trivial⟩ ⟨hq.1, hq.2.1, (hq.2.2.sift fun y hy => Or.inr (N y hy)).mono (by decide) (by decide)⟩⟩
theorem main_1_1 : Claimed_1_1 := comes_1 fun _ _ _ _ _ _ h hF => ⟨h.1, hF⟩
theorem main_1_2 : Claimed_1_2 := comes_1 fun _ _ _ _ _ _ h hF => ⟨h.2.1, hF⟩
end Jvm.Pilot.@@N@@
namespace Jvm.Pilot.@@N@@
open Jvm Jvm.ClassFile Sem Op Lib Jvm.Free Jvm.Stand Jvm.Pilot.@@N@@.Jvm.D
/-! MADE BY PROGRAM (witnessworld.py) out of the Statement's table words and the real class files: 9 classes; the members and pool entries that the words name. The judged class is class 1, her method 1. -/
namespace start1
open Jvm.ClassFile
def u (s : String) : CpInfo := .utf8 (stringToUtf16 s)
/-- a pool by its gaps: so many unusable entries, then the entry; so many at the end -/
def gap : Nat → List CpInfo → List CpInfo
  | 0, r => r
  | n + 1, r => .unusable :: gap n r
def poolList (es : List (Nat × CpInfo)) (last : Nat) : List CpInfo := es.foldr (fun e r => gap e.1 (e.2 :: r)) (gap last [])
def pool (es : List (Nat × CpInfo)) (last : Nat) : Array CpInfo := ⟨poolList es last⟩
def fileOf (pool : Array CpInfo) (this : Nat) (attrs : Array Attribute := #[]) (ms : Array MethodInfo := #[]) (fl : Nat := 33) (sup : Nat := 0) (ifs : Array Nat := #[]) (fds : Array FieldInfo := #[]) : ClassFile where
  minorVersion := 0
  majorVersion := 65
  constantPool := pool
  accessFlags := fl
  thisClass := this
  superClass := sup
  interfaces := ifs
  fields := fds
  methods := ms
  attributes := attrs
def plain (name : String) (sup : Option ClassId) : Class where
  name := name
  kind := .ordinary
  loader := none
  accessFlags := 33
  super := sup
  interfaces := #[]
  cf := none
  fields := #[]
  methods := #[]
  instanceTypes := #[]
  staticTypes := #[]
  resolved := #[]
  callSites := []
  init := .initialized
  statics := none
  mirror := none

def pool0 : Array CpInfo := pool [(5, u "<init>"), (0, u "()V"), (1, .class_ 10), (1, u "java/lang/Object")] 113

def k0m0 : Method := { name := "<init>", desc := "()V", sig := { parameters := [], returnType := none }, accessFlags := 1, code := none }
/-- java/lang/Object -/
def k0 : Class := { plain "java/lang/Object" none with
  accessFlags := 33
  interfaces := #[]
  cf := some (fileOf pool0 8 #[] #[{ accessFlags := 1, nameIndex := 5, descriptorIndex := 6, attributes := #[] }] 33 0 #[] #[])
  fields := #[]
  methods := #[k0m0]
  instanceTypes := #[]
  staticTypes := #[]
  resolved := Array.replicate 124 none
  statics := none }

def pool1 : Array CpInfo := pool [(2, .class_ 4), (1, u "java/lang/Object"), (0, u "<init>"), (0, u "()V"), (0, .methodref 8 9), (0, .class_ 10), (0, .nameAndType 11 12), (0, u "com/example/tidebucket/tidebucket/store/StoreLayout"), (0, u "isSeries"), (0, u "([B)Z"), (0, .methodref 8 14), (0, .nameAndType 15 16), (0, u "firstSeries"), (0, u "()[B"), (0, .methodref 8 18), (0, .nameAndType 19 16), (0, u "firstPoint"), (0, .class_ 21), (0, u "com/example/tidebucket/tidebucket/store/StoreLayoutIsSeriesPinLaw"), (2, u "law"), (0, u "(IIII)Z")] 5

def k1m0 : Method := { name := "<init>", desc := "()V", sig := { parameters := [], returnType := none }, accessFlags := 2, code := none }
def k1c1 : Code := { maxStack := 4, maxLocals := 10, code := code, exceptionTable := #[], attributes := #[] }
def k1m1 : Method := { name := "law", desc := "(IIII)Z", sig := { parameters := [.int, .int, .int, .int], returnType := some .boolean }, accessFlags := 9, code := some k1c1 }
/-- com/example/tidebucket/tidebucket/store/StoreLayoutIsSeriesPinLaw -/
def k1 : Class := { plain "com/example/tidebucket/tidebucket/store/StoreLayoutIsSeriesPinLaw" (some 0) with
  accessFlags := 49
  interfaces := #[]
  cf := some (fileOf pool1 20 #[] #[{ accessFlags := 2, nameIndex := 5, descriptorIndex := 6, attributes := #[] }, { accessFlags := 9, nameIndex := 24, descriptorIndex := 25, attributes := #[] }] 49 2 #[] #[])
  fields := #[]
  methods := #[k1m0, k1m1]
  instanceTypes := #[]
  staticTypes := #[]
  resolved := Array.replicate 31 none
  statics := none }

def pool2 : Array CpInfo := pool [(4, .class_ 6), (1, u "java/lang/Object"), (0, u "<init>"), (0, u "()V"), (0, .class_ 10), (0, u "com/example/tidebucket/tidebucket/store/StoreLayout$KeyWriter"), (0, .class_ 12), (0, u "com/example/tidebucket/tidebucket/store/StoreLayout"), (10, u "()[B"), (86, u "firstPoint"), (108, u "SETTING"), (0, u "B"), (2, u "SERIES"), (1, u "SERIES_BY_ID"), (1, u "TAG"), (1, u "METRIC"), (1, u "POINT"), (1, u "BLOCK"), (1, u "INTEGER_VALUE"), (1, u "FLOAT_VALUE"), (1, u "POINT_KEY_LENGTH"), (0, u "I"), (8, u "firstSeries"), (2, u "isSeries"), (0, u "([B)Z")] 46

def k2m0 : Method := { name := "<init>", desc := "()V", sig := { parameters := [], returnType := none }, accessFlags := 2, code := none }
def k2c1 : Code := { maxStack := 4, maxLocals := 0, code := prog_23_method_7_code, exceptionTable := #[], attributes := #[] }
def k2m1 : Method := { name := "firstSeries", desc := "()[B", sig := { parameters := [], returnType := some (.array .byte) }, accessFlags := 8, code := some k2c1 }
def k2c2 : Code := { maxStack := 2, maxLocals := 1, code := prog_23_method_10_code, exceptionTable := #[], attributes := #[] }
def k2m2 : Method := { name := "isSeries", desc := "([B)Z", sig := { parameters := [(.array .byte)], returnType := some .boolean }, accessFlags := 8, code := some k2c2 }
def k2c3 : Code := { maxStack := 4, maxLocals := 0, code := prog_23_method_25_code, exceptionTable := #[], attributes := #[] }
def k2m3 : Method := { name := "firstPoint", desc := "()[B", sig := { parameters := [], returnType := some (.array .byte) }, accessFlags := 8, code := some k2c3 }
/-- com/example/tidebucket/tidebucket/store/StoreLayout -/
def k2 : Class := { plain "com/example/tidebucket/tidebucket/store/StoreLayout" (some 0) with
  accessFlags := 32
  interfaces := #[]
  cf := some (fileOf pool2 11 #[.nestMembers #[9]] #[{ accessFlags := 2, nameIndex := 7, descriptorIndex := 8, attributes := #[] }, { accessFlags := 8, nameIndex := 249, descriptorIndex := 23, attributes := #[] }, { accessFlags := 8, nameIndex := 252, descriptorIndex := 253, attributes := #[] }, { accessFlags := 8, nameIndex := 110, descriptorIndex := 23, attributes := #[] }] 32 4 #[] #[{ accessFlags := 26, nameIndex := 219, descriptorIndex := 220, attributes := #[] }, { accessFlags := 26, nameIndex := 223, descriptorIndex := 220, attributes := #[] }, { accessFlags := 26, nameIndex := 225, descriptorIndex := 220, attributes := #[] }, { accessFlags := 26, nameIndex := 227, descriptorIndex := 220, attributes := #[] }, { accessFlags := 26, nameIndex := 229, descriptorIndex := 220, attributes := #[] }, { accessFlags := 26, nameIndex := 231, descriptorIndex := 220, attributes := #[] }, { accessFlags := 26, nameIndex := 233, descriptorIndex := 220, attributes := #[] }, { accessFlags := 26, nameIndex := 235, descriptorIndex := 220, attributes := #[] }, { accessFlags := 26, nameIndex := 237, descriptorIndex := 220, attributes := #[] }, { accessFlags := 26, nameIndex := 239, descriptorIndex := 240, attributes := #[] }])
  fields := #[{ name := "SETTING", type := .byte, accessFlags := 26, slot := 0, constantValue := 0 }, { name := "SERIES", type := .byte, accessFlags := 26, slot := 1, constantValue := 0 }, { name := "SERIES_BY_ID", type := .byte, accessFlags := 26, slot := 2, constantValue := 0 }, { name := "TAG", type := .byte, accessFlags := 26, slot := 3, constantValue := 0 }, { name := "METRIC", type := .byte, accessFlags := 26, slot := 4, constantValue := 0 }, { name := "POINT", type := .byte, accessFlags := 26, slot := 5, constantValue := 0 }, { name := "BLOCK", type := .byte, accessFlags := 26, slot := 6, constantValue := 0 }, { name := "INTEGER_VALUE", type := .byte, accessFlags := 26, slot := 7, constantValue := 0 }, { name := "FLOAT_VALUE", type := .byte, accessFlags := 26, slot := 8, constantValue := 0 }, { name := "POINT_KEY_LENGTH", type := .int, accessFlags := 26, slot := 9, constantValue := 0 }]
  methods := #[k2m0, k2m1, k2m2, k2m3]
  instanceTypes := #[]
  staticTypes := #[.byte, .byte, .byte, .byte, .byte, .byte, .byte, .byte, .byte, .int]
  resolved := Array.replicate 300 none
  statics := none }

def pool3 : Array CpInfo := pool [(1, u "java/lang/Cloneable"), (0, .class_ 1), (0, u "java/lang/Object"), (0, .class_ 3)] 3

/-- java/lang/Cloneable -/
def k3 : Class := { plain "java/lang/Cloneable" (some 0) with
  accessFlags := 1537
  interfaces := #[]
  cf := some (fileOf pool3 2 #[] #[] 1537 4 #[] #[])
  fields := #[]
  methods := #[]
  instanceTypes := #[]
  staticTypes := #[]
  resolved := Array.replicate 8 none
  statics := none }

def pool4 : Array CpInfo := pool [(1, u "java/io/Serializable"), (0, .class_ 1), (0, u "java/lang/Object"), (0, .class_ 3)] 3

/-- java/io/Serializable -/
def k4 : Class := { plain "java/io/Serializable" (some 0) with
  accessFlags := 1537
  interfaces := #[]
  cf := some (fileOf pool4 2 #[] #[] 1537 4 #[] #[])
  fields := #[]
  methods := #[]
  instanceTypes := #[]
  staticTypes := #[]
  resolved := Array.replicate 8 none
  statics := none }

/-- the primitive byte -/
def k5 : Class := { plain "byte" none with kind := .primitive 'B', accessFlags := 0x411 }
/-- [B -/
def k6 : Class := { plain "[B" (some 0) with kind := .array 5 .byte, interfaces := #[3, 4], accessFlags := 1041 }

/-- the primitive int -/
def k7 : Class := { plain "int" none with kind := .primitive 'I', accessFlags := 0x411 }
/-- [I -/
def k8 : Class := { plain "[I" (some 0) with kind := .array 7 .int, interfaces := #[3, 4], accessFlags := 1041 }

def heap : Heap := #[]
def classes : Array Class := #[k0, k1, k2, k3, k4, k5, k6, k7, k8]
def interned : List (Array UInt16 × Addr) := []
def slotsUsed : Nat := 0
def theMethod : MethodId := ⟨1, 1⟩
def args0 : Array Value := #[.int 5, .int 3, .int 7, .int 9]
def aboutOver (below : List Frame) : State where
  vm := { classes := classes, interned := interned.toArray }
  heap := heap
  slotsUsed := slotsUsed
  threads := #[{ frames := .invoking theMethod args0 :: below }]
def below0 : List Frame := [.native { method := ⟨0, 0⟩, args := #[] }]
def about1 : State := aboutOver below0
def p0 : Program := .bare "" "" ""
def e0 : Env := launch0.env 0 0 0
theorem w_frames : about1.frames = Frame.invoking theMethod args0 :: below0 := rfl
set_option maxRecDepth 65536 in
theorem w_args : argsFit about1.vm theMethod args0 = true := by decide +kernel
set_option maxRecDepth 65536 in
theorem w_heap : heapFits about1 = true := by decide +kernel
set_option maxRecDepth 65536 in
theorem w_runnable : about1.curStatus? = some .runnable := by decide +kernel
set_option maxRecDepth 65536 in
theorem w_alone : about1.alone = true := by decide +kernel
set_option maxRecDepth 65536 in
theorem w_named : about1.methodNamed? x = some theMethod := by decide +kernel
set_option maxRecDepth 65536 in
theorem w_hears : about1.hears theMethod below0 = true := by decide +kernel
set_option maxRecDepth 65536 in
theorem w_ripe : about1.ripe theMethod args0 below0 = true := by decide +kernel
theorem w_running : about1.status = .running := rfl
set_option maxRecDepth 65536 in
theorem w_room : about1.hasRoom e0.platform room_1 = true :=
  launch0.hasRoom_least _ room_1 (by decide +kernel) (by decide +kernel) (by decide +kernel) (by decide +kernel) (by decide +kernel) (by decide +kernel)
theorem allAtoms_all (ts : List Jvm.Cond) (a : Array Jvm.Value) (st : Jvm.State) : (allAtoms ts).before a st = ts.all (fun c => c.before a st) := by
  induction ts with
  | nil => rfl
  | cons c t ih =>
    show (Jvm.Cond.and c (allAtoms t)).before a st = _
    rw [Jvm.Cond.before_and, ih, List.all_cons]
def words1 : List Jvm.Cond := Jvm.Cond.code x code maxLocals ret :: tables_1
/-- a 'code' word, met by the world's own term for the bytes: nothing is compared byte by byte -/
theorem code_word {y : MethodName} {bytes : ByteArray} {mx : Nat} {rt : Option FieldType} {a : Array Value} {s : State} {m : MethodId} {meth : Method} {c : Code} (h1 : s.methodNamed? y = some m) (h2 : s.vm.method? m = some meth) (h3 : meth.code = some c) (h4 : c.code = bytes)
    (h5 : (c.maxLocals == mx && c.exceptionTable.isEmpty && decide (c.maxStack ≤ mostOperands) && decide (meth.sig.returnType = rt) && !meth.locks && decide (parseMethodDescriptor y.desc = some meth.sig)) = true) : (Jvm.Cond.code y bytes mx rt).before a s = true := by
  simp only [Bool.and_eq_true, beq_iff_eq, Bool.not_eq_true', decide_eq_true_eq] at h5
  obtain ⟨⟨⟨⟨⟨g1, g2⟩, g3⟩, g4⟩, g5⟩, g6⟩ := h5
  simp [Cond.before, Cond.holds, Cond.value, h1, h2, h3, h4, g1, g2, g3, g4, g5, g6]
def isCode : Jvm.Cond → Bool
  | .code _ _ _ _ => true
  | _ => false
theorem all_split {L : List Jvm.Cond} {P : Jvm.Cond → Bool} (h1 : L.all (fun c => isCode c || P c) = true) (h2 : ∀ c ∈ L.filter isCode, P c = true) : L.all P = true := by
  refine List.all_eq_true.mpr fun c hc => ?_
  have h := List.all_eq_true.mp h1 c hc
  rcases Bool.eq_false_or_eq_true (isCode c) with hi | hi
  · exact h2 c (List.mem_filter.mpr ⟨hc, hi⟩)
  · simpa [hi] using h
set_option maxRecDepth 65536 in
theorem w_c0 : (Jvm.Cond.code x code maxLocals ret).before args0 about1 = true := code_word (m := ⟨1, 1⟩) (meth := k1m1) (c := k1c1) (by decide +kernel) rfl rfl rfl (by decide +kernel)
set_option maxRecDepth 65536 in
theorem w_c1 : (Jvm.Cond.code ({ cls := "com/example/tidebucket/tidebucket/store/StoreLayout", name := "isSeries", desc := "([B)Z" } : Jvm.MethodName) prog_23_method_10_code (1 : Nat) (Option.some Jvm.ClassFile.FieldType.boolean)).before args0 about1 = true := code_word (m := ⟨2, 2⟩) (meth := k2m2) (c := k2c2) (by decide +kernel) rfl rfl rfl (by decide +kernel)
set_option maxRecDepth 65536 in
theorem w_c2 : (Jvm.Cond.code ({ cls := "com/example/tidebucket/tidebucket/store/StoreLayout", name := "firstSeries", desc := "()[B" } : Jvm.MethodName) prog_23_method_7_code (0 : Nat) (Option.some (Jvm.ClassFile.FieldType.array Jvm.ClassFile.FieldType.byte))).before args0 about1 = true := code_word (m := ⟨2, 1⟩) (meth := k2m1) (c := k2c1) (by decide +kernel) rfl rfl rfl (by decide +kernel)
set_option maxRecDepth 65536 in
theorem w_c3 : (Jvm.Cond.code ({ cls := "com/example/tidebucket/tidebucket/store/StoreLayout", name := "firstPoint", desc := "()[B" } : Jvm.MethodName) prog_23_method_25_code (0 : Nat) (Option.some (Jvm.ClassFile.FieldType.array Jvm.ClassFile.FieldType.byte))).before args0 about1 = true := code_word (m := ⟨2, 3⟩) (meth := k2m3) (c := k2c3) (by decide +kernel) rfl rfl rfl (by decide +kernel)
def codes1 : List Jvm.Cond := [Jvm.Cond.code x code maxLocals ret, Jvm.Cond.code ({ cls := "com/example/tidebucket/tidebucket/store/StoreLayout", name := "isSeries", desc := "([B)Z" } : Jvm.MethodName) prog_23_method_10_code (1 : Nat) (Option.some Jvm.ClassFile.FieldType.boolean), Jvm.Cond.code ({ cls := "com/example/tidebucket/tidebucket/store/StoreLayout", name := "firstSeries", desc := "()[B" } : Jvm.MethodName) prog_23_method_7_code (0 : Nat) (Option.some (Jvm.ClassFile.FieldType.array Jvm.ClassFile.FieldType.byte)), Jvm.Cond.code ({ cls := "com/example/tidebucket/tidebucket/store/StoreLayout", name := "firstPoint", desc := "()[B" } : Jvm.MethodName) prog_23_method_25_code (0 : Nat) (Option.some (Jvm.ClassFile.FieldType.array Jvm.ClassFile.FieldType.byte))]
set_option maxRecDepth 65536 in
theorem codes_eq : words1.filter isCode = codes1 := rfl
theorem w_codes : ∀ c ∈ words1.filter isCode, c.before args0 about1 = true := by
  rw [codes_eq]
  intro c hc
  simp only [codes1, List.mem_cons, List.not_mem_nil, or_false] at hc
  rcases hc with rfl | rfl | rfl | rfl
  · exact w_c0
  · exact w_c1
  · exact w_c2
  · exact w_c3
set_option maxRecDepth 65536 in
theorem w_t1 : words1.all (fun c => isCode c || c.before args0 about1) = true := by decide +kernel
theorem w_tables : (allAtoms (Jvm.Cond.code x code maxLocals ret :: tables_1)).before args0 about1 = true := by
  rw [allAtoms_all]
  show words1.all (fun c => c.before args0 about1) = true
  refine all_split ?_ w_codes
  rw [w_t1]
set_option maxRecDepth 65536 in
theorem w_case : (Jvm.Cond.and given_1 narrow_1).before args0 about1 = true := by decide +kernel
theorem w_applies : (headSpec (Jvm.Cond.code x code maxLocals ret :: tables_1) room_1).applies x e0.platform about1 = true :=
  (Spec.applies_iff w_frames).mpr ⟨w_running, w_runnable, w_alone, w_named, w_hears, w_ripe, w_room, w_tables⟩
theorem atStart : AtStart classFile x code maxLocals ret World_1 tables_1 room_1 Calls_1 rest_1 Pre_1 launch0 p0 e0 about1 theMethod args0 below0 :=
  ⟨lists_1, trivial, launch0.admits_env _ _ _, launch0.least_env, fairChoices_fair.cas, fairChoices_fair.clock, w_frames, w_args, w_heap, w_applies, trivial, trivial, w_case⟩
end start1
theorem witness_1 : WitnessClaimed_1 := ⟨start1.p0, start1.e0, start1.about1, start1.theMethod, start1.args0, start1.below0, start1.atStart⟩
end Jvm.Pilot.@@N@@
