import JvmDerived
import JvmDerived.Pilot.@@N@@Statement
import JvmDerived.Pilot.@@N@@Code
set_option linter.unusedVariables false
set_option linter.unusedSimpArgs false
namespace Jvm.Pilot.@@N@@
open Jvm Jvm.ClassFile Sem Op Lib Jvm.Free Jvm.Stand Jvm.LawKit Jvm.RoadKit Bundle Jvm.Pilot.@@N@@.Jvm.D
section Own
variable {p : Program} {l : Launch} {e : Env} {R : Room} {s : State} {m : MethodId} {args : Array Value} {below : List Frame} {meth : Method} {c : Code} {T : State} {locs : List Loc} {cells slots : Nat} {Z : State} {a0 : Array Value} {h : Heap}
/-- from this frame on the run ends, and P holds at the end -/
def own_Go (p : Program) (e : Env) (below : List Frame) (P : Outcome → State → Prop) (T : State) (f : JFrame) : Prop :=
  ∃ s₂ o, Steps p.tables e below (T.setTop f) s₂ ∧ s₂.status = .running ∧ Ended s₂ below o ∧ P o s₂
theorem own_go {P : Outcome → State → Prop} {T T' : State} {f f' : JFrame} (st : ∀ target, Steps p.tables e below (T'.setTop f') target → Steps p.tables e below (T.setTop f) target) (hg : own_Go p e below P T' f') : own_Go p e below P T f := by
  obtain ⟨s₂, o, h1, h2⟩ := hg
  exact ⟨s₂, o, st _ h1, h2⟩
/-- what a contract says of the end -/
def own_P (Q : Option Value → Heap → List Loc → Prop) (rm : Room) (s : State) (o : Outcome) (U : State) : Prop :=
  ∃ v L, o = .returned v ∧ Q v U.heap L ∧ FrameEnd s o U L rm.cells rm.slots
/-- a contract of a body that writes nothing and returns v -/
def own_pure (v : Option Value) (h0 : Heap) (n0 : Nat) (w : Option Value) (h : Heap) (L : List Loc) : Prop := w = v ∧ Fr n0 L ∧ h = h0
/-- a contract's word, held together -/
def own_R (Q : Option Value → Heap → List Loc → Prop) : Option Value → Heap → List Loc → Prop := Q
theorem own_endZ {Q : Option Value → Heap → List Loc → Prop} (X : Stand p l e R s m args below meth c T locs cells slots) (hx : p.tables.exec = Jvm.exec) (hret : meth.sig.returnType = some .boolean) (hlk : meth.locks = false) {pc : Nat} {Ls : Array Slot} {z : Int32} {rest : List Value}
    (hd : decode c.code pc = .ok (.ireturn, 1)) (hn : narrow .boolean (.int z) = .int z) (hc : cells ≤ R.cells) (hs : slots ≤ R.slots) (hQ : Q (some (.int z)) T.heap locs) : own_Go p e below (own_P Q R s) T (mkF m pc Ls (.int z :: rest)) := by
  obtain ⟨fs, hr, hrun, hended, hW, hsame⟩ := X.leave (v := some (.int z)) (fun h => by rw [hret] at h; cases h) hlk
  exact ⟨_, _, retOut X hx hret hn (Or.inl ⟨rfl, Or.inr (Or.inl rfl), z, rfl⟩) hd hr, hrun, hended, _, _, rfl, hQ, ⟨_, rfl⟩, hW, hsame.mono hc hs⟩
theorem own_endI {Q : Option Value → Heap → List Loc → Prop} (X : Stand p l e R s m args below meth c T locs cells slots) (hx : p.tables.exec = Jvm.exec) (hret : meth.sig.returnType = some .int) (hlk : meth.locks = false) {pc : Nat} {Ls : Array Slot} {z : Int32} {rest : List Value}
    (hd : decode c.code pc = .ok (.ireturn, 1)) (hc : cells ≤ R.cells) (hs : slots ≤ R.slots) (hQ : Q (some (.int z)) T.heap locs) : own_Go p e below (own_P Q R s) T (mkF m pc Ls (.int z :: rest)) := by
  obtain ⟨fs, hr, hrun, hended, hW, hsame⟩ := X.leave (v := some (.int z)) (fun h => by rw [hret] at h; cases h) hlk
  exact ⟨_, _, retOut X hx hret rfl (Or.inl ⟨rfl, Or.inl rfl, z, rfl⟩) hd hr, hrun, hended, _, _, rfl, hQ, ⟨_, rfl⟩, hW, hsame.mono hc hs⟩
theorem own_endJ {Q : Option Value → Heap → List Loc → Prop} (X : Stand p l e R s m args below meth c T locs cells slots) (hx : p.tables.exec = Jvm.exec) (hret : meth.sig.returnType = some .long) (hlk : meth.locks = false) {pc : Nat} {Ls : Array Slot} {z : Int64} {rest : List Value}
    (hd : decode c.code pc = .ok (.lreturn, 1)) (hc : cells ≤ R.cells) (hs : slots ≤ R.slots) (hQ : Q (some (.long z)) T.heap locs) : own_Go p e below (own_P Q R s) T (mkF m pc Ls (.long z :: rest)) := by
  obtain ⟨fs, hr, hrun, hended, hW, hsame⟩ := X.leave (v := some (.long z)) (fun h => by rw [hret] at h; cases h) hlk
  exact ⟨_, _, retOut X hx hret rfl (Or.inr (Or.inl ⟨rfl, rfl, z, rfl⟩)) hd hr, hrun, hended, _, _, rfl, hQ, ⟨_, rfl⟩, hW, hsame.mono hc hs⟩
theorem own_endA {Q : Option Value → Heap → List Loc → Prop} {t : FieldType} (X : Stand p l e R s m args below meth c T locs cells slots) (hx : p.tables.exec = Jvm.exec) (hret : meth.sig.returnType = some t) (ht : t.isReference = true) (hlk : meth.locks = false) {pc : Nat} {Ls : Array Slot} {a : Addr} {rest : List Value}
    (hd : decode c.code pc = .ok (.areturn, 1)) (hn : narrow t (.ref a) = .ref a) (hc : cells ≤ R.cells) (hs : slots ≤ R.slots) (hQ : Q (some (.ref a)) T.heap locs) : own_Go p e below (own_P Q R s) T (mkF m pc Ls (.ref a :: rest)) := by
  obtain ⟨fs, hr, hrun, hended, hW, hsame⟩ := X.leave (v := some (.ref a)) (fun h => by rw [hret] at h; cases h) hlk
  exact ⟨_, _, retOut X hx hret hn (Or.inr (Or.inr (Or.inr (Or.inr ⟨rfl, ht, rfl⟩)))) hd hr, hrun, hended, _, _, rfl, hQ, ⟨_, rfl⟩, hW, hsame.mono hc hs⟩
theorem own_endV {Q : Option Value → Heap → List Loc → Prop} (X : Stand p l e R s m args below meth c T locs cells slots) (hx : p.tables.exec = Jvm.exec) (hret : meth.sig.returnType = none) (hlk : meth.locks = false) {pc : Nat} {Ls : Array Slot}
    (hd : decode c.code pc = .ok (.return_, 1)) (hc : cells ≤ R.cells) (hs : slots ≤ R.slots) (hQ : Q none T.heap locs) : own_Go p e below (own_P Q R s) T (mkF m pc Ls []) := by
  obtain ⟨fs, hr, hrun, hended, hW, hsame⟩ := X.leave (v := none) (fun _ => rfl) hlk
  exact ⟨_, _, X.returnOut hx hret hd hr, hrun, hended, _, _, rfl, hQ, ⟨_, rfl⟩, hW, hsame.mono hc hs⟩
/-- a static call, paid by the callee's contract -/
theorem own_callS (X : Stand p l e R s m args below meth c T locs cells slots) (hx : p.tables.exec = Jvm.exec) (hZ : Z.Warmed39 s.vm) {own : String} {index : Nat} {y : MethodName} {bytes : ByteArray} {maxL : Nat} {ret : Option FieldType} (hown : s.vm.findClass own = some m.cls)
    (w1 : (Cond.methodLink own index y).before a0 Z = true) (w2 : (Cond.static y).before a0 Z = true) (w3 : (Cond.initialized y.cls).before a0 Z = true) (w4 : (Cond.code y bytes maxL ret).before a0 Z = true) (hy : y.cls ≠ "java/lang/invoke/MethodHandle" ∧ y.cls ≠ "java/lang/invoke/VarHandle")
    {rm : Room} {as' : Array Value} {Q : Option Value → Heap → List Loc → Prop}
    (hM : MetFree l y (head1 [Cond.code y bytes maxL ret] rm) (fun a U => a = as' ∧ Z.Warmed39 U.vm ∧ U.heap = h) (fun _ _ _ _ _ => True) (fun _ U o U' => ∃ v L, o = .returned v ∧ Q v U'.heap L ∧ FrameEnd U o U' L rm.cells rm.slots))
    {Ls : Array Slot} {st : List Value} {W : Nat} (hf : rm.frames + 1 ≤ R.frames) (hl : W + (maxL + 11) + rm.locals ≤ R.locals) {pc : Nat} (hsize : Ls.size = c.maxLocals) {argsL rest : List Value} (hlen : ∀ sig, parseMethodDescriptor y.desc = some sig → argsL.length = sig.parameters.length)
    (has : argsL.toArray = as') (hstack : st = argsL.reverse ++ rest) (hW : (rest.map fun v => v.category).sum ≤ W) (hd : decode c.code pc = .ok (.invokestatic index, 3)) (eT : T.heap = h) (hc : cells + rm.cells ≤ R.cells) (hs : slots + rm.slots ≤ R.slots) :
    ∃ T' v L, Stand p l e R s m args below meth c T' (locs ++ L) (cells + rm.cells) (slots + rm.slots) ∧ Q v T'.heap L ∧ ∀ target, Steps p.tables e below (T'.setTop (mkF m (pc + 3) Ls (v.toList ++ rest))) target → Steps p.tables e below (T.setTop (mkF m pc Ls st)) target := by
  obtain ⟨v, _, ⟨T', L', k', n'⟩, -, X', ⟨L, hQ, l1, l2, l3⟩, st'⟩ := Jvm.LawKit.callS X hx (y := y) hown (mvT hZ w1) (mvT hZ w2) (mvT hZ w3) (mvT hZ w4) hy (backOf (W := W) hM hZ w4 w3 hf hl) (g := mkF m pc Ls st) rfl hsize (argsL := argsL) (rest := rest) hlen hstack (by show 2 * 0 + _ ≤ _; omega) hd (fun _ _ => ⟨has, eT, hc, hs⟩)
  dsimp only [Pt.U, Pt.locs, Pt.cells, Pt.slots] at X' l1 l2 l3 st' hQ
  subst l1 l2 l3
  exact ⟨T', v, L, X', hQ, st'⟩
/-- a constructor's call, paid by its contract -/
theorem own_callC (X : Stand p l e R s m args below meth c T locs cells slots) (hx : p.tables.exec = Jvm.exec) (hZ : Z.Warmed39 s.vm) {own : String} {index : Nat} {y : MethodName} {bytes : ByteArray} {maxL : Nat} (hy1 : y.name = "<init>") (hown : s.vm.findClass own = some m.cls)
    (w1 : (Cond.methodLink own index y).before a0 Z = true) (w2 : (Cond.instanceMethod y).before a0 Z = true) (w3 : (Cond.initialized y.cls).before a0 Z = true) (w4 : (Cond.code y bytes maxL none).before a0 Z = true) (hy : y.cls ≠ "java/lang/invoke/MethodHandle" ∧ y.cls ≠ "java/lang/invoke/VarHandle")
    {rm : Room} {as' : Array Value} {Q : Option Value → Heap → List Loc → Prop}
    (hM : MetFree l y (head1 [Cond.code y bytes maxL none] rm) (fun a U => a = as' ∧ Z.Warmed39 U.vm ∧ U.heap = h) (fun _ _ _ _ _ => True) (fun _ U o U' => ∃ v L, o = .returned v ∧ Q v U'.heap L ∧ FrameEnd U o U' L rm.cells rm.slots))
    {Ls : Array Slot} {st : List Value} {W : Nat} (hf : rm.frames + 1 ≤ R.frames) (hl : W + (maxL + 11) + rm.locals ≤ R.locals) {pc : Nat} (hsize : Ls.size = c.maxLocals) {a : Addr} {argsL rest : List Value} (hlen : ∀ sig, parseMethodDescriptor y.desc = some sig → argsL.length = sig.parameters.length)
    (has : (.ref a :: argsL).toArray = as') (hstack : st = argsL.reverse ++ .ref a :: rest) (hW : (rest.map fun v => v.category).sum ≤ W) (hd : decode c.code pc = .ok (.invokespecial index, 3)) (eT : T.heap = h) (hc : cells + rm.cells ≤ R.cells) (hs : slots + rm.slots ≤ R.slots) :
    ∃ T' v L, Stand p l e R s m args below meth c T' (locs ++ L) (cells + rm.cells) (slots + rm.slots) ∧ Q v T'.heap L ∧ ∀ target, Steps p.tables e below (T'.setTop (mkF m (pc + 3) Ls (v.toList ++ rest))) target → Steps p.tables e below (T.setTop (mkF m pc Ls st)) target := by
  obtain ⟨v, _, ⟨T', L', k', n'⟩, -, X', ⟨L, hQ, l1, l2, l3⟩, st'⟩ := X.specialBack hx (y := y) hy1 hown (mvT hZ w1) (mvT hZ w2) (mvT hZ w4) hy (backOf (W := W) hM hZ w4 w3 hf hl) (g := mkF m pc Ls st) rfl hsize (Steps.refl _) (a := a) (argsL := argsL) (rest := rest) hlen hstack (by show 2 * 0 + _ ≤ _; omega) hd (fun _ _ => ⟨has, eT, hc, hs⟩)
  dsimp only [Pt.U, Pt.locs, Pt.cells, Pt.slots] at X' l1 l2 l3 st' hQ
  subst l1 l2 l3
  exact ⟨T', v, L, X', hQ, fun _ k => st'.trans k⟩
/-- an instance method's call, paid by its contract -/
theorem own_callV (X : Stand p l e R s m args below meth c T locs cells slots) (hx : p.tables.exec = Jvm.exec) (hZ : Z.Warmed39 s.vm) {own : String} {index : Nat} {y : MethodName} {bytes : ByteArray} {maxL : Nat} {ret : Option FieldType} (hown : s.vm.findClass own = some m.cls)
    (w1 : (Cond.methodLink own index y).before a0 Z = true) (w2 : (Cond.declares y).before a0 Z = true) (w5 : (Cond.selects y.cls y y).before a0 Z = true) (w6 : (Cond.instanceMethod y).before a0 Z = true) (w3 : (Cond.initialized y.cls).before a0 Z = true) (w4 : (Cond.code y bytes maxL ret).before a0 Z = true) (hy : y.cls ≠ "java/lang/invoke/MethodHandle" ∧ y.cls ≠ "java/lang/invoke/VarHandle")
    {rm : Room} {as' : Array Value} {Q : Option Value → Heap → List Loc → Prop}
    (hM : MetFree l y (head1 [Cond.code y bytes maxL ret] rm) (fun a U => a = as' ∧ Z.Warmed39 U.vm ∧ U.heap = h) (fun _ _ _ _ _ => True) (fun _ U o U' => ∃ v L, o = .returned v ∧ Q v U'.heap L ∧ FrameEnd U o U' L rm.cells rm.slots))
    {a : Addr} (E : Exa Z h a y.cls)
    {Ls : Array Slot} {st : List Value} {W : Nat} (hf : rm.frames + 1 ≤ R.frames) (hl : W + (maxL + 11) + rm.locals ≤ R.locals) {pc : Nat} (hsize : Ls.size = c.maxLocals) {argsL rest : List Value} (hlen : ∀ sig, parseMethodDescriptor y.desc = some sig → argsL.length = sig.parameters.length)
    (has : (.ref a :: argsL).toArray = as') (hstack : st = argsL.reverse ++ .ref a :: rest) (hW : (rest.map fun v => v.category).sum ≤ W) (hd : decode c.code pc = .ok (.invokevirtual index, 3)) (eT : T.heap = h) (hc : cells + rm.cells ≤ R.cells) (hs : slots + rm.slots ≤ R.slots) :
    ∃ T' v L, Stand p l e R s m args below meth c T' (locs ++ L) (cells + rm.cells) (slots + rm.slots) ∧ Q v T'.heap L ∧ ∀ target, Steps p.tables e below (T'.setTop (mkF m (pc + 3) Ls (v.toList ++ rest))) target → Steps p.tables e below (T.setTop (mkF m pc Ls st)) target := by
  obtain ⟨cq, kq, qa, qb, qc⟩ := isOf hZ eT E
  obtain ⟨v, _, ⟨T', L', k', n'⟩, -, X', ⟨L, hQ, l1, l2, l3⟩, st'⟩ := X.virtualBack hx (y := y) (z := y) hown (mvT hZ w1) (mvT hZ w2) (notFace_of_selects (args := #[]) (mvT hZ w5)) (mvT hZ w5) (mvT hZ w6) hy (backOf (W := W) hM hZ w4 w3 hf hl) qa qc (g := mkF m pc Ls st) rfl hsize (Steps.refl _) (argsL := argsL) (rest := rest) hlen hstack (by show 2 * 0 + _ ≤ _; omega) hd (fun _ _ => ⟨has, eT, hc, hs⟩)
  dsimp only [Pt.U, Pt.locs, Pt.cells, Pt.slots] at X' l1 l2 l3 st' hQ
  subst l1 l2 l3
  exact ⟨T', v, L, X', hQ, fun _ k => st'.trans k⟩
/-- a private instance method's call by invokevirtual, paid by its contract; that the class is no interface, another method's 'selects' word says -/
theorem own_callP (X : Stand p l e R s m args below meth c T locs cells slots) (hx : p.tables.exec = Jvm.exec) (hZ : Z.Warmed39 s.vm) {own : String} {index : Nat} {y z : MethodName} {bytes : ByteArray} {maxL : Nat} {ret : Option FieldType} (hown : s.vm.findClass own = some m.cls)
    (w1 : (Cond.methodLink own index y).before a0 Z = true) (wp : (Cond.privateMethod y).before a0 Z = true) (w5 : (Cond.selects y.cls z z).before a0 Z = true) (hz : z.cls = y.cls) (w6 : (Cond.instanceMethod y).before a0 Z = true) (w3 : (Cond.initialized y.cls).before a0 Z = true) (w4 : (Cond.code y bytes maxL ret).before a0 Z = true) (hy : y.cls ≠ "java/lang/invoke/MethodHandle" ∧ y.cls ≠ "java/lang/invoke/VarHandle")
    {rm : Room} {as' : Array Value} {Q : Option Value → Heap → List Loc → Prop}
    (hM : MetFree l y (head1 [Cond.code y bytes maxL ret] rm) (fun a U => a = as' ∧ Z.Warmed39 U.vm ∧ U.heap = h) (fun _ _ _ _ _ => True) (fun _ U o U' => ∃ v L, o = .returned v ∧ Q v U'.heap L ∧ FrameEnd U o U' L rm.cells rm.slots))
    {a : Addr} (E : Exa Z h a y.cls)
    {Ls : Array Slot} {st : List Value} {W : Nat} (hf : rm.frames + 1 ≤ R.frames) (hl : W + (maxL + 11) + rm.locals ≤ R.locals) {pc : Nat} (hsize : Ls.size = c.maxLocals) {argsL rest : List Value} (hlen : ∀ sig, parseMethodDescriptor y.desc = some sig → argsL.length = sig.parameters.length)
    (has : (.ref a :: argsL).toArray = as') (hstack : st = argsL.reverse ++ .ref a :: rest) (hW : (rest.map fun v => v.category).sum ≤ W) (hd : decode c.code pc = .ok (.invokevirtual index, 3)) (eT : T.heap = h) (hc : cells + rm.cells ≤ R.cells) (hs : slots + rm.slots ≤ R.slots) :
    ∃ T' v L, Stand p l e R s m args below meth c T' (locs ++ L) (cells + rm.cells) (slots + rm.slots) ∧ Q v T'.heap L ∧ ∀ target, Steps p.tables e below (T'.setTop (mkF m (pc + 3) Ls (v.toList ++ rest))) target → Steps p.tables e below (T.setTop (mkF m pc Ls st)) target := by
  have hpriv : s.PrivateAt y := Cond.privateMethod_at (mvP hZ wp (args := #[]))
  obtain ⟨c2, r2, m2, q1, q2, q3, q4, kP, hkP, hkPi⟩ := Cond.selects_spec (show (Cond.selects y.cls z z).before args s = true from mvT hZ w5)
  have hcl : s.vm.findClass y.cls = some m2.cls := by rw [← hz]; exact findClass_of_methodNamed q3
  have hsel := selects_self_of_private (args := args) hcl hkP hkPi hpriv (mvT hZ w6) hy
  obtain ⟨cell, hcell, hobj⟩ := E.cell
  obtain ⟨v, _, ⟨T', L', k', n'⟩, -, X', ⟨L, hQ, l1, l2, l3⟩, st'⟩ := X.privateBack hx (y := y) hown (mvT hZ w1) (mvT hZ w6) hsel hpriv (mvT hZ w4) hy (backOf (W := W) hM hZ w4 w3 hf hl) (g := mkF m pc Ls st) rfl hsize (Steps.refl _) (a := a) (by rw [eT]; exact hcell) hobj (argsL := argsL) (rest := rest) hlen hstack (by show 2 * 0 + _ ≤ _; omega) hd (fun _ _ => ⟨has, eT, hc, hs⟩)
  dsimp only [Pt.U, Pt.locs, Pt.cells, Pt.slots] at X' l1 l2 l3 st' hQ
  subst l1 l2 l3
  exact ⟨T', v, L, X', hQ, fun _ k => st'.trans k⟩
end Own
theorem pd_0 : parseMethodDescriptor "(II)I" = some ⟨[.int, .int], some .int⟩ := by decide +kernel
theorem pd_1 : parseMethodDescriptor "()J" = some ⟨[], some .long⟩ := by decide +kernel
theorem pd_2 : parseMethodDescriptor "()V" = some ⟨[], none⟩ := by decide +kernel
theorem pd_3 : parseMethodDescriptor "(J)V" = some ⟨[.long], none⟩ := by decide +kernel
theorem pn_0 : plainName "com/example/seongsu/seongsu/core/ChunkCounts" = true := by first | (simp [plainName, overriddenIn]; done) | decide +kernel
theorem pn_1 : plainName "com/example/seongsu/seongsu/core/ChunkCountsGetSkipsPinLaw" = true := by first | (simp [plainName, overriddenIn]; done) | decide +kernel
theorem d1_0 : decode prog_12_method_1_code 0 = .ok (.aload_n 0, 1) := by decide +kernel
theorem d1_1 : decode prog_12_method_1_code 1 = .ok (.invokespecial 1, 3) := by decide +kernel
theorem d1_4 : decode prog_12_method_1_code 4 = .ok (.return_, 1) := by decide +kernel
theorem d3_0 : decode method_2_code 0 = .ok (.iload_n 0, 1) := by decide +kernel
theorem d3_1 : decode method_2_code 1 = .ok (.iload_n 1, 1) := by decide +kernel
theorem d3_2 : decode method_2_code 2 = .ok (.iushr, 1) := by decide +kernel
theorem d3_3 : decode method_2_code 3 = .ok (.iconst 1, 1) := by decide +kernel
theorem d3_4 : decode method_2_code 4 = .ok (.iand, 1) := by decide +kernel
theorem d3_5 : decode method_2_code 5 = .ok (.ireturn, 1) := by decide +kernel
theorem d4_0 : decode prog_12_method_14_code 0 = .ok (.aload_n 0, 1) := by decide +kernel
theorem d4_1 : decode prog_12_method_14_code 1 = .ok (.getfield 19, 3) := by decide +kernel
theorem d4_4 : decode prog_12_method_14_code 4 = .ok (.aload_n 0, 1) := by decide +kernel
theorem d4_5 : decode prog_12_method_14_code 5 = .ok (.getfield 22, 3) := by decide +kernel
theorem d4_8 : decode prog_12_method_14_code 8 = .ok (.ladd, 1) := by decide +kernel
theorem d4_9 : decode prog_12_method_14_code 9 = .ok (.aload_n 0, 1) := by decide +kernel
theorem d4_10 : decode prog_12_method_14_code 10 = .ok (.getfield 25, 3) := by decide +kernel
theorem d4_13 : decode prog_12_method_14_code 13 = .ok (.ladd, 1) := by decide +kernel
theorem d4_14 : decode prog_12_method_14_code 14 = .ok (.lreturn, 1) := by decide +kernel
theorem d5_0 : decode prog_12_method_5_code 0 = .ok (.aload_n 0, 1) := by decide +kernel
theorem d5_1 : decode prog_12_method_5_code 1 = .ok (.dup, 1) := by decide +kernel
theorem d5_2 : decode prog_12_method_5_code 2 = .ok (.getfield 19, 3) := by decide +kernel
theorem d5_5 : decode prog_12_method_5_code 5 = .ok (.lconst 1, 1) := by decide +kernel
theorem d5_6 : decode prog_12_method_5_code 6 = .ok (.ladd, 1) := by decide +kernel
theorem d5_7 : decode prog_12_method_5_code 7 = .ok (.putfield 19, 3) := by decide +kernel
theorem d5_10 : decode prog_12_method_5_code 10 = .ok (.return_, 1) := by decide +kernel
theorem d7_0 : decode prog_12_method_6_code 0 = .ok (.aload_n 0, 1) := by decide +kernel
theorem d7_1 : decode prog_12_method_6_code 1 = .ok (.dup, 1) := by decide +kernel
theorem d7_2 : decode prog_12_method_6_code 2 = .ok (.getfield 22, 3) := by decide +kernel
theorem d7_5 : decode prog_12_method_6_code 5 = .ok (.lconst 1, 1) := by decide +kernel
theorem d7_6 : decode prog_12_method_6_code 6 = .ok (.ladd, 1) := by decide +kernel
theorem d7_7 : decode prog_12_method_6_code 7 = .ok (.putfield 22, 3) := by decide +kernel
theorem d7_10 : decode prog_12_method_6_code 10 = .ok (.return_, 1) := by decide +kernel
theorem d8_0 : decode prog_12_method_7_code 0 = .ok (.aload_n 0, 1) := by decide +kernel
theorem d8_1 : decode prog_12_method_7_code 1 = .ok (.dup, 1) := by decide +kernel
theorem d8_2 : decode prog_12_method_7_code 2 = .ok (.getfield 25, 3) := by decide +kernel
theorem d8_5 : decode prog_12_method_7_code 5 = .ok (.lconst 1, 1) := by decide +kernel
theorem d8_6 : decode prog_12_method_7_code 6 = .ok (.ladd, 1) := by decide +kernel
theorem d8_7 : decode prog_12_method_7_code 7 = .ok (.putfield 25, 3) := by decide +kernel
theorem d8_10 : decode prog_12_method_7_code 10 = .ok (.return_, 1) := by decide +kernel
theorem d6_0 : decode prog_12_method_2_code 0 = .ok (.aload_n 0, 1) := by decide +kernel
theorem d6_1 : decode prog_12_method_2_code 1 = .ok (.dup, 1) := by decide +kernel
theorem d6_2 : decode prog_12_method_2_code 2 = .ok (.getfield 7, 3) := by decide +kernel
theorem d6_5 : decode prog_12_method_2_code 5 = .ok (.lconst 1, 1) := by decide +kernel
theorem d6_6 : decode prog_12_method_2_code 6 = .ok (.ladd, 1) := by decide +kernel
theorem d6_7 : decode prog_12_method_2_code 7 = .ok (.putfield 7, 3) := by decide +kernel
theorem d6_10 : decode prog_12_method_2_code 10 = .ok (.return_, 1) := by decide +kernel
theorem d9_0 : decode prog_12_method_4_code 0 = .ok (.aload_n 0, 1) := by decide +kernel
theorem d9_1 : decode prog_12_method_4_code 1 = .ok (.dup, 1) := by decide +kernel
theorem d9_2 : decode prog_12_method_4_code 2 = .ok (.getfield 16, 3) := by decide +kernel
theorem d9_5 : decode prog_12_method_4_code 5 = .ok (.lload_n 1, 1) := by decide +kernel
theorem d9_6 : decode prog_12_method_4_code 6 = .ok (.ladd, 1) := by decide +kernel
theorem d9_7 : decode prog_12_method_4_code 7 = .ok (.putfield 16, 3) := by decide +kernel
theorem d9_10 : decode prog_12_method_4_code 10 = .ok (.return_, 1) := by decide +kernel
theorem d10_0 : decode prog_12_method_3_code 0 = .ok (.aload_n 0, 1) := by decide +kernel
theorem d10_1 : decode prog_12_method_3_code 1 = .ok (.dup, 1) := by decide +kernel
theorem d10_2 : decode prog_12_method_3_code 2 = .ok (.getfield 13, 3) := by decide +kernel
theorem d10_5 : decode prog_12_method_3_code 5 = .ok (.lconst 1, 1) := by decide +kernel
theorem d10_6 : decode prog_12_method_3_code 6 = .ok (.ladd, 1) := by decide +kernel
theorem d10_7 : decode prog_12_method_3_code 7 = .ok (.putfield 13, 3) := by decide +kernel
theorem d10_10 : decode prog_12_method_3_code 10 = .ok (.return_, 1) := by decide +kernel
/-- what bit returns -/
def own_bit (f i : Int32) : Int32 := ((f.toUInt32 >>> (i &&& 31).toUInt32).toInt32) &&& (1 : Int32)
theorem own_bit01 (f i : Int32) : own_bit f i = 0 ∨ own_bit f i = 1 := by
  have h := c_mask ((f.toUInt32 >>> (i &&& 31).toUInt32).toInt32) 1 1 (by decide) (by decide)
  have e0 : (0 : Int32).toInt = 0 := rfl
  have e1 : (1 : Int32).toInt = 1 := rfl
  have h2 : (own_bit f i).toInt = 0 ∨ (own_bit f i).toInt = 1 := by unfold own_bit; omega
  rcases h2 with h2 | h2
  · left; exact Int32.toInt_inj.mp (by rw [h2, e0])
  · right; exact Int32.toInt_inj.mp (by rw [h2, e1])
theorem own_up1 {a b : Int32} (ha : a = 0 ∨ a = 1) (hb0 : b = 0 ∨ b = 1) (hb : ¬ b = 0) : a.toInt64 + (1 : Int64) = (a + b).toInt64 := by
  rcases hb0 with h | h
  · exact absurd h hb
  · subst h; rcases ha with h | h <;> subst h <;> decide
theorem own_up0 {b : Int32} (hb0 : b = 0 ∨ b = 1) (hb : ¬ b = 0) : (0 : Int64) + (1 : Int64) = b.toInt64 := by
  rcases hb0 with h | h
  · exact absurd h hb
  · subst h; decide
theorem own_st1 {a b : Int32} (hb : b = 0) : a.toInt64 = (a + b).toInt64 := by rw [hb, Int32.add_zero]
theorem own_st0 {b : Int32} (hb : b = 0) : (0 : Int64) = b.toInt64 := by rw [hb]; decide
/-- the object, its six fields; the last three hold anything -/
def own_Ob (Z : State) (h : Heap) (a : Addr) (r p w : Int64) : Prop := Exa Z h a "com/example/seongsu/seongsu/core/ChunkCounts" ∧ Fld Z h a "com/example/seongsu/seongsu/core/ChunkCounts" "readSkips" "J" (.long r) ∧ Fld Z h a "com/example/seongsu/seongsu/core/ChunkCounts" "processSkips" "J" (.long p) ∧ Fld Z h a "com/example/seongsu/seongsu/core/ChunkCounts" "writeSkips" "J" (.long w) ∧ ∃ x y z, Fld Z h a "com/example/seongsu/seongsu/core/ChunkCounts" "read" "J" (.long x) ∧ Fld Z h a "com/example/seongsu/seongsu/core/ChunkCounts" "written" "J" (.long y) ∧ Fld Z h a "com/example/seongsu/seongsu/core/ChunkCounts" "filtered" "J" (.long z)
theorem own_wr0 {Z : State} {a0 : Array Value} (hw : ∀ d ∈ tables_1, d.before a0 Z = true) {h h' : Heap} {a : Addr} {r p w u : Int64} (O : own_Ob Z h a r p w) (W : Wr h h' a (Jvm.RoadKit.slotOf Z "com/example/seongsu/seongsu/core/ChunkCounts" "readSkips" "J") (.long u)) : own_Ob Z h' a u p w := by
  obtain ⟨E, F0, F1, F2, x, y, z, F3, F4, F5⟩ := O
  exact ⟨E.wr W, F0.same W, F1.other W (Or.inr (slot_ne (Z := Z) (a0 := a0) (C := "com/example/seongsu/seongsu/core/ChunkCounts") (Or.inl (hw _ (List.mem_of_getElem? (i := 21) rfl))) (Or.inl (hw _ (List.mem_of_getElem? (i := 19) rfl))) (by decide) (t := .long) (t' := .long) (by decide) (by decide))), F2.other W (Or.inr (slot_ne (Z := Z) (a0 := a0) (C := "com/example/seongsu/seongsu/core/ChunkCounts") (Or.inl (hw _ (List.mem_of_getElem? (i := 23) rfl))) (Or.inl (hw _ (List.mem_of_getElem? (i := 19) rfl))) (by decide) (t := .long) (t' := .long) (by decide) (by decide))), x, y, z, F3.other W (Or.inr (slot_ne (Z := Z) (a0 := a0) (C := "com/example/seongsu/seongsu/core/ChunkCounts") (Or.inl (hw _ (List.mem_of_getElem? (i := 35) rfl))) (Or.inl (hw _ (List.mem_of_getElem? (i := 19) rfl))) (by decide) (t := .long) (t' := .long) (by decide) (by decide))), F4.other W (Or.inr (slot_ne (Z := Z) (a0 := a0) (C := "com/example/seongsu/seongsu/core/ChunkCounts") (Or.inl (hw _ (List.mem_of_getElem? (i := 52) rfl))) (Or.inl (hw _ (List.mem_of_getElem? (i := 19) rfl))) (by decide) (t := .long) (t' := .long) (by decide) (by decide))), F5.other W (Or.inr (slot_ne (Z := Z) (a0 := a0) (C := "com/example/seongsu/seongsu/core/ChunkCounts") (Or.inl (hw _ (List.mem_of_getElem? (i := 59) rfl))) (Or.inl (hw _ (List.mem_of_getElem? (i := 19) rfl))) (by decide) (t := .long) (t' := .long) (by decide) (by decide)))⟩
theorem own_wr1 {Z : State} {a0 : Array Value} (hw : ∀ d ∈ tables_1, d.before a0 Z = true) {h h' : Heap} {a : Addr} {r p w u : Int64} (O : own_Ob Z h a r p w) (W : Wr h h' a (Jvm.RoadKit.slotOf Z "com/example/seongsu/seongsu/core/ChunkCounts" "processSkips" "J") (.long u)) : own_Ob Z h' a r u w := by
  obtain ⟨E, F0, F1, F2, x, y, z, F3, F4, F5⟩ := O
  exact ⟨E.wr W, F0.other W (Or.inr (slot_ne (Z := Z) (a0 := a0) (C := "com/example/seongsu/seongsu/core/ChunkCounts") (Or.inl (hw _ (List.mem_of_getElem? (i := 19) rfl))) (Or.inl (hw _ (List.mem_of_getElem? (i := 21) rfl))) (by decide) (t := .long) (t' := .long) (by decide) (by decide))), F1.same W, F2.other W (Or.inr (slot_ne (Z := Z) (a0 := a0) (C := "com/example/seongsu/seongsu/core/ChunkCounts") (Or.inl (hw _ (List.mem_of_getElem? (i := 23) rfl))) (Or.inl (hw _ (List.mem_of_getElem? (i := 21) rfl))) (by decide) (t := .long) (t' := .long) (by decide) (by decide))), x, y, z, F3.other W (Or.inr (slot_ne (Z := Z) (a0 := a0) (C := "com/example/seongsu/seongsu/core/ChunkCounts") (Or.inl (hw _ (List.mem_of_getElem? (i := 35) rfl))) (Or.inl (hw _ (List.mem_of_getElem? (i := 21) rfl))) (by decide) (t := .long) (t' := .long) (by decide) (by decide))), F4.other W (Or.inr (slot_ne (Z := Z) (a0 := a0) (C := "com/example/seongsu/seongsu/core/ChunkCounts") (Or.inl (hw _ (List.mem_of_getElem? (i := 52) rfl))) (Or.inl (hw _ (List.mem_of_getElem? (i := 21) rfl))) (by decide) (t := .long) (t' := .long) (by decide) (by decide))), F5.other W (Or.inr (slot_ne (Z := Z) (a0 := a0) (C := "com/example/seongsu/seongsu/core/ChunkCounts") (Or.inl (hw _ (List.mem_of_getElem? (i := 59) rfl))) (Or.inl (hw _ (List.mem_of_getElem? (i := 21) rfl))) (by decide) (t := .long) (t' := .long) (by decide) (by decide)))⟩
theorem own_wr2 {Z : State} {a0 : Array Value} (hw : ∀ d ∈ tables_1, d.before a0 Z = true) {h h' : Heap} {a : Addr} {r p w u : Int64} (O : own_Ob Z h a r p w) (W : Wr h h' a (Jvm.RoadKit.slotOf Z "com/example/seongsu/seongsu/core/ChunkCounts" "writeSkips" "J") (.long u)) : own_Ob Z h' a r p u := by
  obtain ⟨E, F0, F1, F2, x, y, z, F3, F4, F5⟩ := O
  exact ⟨E.wr W, F0.other W (Or.inr (slot_ne (Z := Z) (a0 := a0) (C := "com/example/seongsu/seongsu/core/ChunkCounts") (Or.inl (hw _ (List.mem_of_getElem? (i := 19) rfl))) (Or.inl (hw _ (List.mem_of_getElem? (i := 23) rfl))) (by decide) (t := .long) (t' := .long) (by decide) (by decide))), F1.other W (Or.inr (slot_ne (Z := Z) (a0 := a0) (C := "com/example/seongsu/seongsu/core/ChunkCounts") (Or.inl (hw _ (List.mem_of_getElem? (i := 21) rfl))) (Or.inl (hw _ (List.mem_of_getElem? (i := 23) rfl))) (by decide) (t := .long) (t' := .long) (by decide) (by decide))), F2.same W, x, y, z, F3.other W (Or.inr (slot_ne (Z := Z) (a0 := a0) (C := "com/example/seongsu/seongsu/core/ChunkCounts") (Or.inl (hw _ (List.mem_of_getElem? (i := 35) rfl))) (Or.inl (hw _ (List.mem_of_getElem? (i := 23) rfl))) (by decide) (t := .long) (t' := .long) (by decide) (by decide))), F4.other W (Or.inr (slot_ne (Z := Z) (a0 := a0) (C := "com/example/seongsu/seongsu/core/ChunkCounts") (Or.inl (hw _ (List.mem_of_getElem? (i := 52) rfl))) (Or.inl (hw _ (List.mem_of_getElem? (i := 23) rfl))) (by decide) (t := .long) (t' := .long) (by decide) (by decide))), F5.other W (Or.inr (slot_ne (Z := Z) (a0 := a0) (C := "com/example/seongsu/seongsu/core/ChunkCounts") (Or.inl (hw _ (List.mem_of_getElem? (i := 59) rfl))) (Or.inl (hw _ (List.mem_of_getElem? (i := 23) rfl))) (by decide) (t := .long) (t' := .long) (by decide) (by decide)))⟩
theorem own_wr3 {Z : State} {a0 : Array Value} (hw : ∀ d ∈ tables_1, d.before a0 Z = true) {h h' : Heap} {a : Addr} {r p w u : Int64} (O : own_Ob Z h a r p w) (W : Wr h h' a (Jvm.RoadKit.slotOf Z "com/example/seongsu/seongsu/core/ChunkCounts" "read" "J") (.long u)) : own_Ob Z h' a r p w := by
  obtain ⟨E, F0, F1, F2, x, y, z, F3, F4, F5⟩ := O
  exact ⟨E.wr W, F0.other W (Or.inr (slot_ne (Z := Z) (a0 := a0) (C := "com/example/seongsu/seongsu/core/ChunkCounts") (Or.inl (hw _ (List.mem_of_getElem? (i := 19) rfl))) (Or.inl (hw _ (List.mem_of_getElem? (i := 35) rfl))) (by decide) (t := .long) (t' := .long) (by decide) (by decide))), F1.other W (Or.inr (slot_ne (Z := Z) (a0 := a0) (C := "com/example/seongsu/seongsu/core/ChunkCounts") (Or.inl (hw _ (List.mem_of_getElem? (i := 21) rfl))) (Or.inl (hw _ (List.mem_of_getElem? (i := 35) rfl))) (by decide) (t := .long) (t' := .long) (by decide) (by decide))), F2.other W (Or.inr (slot_ne (Z := Z) (a0 := a0) (C := "com/example/seongsu/seongsu/core/ChunkCounts") (Or.inl (hw _ (List.mem_of_getElem? (i := 23) rfl))) (Or.inl (hw _ (List.mem_of_getElem? (i := 35) rfl))) (by decide) (t := .long) (t' := .long) (by decide) (by decide))), u, y, z, F3.same W, F4.other W (Or.inr (slot_ne (Z := Z) (a0 := a0) (C := "com/example/seongsu/seongsu/core/ChunkCounts") (Or.inl (hw _ (List.mem_of_getElem? (i := 52) rfl))) (Or.inl (hw _ (List.mem_of_getElem? (i := 35) rfl))) (by decide) (t := .long) (t' := .long) (by decide) (by decide))), F5.other W (Or.inr (slot_ne (Z := Z) (a0 := a0) (C := "com/example/seongsu/seongsu/core/ChunkCounts") (Or.inl (hw _ (List.mem_of_getElem? (i := 59) rfl))) (Or.inl (hw _ (List.mem_of_getElem? (i := 35) rfl))) (by decide) (t := .long) (t' := .long) (by decide) (by decide)))⟩
theorem own_wr4 {Z : State} {a0 : Array Value} (hw : ∀ d ∈ tables_1, d.before a0 Z = true) {h h' : Heap} {a : Addr} {r p w u : Int64} (O : own_Ob Z h a r p w) (W : Wr h h' a (Jvm.RoadKit.slotOf Z "com/example/seongsu/seongsu/core/ChunkCounts" "written" "J") (.long u)) : own_Ob Z h' a r p w := by
  obtain ⟨E, F0, F1, F2, x, y, z, F3, F4, F5⟩ := O
  exact ⟨E.wr W, F0.other W (Or.inr (slot_ne (Z := Z) (a0 := a0) (C := "com/example/seongsu/seongsu/core/ChunkCounts") (Or.inl (hw _ (List.mem_of_getElem? (i := 19) rfl))) (Or.inl (hw _ (List.mem_of_getElem? (i := 52) rfl))) (by decide) (t := .long) (t' := .long) (by decide) (by decide))), F1.other W (Or.inr (slot_ne (Z := Z) (a0 := a0) (C := "com/example/seongsu/seongsu/core/ChunkCounts") (Or.inl (hw _ (List.mem_of_getElem? (i := 21) rfl))) (Or.inl (hw _ (List.mem_of_getElem? (i := 52) rfl))) (by decide) (t := .long) (t' := .long) (by decide) (by decide))), F2.other W (Or.inr (slot_ne (Z := Z) (a0 := a0) (C := "com/example/seongsu/seongsu/core/ChunkCounts") (Or.inl (hw _ (List.mem_of_getElem? (i := 23) rfl))) (Or.inl (hw _ (List.mem_of_getElem? (i := 52) rfl))) (by decide) (t := .long) (t' := .long) (by decide) (by decide))), x, u, z, F3.other W (Or.inr (slot_ne (Z := Z) (a0 := a0) (C := "com/example/seongsu/seongsu/core/ChunkCounts") (Or.inl (hw _ (List.mem_of_getElem? (i := 35) rfl))) (Or.inl (hw _ (List.mem_of_getElem? (i := 52) rfl))) (by decide) (t := .long) (t' := .long) (by decide) (by decide))), F4.same W, F5.other W (Or.inr (slot_ne (Z := Z) (a0 := a0) (C := "com/example/seongsu/seongsu/core/ChunkCounts") (Or.inl (hw _ (List.mem_of_getElem? (i := 59) rfl))) (Or.inl (hw _ (List.mem_of_getElem? (i := 52) rfl))) (by decide) (t := .long) (t' := .long) (by decide) (by decide)))⟩
theorem own_wr5 {Z : State} {a0 : Array Value} (hw : ∀ d ∈ tables_1, d.before a0 Z = true) {h h' : Heap} {a : Addr} {r p w u : Int64} (O : own_Ob Z h a r p w) (W : Wr h h' a (Jvm.RoadKit.slotOf Z "com/example/seongsu/seongsu/core/ChunkCounts" "filtered" "J") (.long u)) : own_Ob Z h' a r p w := by
  obtain ⟨E, F0, F1, F2, x, y, z, F3, F4, F5⟩ := O
  exact ⟨E.wr W, F0.other W (Or.inr (slot_ne (Z := Z) (a0 := a0) (C := "com/example/seongsu/seongsu/core/ChunkCounts") (Or.inl (hw _ (List.mem_of_getElem? (i := 19) rfl))) (Or.inl (hw _ (List.mem_of_getElem? (i := 59) rfl))) (by decide) (t := .long) (t' := .long) (by decide) (by decide))), F1.other W (Or.inr (slot_ne (Z := Z) (a0 := a0) (C := "com/example/seongsu/seongsu/core/ChunkCounts") (Or.inl (hw _ (List.mem_of_getElem? (i := 21) rfl))) (Or.inl (hw _ (List.mem_of_getElem? (i := 59) rfl))) (by decide) (t := .long) (t' := .long) (by decide) (by decide))), F2.other W (Or.inr (slot_ne (Z := Z) (a0 := a0) (C := "com/example/seongsu/seongsu/core/ChunkCounts") (Or.inl (hw _ (List.mem_of_getElem? (i := 23) rfl))) (Or.inl (hw _ (List.mem_of_getElem? (i := 59) rfl))) (by decide) (t := .long) (t' := .long) (by decide) (by decide))), x, y, u, F3.other W (Or.inr (slot_ne (Z := Z) (a0 := a0) (C := "com/example/seongsu/seongsu/core/ChunkCounts") (Or.inl (hw _ (List.mem_of_getElem? (i := 35) rfl))) (Or.inl (hw _ (List.mem_of_getElem? (i := 59) rfl))) (by decide) (t := .long) (t' := .long) (by decide) (by decide))), F4.other W (Or.inr (slot_ne (Z := Z) (a0 := a0) (C := "com/example/seongsu/seongsu/core/ChunkCounts") (Or.inl (hw _ (List.mem_of_getElem? (i := 52) rfl))) (Or.inl (hw _ (List.mem_of_getElem? (i := 59) rfl))) (by decide) (t := .long) (t' := .long) (by decide) (by decide))), F5.same W⟩
theorem ef_1 (m : MethodId) (x0 : Addr) : entryFrame m #[(.ref x0)] 1 = mkF m 0 #[.val (.ref x0)] [] := by first | (simp [entryFrame, mkF, argsToLocals, Value.category]; done) | rfl
set_option maxRecDepth 65536 in
set_option maxHeartbeats 40000000 in
theorem rmI (l : Launch) (Z : State) (a0 : Array Value) (hw : ∀ d ∈ tables_1, d.before a0 Z = true) (ws : List Jvm.Cond) (a1 : Addr) (h0 : Heap) (n0 : Nat) (Z0 : n0 ≤ h0.size)  :
    MetFree l (⟨"com/example/seongsu/seongsu/core/ChunkCounts", "<init>", "()V"⟩ : MethodName) (head1 (Jvm.Cond.code (⟨"com/example/seongsu/seongsu/core/ChunkCounts", "<init>", "()V"⟩ : MethodName) prog_12_method_1_code 1 none :: ws) ({ frames := 1, cells := 0, slots := 0, locals := 12 } : Room)) (fun a U => a = #[(.ref a1)] ∧ Z.Warmed39 U.vm ∧ U.heap = h0) (fun _ _ _ _ _ => True) (fun _ U o U' => ∃ v L, o = .returned v ∧ (own_pure none h0 n0) v U'.heap L ∧ FrameEnd U o U' L ({ frames := 1, cells := 0, slots := 0, locals := 12 } : Room).cells ({ frames := 1, cells := 0, slots := 0, locals := 12 } : Room).slots) := by
  refine MetFree.of_bodySF (plainFor_of_name pn_0) hisR ?_
  intro p e s m args below meth c s₁ Bd hml0 hP hK
  obtain ⟨rfl, hZ, hh⟩ := hP
  have hx := Bd.exec
  have hby := Bd.bytes
  have hml : c.maxLocals = 1 := hml0
  have hown : s.vm.findClass "com/example/seongsu/seongsu/core/ChunkCounts" = some m.cls := findClass_of_methodNamed Bd.named
  have hnm := (name_of_methodNamed Bd.named Bd.method).1
  have hret := Bd.returns
  have hlk : meth.locks = false := Bd.notSynchronized
  have X0 : Stand p l e ({ frames := 1, cells := 0, slots := 0, locals := 12 } : Room) s m #[(.ref a1)] below meth c s₁ [] 0 0 := Stand.of_body Bd
  have e0 : s₁.heap = h0 := by rw [← hh, Bd.state]; rfl
  have N0 := Fr.nil n0
  show own_Go p e below (own_P (own_pure none h0 n0) ({ frames := 1, cells := 0, slots := 0, locals := 12 } : Room) s) s₁ (entryFrame m #[(.ref a1)] 1)
  rw [ef_1 m a1]
  show own_Go p e below _ s₁ (mkF m 0 #[.val (.ref a1)] [])
  refine own_go (fun _ k => XS.aloadN X0.here hx rfl (hb hby d1_0) rfl rfl k) ?_
  show own_Go p e below _ s₁ (mkF m 1 #[.val (.ref a1)] [(.ref a1)])
  obtain ⟨T1, X1, e1, st1⟩ := initO X0 hx hZ hown (hw _ (List.mem_of_getElem? (i := 6) rfl)) (hw _ (List.mem_of_getElem? (i := 7) rfl)) (hw _ (List.mem_of_getElem? (i := 8) rfl)) e0 (g := (mkF m 1 #[.val (.ref a1)] [(.ref a1)])) rfl (by rw [hml]; rfl) rfl (hb hby d1_1) (by decide) (W := 0) (by show 2 * 0 + _ ≤ _; exact Nat.le_of_eq rfl) (by decide)
  refine own_go st1 ?_
  show own_Go p e below _ T1 (mkF m 4 #[.val (.ref a1)] [])
  exact own_endV X1 hx hret hlk (hb hby d1_4) (by decide) (by decide) ⟨rfl, N0, e1⟩
theorem ef_3 (m : MethodId) (x0 : Int32) (x1 : Int32) : entryFrame m #[(.int x0), (.int x1)] 2 = mkF m 0 #[.val (.int x0), .val (.int x1)] [] := by first | (simp [entryFrame, mkF, argsToLocals, Value.category]; done) | rfl
set_option maxRecDepth 65536 in
set_option maxHeartbeats 40000000 in
theorem rmB (l : Launch) (Z : State) (a0 : Array Value) (hw : ∀ d ∈ tables_1, d.before a0 Z = true) (ws : List Jvm.Cond) (p1 : Int32) (p2 : Int32) (h0 : Heap) (n0 : Nat) (Z0 : n0 ≤ h0.size)  :
    MetFree l (⟨"com/example/seongsu/seongsu/core/ChunkCountsGetSkipsPinLaw", "bit", "(II)I"⟩ : MethodName) (head1 (Jvm.Cond.code (⟨"com/example/seongsu/seongsu/core/ChunkCountsGetSkipsPinLaw", "bit", "(II)I"⟩ : MethodName) method_2_code 2 (some .int) :: ws) ({ frames := 0, cells := 0, slots := 0, locals := 0 } : Room)) (fun a U => a = #[(.int p1), (.int p2)] ∧ Z.Warmed39 U.vm ∧ U.heap = h0) (fun _ _ _ _ _ => True) (fun _ U o U' => ∃ v L, o = .returned v ∧ (own_pure (some (.int (own_bit p1 p2))) h0 n0) v U'.heap L ∧ FrameEnd U o U' L ({ frames := 0, cells := 0, slots := 0, locals := 0 } : Room).cells ({ frames := 0, cells := 0, slots := 0, locals := 0 } : Room).slots) := by
  refine MetFree.of_bodySF (plainFor_of_name pn_1) hisR ?_
  intro p e s m args below meth c s₁ Bd hml0 hP hK
  obtain ⟨rfl, hZ, hh⟩ := hP
  have hx := Bd.exec
  have hby := Bd.bytes
  have hml : c.maxLocals = 2 := hml0
  have hown : s.vm.findClass "com/example/seongsu/seongsu/core/ChunkCountsGetSkipsPinLaw" = some m.cls := findClass_of_methodNamed Bd.named
  have hnm := (name_of_methodNamed Bd.named Bd.method).1
  have hret := Bd.returns
  have hlk : meth.locks = false := Bd.notSynchronized
  have X0 : Stand p l e ({ frames := 0, cells := 0, slots := 0, locals := 0 } : Room) s m #[(.int p1), (.int p2)] below meth c s₁ [] 0 0 := Stand.of_body Bd
  have e0 : s₁.heap = h0 := by rw [← hh, Bd.state]; rfl
  have N0 := Fr.nil n0
  show own_Go p e below (own_P (own_pure (some (.int (own_bit p1 p2))) h0 n0) ({ frames := 0, cells := 0, slots := 0, locals := 0 } : Room) s) s₁ (entryFrame m #[(.int p1), (.int p2)] 2)
  rw [ef_3 m p1 p2]
  show own_Go p e below _ s₁ (mkF m 0 #[.val (.int p1), .val (.int p2)] [])
  refine own_go (fun _ k => XS.iloadN X0.here hx rfl (hb hby d3_0) rfl  k) ?_
  show own_Go p e below _ s₁ (mkF m 1 #[.val (.int p1), .val (.int p2)] [(.int p1)])
  refine own_go (fun _ k => XS.iloadN X0.here hx rfl (hb hby d3_1) rfl  k) ?_
  show own_Go p e below _ s₁ (mkF m 2 #[.val (.int p1), .val (.int p2)] [(.int p2), (.int p1)])
  refine own_go (fun _ k => XS.iushr X0.here hx rfl (hb hby d3_2) rfl k) ?_
  show own_Go p e below _ s₁ (mkF m 3 #[.val (.int p1), .val (.int p2)] [(.int ((p1.toUInt32 >>> (p2 &&& 31).toUInt32).toInt32))])
  refine own_go (fun _ k => XS.iconst X0.here hx rfl (hb hby d3_3) k) ?_
  show own_Go p e below _ s₁ (mkF m 4 #[.val (.int p1), .val (.int p2)] [(.int (1 : Int32)), (.int ((p1.toUInt32 >>> (p2 &&& 31).toUInt32).toInt32))])
  refine own_go (fun _ k => XS.iand X0.here hx rfl (hb hby d3_4) rfl k) ?_
  show own_Go p e below _ s₁ (mkF m 5 #[.val (.int p1), .val (.int p2)] [(.int (((p1.toUInt32 >>> (p2 &&& 31).toUInt32).toInt32) &&& (1 : Int32)))])
  exact own_endI X0 hx hret hlk (hb hby d3_5) (by decide) (by decide) ⟨rfl, N0, e0⟩
theorem ef_4 (m : MethodId) (x0 : Addr) : entryFrame m #[(.ref x0)] 1 = mkF m 0 #[.val (.ref x0)] [] := by first | (simp [entryFrame, mkF, argsToLocals, Value.category]; done) | rfl
set_option maxRecDepth 65536 in
set_option maxHeartbeats 40000000 in
theorem rmG (l : Launch) (Z : State) (a0 : Array Value) (hw : ∀ d ∈ tables_1, d.before a0 Z = true) (ws : List Jvm.Cond) (a1 : Addr) (r p' w : Int64) (h0 : Heap) (n0 : Nat) (Z0 : n0 ≤ h0.size) (O : own_Ob Z h0 a1 r p' w) :
    MetFree l (⟨"com/example/seongsu/seongsu/core/ChunkCounts", "getSkips", "()J"⟩ : MethodName) (head1 (Jvm.Cond.code (⟨"com/example/seongsu/seongsu/core/ChunkCounts", "getSkips", "()J"⟩ : MethodName) prog_12_method_14_code 1 (some .long) :: ws) ({ frames := 0, cells := 0, slots := 0, locals := 0 } : Room)) (fun a U => a = #[(.ref a1)] ∧ Z.Warmed39 U.vm ∧ U.heap = h0) (fun _ _ _ _ _ => True) (fun _ U o U' => ∃ v L, o = .returned v ∧ (own_pure (some (.long ((r + p') + w))) h0 n0) v U'.heap L ∧ FrameEnd U o U' L ({ frames := 0, cells := 0, slots := 0, locals := 0 } : Room).cells ({ frames := 0, cells := 0, slots := 0, locals := 0 } : Room).slots) := by
  refine MetFree.of_bodySF (plainFor_of_name pn_0) hisR ?_
  intro p e s m args below meth c s₁ Bd hml0 hP hK
  obtain ⟨rfl, hZ, hh⟩ := hP
  have hx := Bd.exec
  have hby := Bd.bytes
  have hml : c.maxLocals = 1 := hml0
  have hown : s.vm.findClass "com/example/seongsu/seongsu/core/ChunkCounts" = some m.cls := findClass_of_methodNamed Bd.named
  have hnm := (name_of_methodNamed Bd.named Bd.method).1
  have hret := Bd.returns
  have hlk : meth.locks = false := Bd.notSynchronized
  have X0 : Stand p l e ({ frames := 0, cells := 0, slots := 0, locals := 0 } : Room) s m #[(.ref a1)] below meth c s₁ [] 0 0 := Stand.of_body Bd
  have e0 : s₁.heap = h0 := by rw [← hh, Bd.state]; rfl
  have N0 := Fr.nil n0
  show own_Go p e below (own_P (own_pure (some (.long ((r + p') + w))) h0 n0) ({ frames := 0, cells := 0, slots := 0, locals := 0 } : Room) s) s₁ (entryFrame m #[(.ref a1)] 1)
  rw [ef_4 m a1]
  show own_Go p e below _ s₁ (mkF m 0 #[.val (.ref a1)] [])
  obtain ⟨E, F0, F1, F2, -⟩ := O
  refine own_go (fun _ k => XS.aloadN X0.here hx rfl (hb hby d4_0) rfl rfl k) ?_
  show own_Go p e below _ s₁ (mkF m 1 #[.val (.ref a1)] [(.ref a1)])
  obtain ⟨T2, X2, e2, st2⟩ := getF X0 hx hZ hown (host := "") (Or.inl (hw _ (List.mem_of_getElem? (i := 18) rfl))) Via.refl e0 F0 (g := (mkF m 1 #[.val (.ref a1)] [(.ref a1)])) rfl rfl (hb hby d4_1)
  refine own_go st2 ?_
  show own_Go p e below _ T2 (mkF m 4 #[.val (.ref a1)] [(.long r)])
  refine own_go (fun _ k => XS.aloadN X2.here hx rfl (hb hby d4_4) rfl rfl k) ?_
  show own_Go p e below _ T2 (mkF m 5 #[.val (.ref a1)] [(.ref a1), (.long r)])
  obtain ⟨T3, X3, e3, st3⟩ := getF X2 hx hZ hown (host := "") (Or.inl (hw _ (List.mem_of_getElem? (i := 20) rfl))) Via.refl e2 F1 (g := (mkF m 5 #[.val (.ref a1)] [(.ref a1), (.long r)])) rfl rfl (hb hby d4_5)
  refine own_go st3 ?_
  show own_Go p e below _ T3 (mkF m 8 #[.val (.ref a1)] [(.long p'), (.long r)])
  refine own_go (fun _ k => XS.ladd X3.here hx rfl (hb hby d4_8) rfl k) ?_
  show own_Go p e below _ T3 (mkF m 9 #[.val (.ref a1)] [(.long (r + p'))])
  refine own_go (fun _ k => XS.aloadN X3.here hx rfl (hb hby d4_9) rfl rfl k) ?_
  show own_Go p e below _ T3 (mkF m 10 #[.val (.ref a1)] [(.ref a1), (.long (r + p'))])
  obtain ⟨T4, X4, e4, st4⟩ := getF X3 hx hZ hown (host := "") (Or.inl (hw _ (List.mem_of_getElem? (i := 22) rfl))) Via.refl e3 F2 (g := (mkF m 10 #[.val (.ref a1)] [(.ref a1), (.long (r + p'))])) rfl rfl (hb hby d4_10)
  refine own_go st4 ?_
  show own_Go p e below _ T4 (mkF m 13 #[.val (.ref a1)] [(.long w), (.long (r + p'))])
  refine own_go (fun _ k => XS.ladd X4.here hx rfl (hb hby d4_13) rfl k) ?_
  show own_Go p e below _ T4 (mkF m 14 #[.val (.ref a1)] [(.long ((r + p') + w))])
  exact own_endJ X4 hx hret hlk (hb hby d4_14) (by decide) (by decide) ⟨rfl, N0, e4⟩
theorem ef_5 (m : MethodId) (x0 : Addr) : entryFrame m #[(.ref x0)] 1 = mkF m 0 #[.val (.ref x0)] [] := by first | (simp [entryFrame, mkF, argsToLocals, Value.category]; done) | rfl
set_option maxRecDepth 65536 in
set_option maxHeartbeats 40000000 in
theorem rmC0 (l : Launch) (Z : State) (a0 : Array Value) (hw : ∀ d ∈ tables_1, d.before a0 Z = true) (ws : List Jvm.Cond) (a1 : Addr)  (r p' w : Int64) (h0 : Heap) (n0 : Nat) (Z0 : n0 ≤ h0.size) (O : own_Ob Z h0 a1 r p' w) (g1 : n0 ≤ a1) :
    MetFree l (⟨"com/example/seongsu/seongsu/core/ChunkCounts", "countReadSkip", "()V"⟩ : MethodName) (head1 (Jvm.Cond.code (⟨"com/example/seongsu/seongsu/core/ChunkCounts", "countReadSkip", "()V"⟩ : MethodName) prog_12_method_5_code 1 none :: ws) ({ frames := 0, cells := 0, slots := 0, locals := 0 } : Room)) (fun a U => a = #[(.ref a1)] ∧ Z.Warmed39 U.vm ∧ U.heap = h0) (fun _ _ _ _ _ => True) (fun _ U o U' => ∃ v L, o = .returned v ∧ (own_R (fun u h L => u = none ∧ Fr n0 L ∧ h0.size ≤ h.size ∧ own_Ob Z h a1 (r + (1 : Int64)) p' w)) v U'.heap L ∧ FrameEnd U o U' L ({ frames := 0, cells := 0, slots := 0, locals := 0 } : Room).cells ({ frames := 0, cells := 0, slots := 0, locals := 0 } : Room).slots) := by
  refine MetFree.of_bodySF (plainFor_of_name pn_0) hisR ?_
  intro p e s m args below meth c s₁ Bd hml0 hP hK
  obtain ⟨rfl, hZ, hh⟩ := hP
  have hx := Bd.exec
  have hby := Bd.bytes
  have hml : c.maxLocals = 1 := hml0
  have hown : s.vm.findClass "com/example/seongsu/seongsu/core/ChunkCounts" = some m.cls := findClass_of_methodNamed Bd.named
  have hnm := (name_of_methodNamed Bd.named Bd.method).1
  have hret := Bd.returns
  have hlk : meth.locks = false := Bd.notSynchronized
  have X0 : Stand p l e ({ frames := 0, cells := 0, slots := 0, locals := 0 } : Room) s m #[(.ref a1)] below meth c s₁ [] 0 0 := Stand.of_body Bd
  have e0 : s₁.heap = h0 := by rw [← hh, Bd.state]; rfl
  have N0 := Fr.nil n0
  show own_Go p e below (own_P (own_R (fun u h L => u = none ∧ Fr n0 L ∧ h0.size ≤ h.size ∧ own_Ob Z h a1 (r + (1 : Int64)) p' w)) ({ frames := 0, cells := 0, slots := 0, locals := 0 } : Room) s) s₁ (entryFrame m #[(.ref a1)] 1)
  rw [ef_5 m a1]
  show own_Go p e below _ s₁ (mkF m 0 #[.val (.ref a1)] [])
  have O' := O
  obtain ⟨E, F0, F1, F2, x, y, z, F3, F4, F5⟩ := O
  refine own_go (fun _ k => XS.aloadN X0.here hx rfl (hb hby d5_0) rfl rfl k) ?_
  show own_Go p e below _ s₁ (mkF m 1 #[.val (.ref a1)] [(.ref a1)])
  refine own_go (fun _ k => XS.dup X0.here hx rfl (hb hby d5_1) rfl rfl k) ?_
  show own_Go p e below _ s₁ (mkF m 2 #[.val (.ref a1)] [(.ref a1), (.ref a1)])
  obtain ⟨T5, X5, e5, st5⟩ := getF X0 hx hZ hown (host := "") (Or.inl (hw _ (List.mem_of_getElem? (i := 18) rfl))) Via.refl e0 F0 (g := (mkF m 2 #[.val (.ref a1)] [(.ref a1), (.ref a1)])) rfl rfl (hb hby d5_2)
  refine own_go st5 ?_
  show own_Go p e below _ T5 (mkF m 5 #[.val (.ref a1)] [(.long r), (.ref a1)])
  refine own_go (fun _ k => XS.lconst X5.here hx rfl (hb hby d5_5) k) ?_
  show own_Go p e below _ T5 (mkF m 6 #[.val (.ref a1)] [(.long (1 : Int64)), (.long r), (.ref a1)])
  refine own_go (fun _ k => XS.ladd X5.here hx rfl (hb hby d5_6) rfl k) ?_
  show own_Go p e below _ T5 (mkF m 7 #[.val (.ref a1)] [(.long (r + (1 : Int64))), (.ref a1)])
  obtain ⟨T6, h6, X6, e6, W6, st6⟩ := putF X5 hx hZ hown (host := "") (Or.inl (hw _ (List.mem_of_getElem? (i := 18) rfl))) Via.refl e5 F0 E (Or.inl (hw _ (List.mem_of_getElem? (i := 19) rfl))) (hw _ (List.mem_of_getElem? (i := 1) rfl)) (ty := .long) (by decide) rfl rfl (g := (mkF m 7 #[.val (.ref a1)] [(.long (r + (1 : Int64))), (.ref a1)])) rfl rfl (hb hby d5_7)
  have N6 := Fr.snoc X6 N0 g1
  refine own_go st6 ?_
  show own_Go p e below _ T6 (mkF m 10 #[.val (.ref a1)] [])
  exact own_endV X6 hx hret hlk (hb hby d5_10) (by decide) (by decide) ⟨rfl, N6, by rw [e6, W6.size]; exact Nat.le_refl _, by rw [e6]; exact own_wr0 hw O' W6⟩
theorem ef_7 (m : MethodId) (x0 : Addr) : entryFrame m #[(.ref x0)] 1 = mkF m 0 #[.val (.ref x0)] [] := by first | (simp [entryFrame, mkF, argsToLocals, Value.category]; done) | rfl
set_option maxRecDepth 65536 in
set_option maxHeartbeats 40000000 in
theorem rmC1 (l : Launch) (Z : State) (a0 : Array Value) (hw : ∀ d ∈ tables_1, d.before a0 Z = true) (ws : List Jvm.Cond) (a1 : Addr)  (r p' w : Int64) (h0 : Heap) (n0 : Nat) (Z0 : n0 ≤ h0.size) (O : own_Ob Z h0 a1 r p' w) (g1 : n0 ≤ a1) :
    MetFree l (⟨"com/example/seongsu/seongsu/core/ChunkCounts", "countProcessSkip", "()V"⟩ : MethodName) (head1 (Jvm.Cond.code (⟨"com/example/seongsu/seongsu/core/ChunkCounts", "countProcessSkip", "()V"⟩ : MethodName) prog_12_method_6_code 1 none :: ws) ({ frames := 0, cells := 0, slots := 0, locals := 0 } : Room)) (fun a U => a = #[(.ref a1)] ∧ Z.Warmed39 U.vm ∧ U.heap = h0) (fun _ _ _ _ _ => True) (fun _ U o U' => ∃ v L, o = .returned v ∧ (own_R (fun u h L => u = none ∧ Fr n0 L ∧ h0.size ≤ h.size ∧ own_Ob Z h a1 r (p' + (1 : Int64)) w)) v U'.heap L ∧ FrameEnd U o U' L ({ frames := 0, cells := 0, slots := 0, locals := 0 } : Room).cells ({ frames := 0, cells := 0, slots := 0, locals := 0 } : Room).slots) := by
  refine MetFree.of_bodySF (plainFor_of_name pn_0) hisR ?_
  intro p e s m args below meth c s₁ Bd hml0 hP hK
  obtain ⟨rfl, hZ, hh⟩ := hP
  have hx := Bd.exec
  have hby := Bd.bytes
  have hml : c.maxLocals = 1 := hml0
  have hown : s.vm.findClass "com/example/seongsu/seongsu/core/ChunkCounts" = some m.cls := findClass_of_methodNamed Bd.named
  have hnm := (name_of_methodNamed Bd.named Bd.method).1
  have hret := Bd.returns
  have hlk : meth.locks = false := Bd.notSynchronized
  have X0 : Stand p l e ({ frames := 0, cells := 0, slots := 0, locals := 0 } : Room) s m #[(.ref a1)] below meth c s₁ [] 0 0 := Stand.of_body Bd
  have e0 : s₁.heap = h0 := by rw [← hh, Bd.state]; rfl
  have N0 := Fr.nil n0
  show own_Go p e below (own_P (own_R (fun u h L => u = none ∧ Fr n0 L ∧ h0.size ≤ h.size ∧ own_Ob Z h a1 r (p' + (1 : Int64)) w)) ({ frames := 0, cells := 0, slots := 0, locals := 0 } : Room) s) s₁ (entryFrame m #[(.ref a1)] 1)
  rw [ef_7 m a1]
  show own_Go p e below _ s₁ (mkF m 0 #[.val (.ref a1)] [])
  have O' := O
  obtain ⟨E, F0, F1, F2, x, y, z, F3, F4, F5⟩ := O
  refine own_go (fun _ k => XS.aloadN X0.here hx rfl (hb hby d7_0) rfl rfl k) ?_
  show own_Go p e below _ s₁ (mkF m 1 #[.val (.ref a1)] [(.ref a1)])
  refine own_go (fun _ k => XS.dup X0.here hx rfl (hb hby d7_1) rfl rfl k) ?_
  show own_Go p e below _ s₁ (mkF m 2 #[.val (.ref a1)] [(.ref a1), (.ref a1)])
  obtain ⟨T7, X7, e7, st7⟩ := getF X0 hx hZ hown (host := "") (Or.inl (hw _ (List.mem_of_getElem? (i := 20) rfl))) Via.refl e0 F1 (g := (mkF m 2 #[.val (.ref a1)] [(.ref a1), (.ref a1)])) rfl rfl (hb hby d7_2)
  refine own_go st7 ?_
  show own_Go p e below _ T7 (mkF m 5 #[.val (.ref a1)] [(.long p'), (.ref a1)])
  refine own_go (fun _ k => XS.lconst X7.here hx rfl (hb hby d7_5) k) ?_
  show own_Go p e below _ T7 (mkF m 6 #[.val (.ref a1)] [(.long (1 : Int64)), (.long p'), (.ref a1)])
  refine own_go (fun _ k => XS.ladd X7.here hx rfl (hb hby d7_6) rfl k) ?_
  show own_Go p e below _ T7 (mkF m 7 #[.val (.ref a1)] [(.long (p' + (1 : Int64))), (.ref a1)])
  obtain ⟨T8, h8, X8, e8, W8, st8⟩ := putF X7 hx hZ hown (host := "") (Or.inl (hw _ (List.mem_of_getElem? (i := 20) rfl))) Via.refl e7 F1 E (Or.inl (hw _ (List.mem_of_getElem? (i := 21) rfl))) (hw _ (List.mem_of_getElem? (i := 1) rfl)) (ty := .long) (by decide) rfl rfl (g := (mkF m 7 #[.val (.ref a1)] [(.long (p' + (1 : Int64))), (.ref a1)])) rfl rfl (hb hby d7_7)
  have N8 := Fr.snoc X8 N0 g1
  refine own_go st8 ?_
  show own_Go p e below _ T8 (mkF m 10 #[.val (.ref a1)] [])
  exact own_endV X8 hx hret hlk (hb hby d7_10) (by decide) (by decide) ⟨rfl, N8, by rw [e8, W8.size]; exact Nat.le_refl _, by rw [e8]; exact own_wr1 hw O' W8⟩
theorem ef_8 (m : MethodId) (x0 : Addr) : entryFrame m #[(.ref x0)] 1 = mkF m 0 #[.val (.ref x0)] [] := by first | (simp [entryFrame, mkF, argsToLocals, Value.category]; done) | rfl
set_option maxRecDepth 65536 in
set_option maxHeartbeats 40000000 in
theorem rmC2 (l : Launch) (Z : State) (a0 : Array Value) (hw : ∀ d ∈ tables_1, d.before a0 Z = true) (ws : List Jvm.Cond) (a1 : Addr)  (r p' w : Int64) (h0 : Heap) (n0 : Nat) (Z0 : n0 ≤ h0.size) (O : own_Ob Z h0 a1 r p' w) (g1 : n0 ≤ a1) :
    MetFree l (⟨"com/example/seongsu/seongsu/core/ChunkCounts", "countWriteSkip", "()V"⟩ : MethodName) (head1 (Jvm.Cond.code (⟨"com/example/seongsu/seongsu/core/ChunkCounts", "countWriteSkip", "()V"⟩ : MethodName) prog_12_method_7_code 1 none :: ws) ({ frames := 0, cells := 0, slots := 0, locals := 0 } : Room)) (fun a U => a = #[(.ref a1)] ∧ Z.Warmed39 U.vm ∧ U.heap = h0) (fun _ _ _ _ _ => True) (fun _ U o U' => ∃ v L, o = .returned v ∧ (own_R (fun u h L => u = none ∧ Fr n0 L ∧ h0.size ≤ h.size ∧ own_Ob Z h a1 r p' (w + (1 : Int64)))) v U'.heap L ∧ FrameEnd U o U' L ({ frames := 0, cells := 0, slots := 0, locals := 0 } : Room).cells ({ frames := 0, cells := 0, slots := 0, locals := 0 } : Room).slots) := by
  refine MetFree.of_bodySF (plainFor_of_name pn_0) hisR ?_
  intro p e s m args below meth c s₁ Bd hml0 hP hK
  obtain ⟨rfl, hZ, hh⟩ := hP
  have hx := Bd.exec
  have hby := Bd.bytes
  have hml : c.maxLocals = 1 := hml0
  have hown : s.vm.findClass "com/example/seongsu/seongsu/core/ChunkCounts" = some m.cls := findClass_of_methodNamed Bd.named
  have hnm := (name_of_methodNamed Bd.named Bd.method).1
  have hret := Bd.returns
  have hlk : meth.locks = false := Bd.notSynchronized
  have X0 : Stand p l e ({ frames := 0, cells := 0, slots := 0, locals := 0 } : Room) s m #[(.ref a1)] below meth c s₁ [] 0 0 := Stand.of_body Bd
  have e0 : s₁.heap = h0 := by rw [← hh, Bd.state]; rfl
  have N0 := Fr.nil n0
  show own_Go p e below (own_P (own_R (fun u h L => u = none ∧ Fr n0 L ∧ h0.size ≤ h.size ∧ own_Ob Z h a1 r p' (w + (1 : Int64)))) ({ frames := 0, cells := 0, slots := 0, locals := 0 } : Room) s) s₁ (entryFrame m #[(.ref a1)] 1)
  rw [ef_8 m a1]
  show own_Go p e below _ s₁ (mkF m 0 #[.val (.ref a1)] [])
  have O' := O
  obtain ⟨E, F0, F1, F2, x, y, z, F3, F4, F5⟩ := O
  refine own_go (fun _ k => XS.aloadN X0.here hx rfl (hb hby d8_0) rfl rfl k) ?_
  show own_Go p e below _ s₁ (mkF m 1 #[.val (.ref a1)] [(.ref a1)])
  refine own_go (fun _ k => XS.dup X0.here hx rfl (hb hby d8_1) rfl rfl k) ?_
  show own_Go p e below _ s₁ (mkF m 2 #[.val (.ref a1)] [(.ref a1), (.ref a1)])
  obtain ⟨T9, X9, e9, st9⟩ := getF X0 hx hZ hown (host := "") (Or.inl (hw _ (List.mem_of_getElem? (i := 22) rfl))) Via.refl e0 F2 (g := (mkF m 2 #[.val (.ref a1)] [(.ref a1), (.ref a1)])) rfl rfl (hb hby d8_2)
  refine own_go st9 ?_
  show own_Go p e below _ T9 (mkF m 5 #[.val (.ref a1)] [(.long w), (.ref a1)])
  refine own_go (fun _ k => XS.lconst X9.here hx rfl (hb hby d8_5) k) ?_
  show own_Go p e below _ T9 (mkF m 6 #[.val (.ref a1)] [(.long (1 : Int64)), (.long w), (.ref a1)])
  refine own_go (fun _ k => XS.ladd X9.here hx rfl (hb hby d8_6) rfl k) ?_
  show own_Go p e below _ T9 (mkF m 7 #[.val (.ref a1)] [(.long (w + (1 : Int64))), (.ref a1)])
  obtain ⟨T10, h10, X10, e10, W10, st10⟩ := putF X9 hx hZ hown (host := "") (Or.inl (hw _ (List.mem_of_getElem? (i := 22) rfl))) Via.refl e9 F2 E (Or.inl (hw _ (List.mem_of_getElem? (i := 23) rfl))) (hw _ (List.mem_of_getElem? (i := 1) rfl)) (ty := .long) (by decide) rfl rfl (g := (mkF m 7 #[.val (.ref a1)] [(.long (w + (1 : Int64))), (.ref a1)])) rfl rfl (hb hby d8_7)
  have N10 := Fr.snoc X10 N0 g1
  refine own_go st10 ?_
  show own_Go p e below _ T10 (mkF m 10 #[.val (.ref a1)] [])
  exact own_endV X10 hx hret hlk (hb hby d8_10) (by decide) (by decide) ⟨rfl, N10, by rw [e10, W10.size]; exact Nat.le_refl _, by rw [e10]; exact own_wr2 hw O' W10⟩
theorem ef_6 (m : MethodId) (x0 : Addr) : entryFrame m #[(.ref x0)] 1 = mkF m 0 #[.val (.ref x0)] [] := by first | (simp [entryFrame, mkF, argsToLocals, Value.category]; done) | rfl
set_option maxRecDepth 65536 in
set_option maxHeartbeats 40000000 in
theorem rmC3 (l : Launch) (Z : State) (a0 : Array Value) (hw : ∀ d ∈ tables_1, d.before a0 Z = true) (ws : List Jvm.Cond) (a1 : Addr)  (r p' w : Int64) (h0 : Heap) (n0 : Nat) (Z0 : n0 ≤ h0.size) (O : own_Ob Z h0 a1 r p' w) (g1 : n0 ≤ a1) :
    MetFree l (⟨"com/example/seongsu/seongsu/core/ChunkCounts", "countRead", "()V"⟩ : MethodName) (head1 (Jvm.Cond.code (⟨"com/example/seongsu/seongsu/core/ChunkCounts", "countRead", "()V"⟩ : MethodName) prog_12_method_2_code 1 none :: ws) ({ frames := 0, cells := 0, slots := 0, locals := 0 } : Room)) (fun a U => a = #[(.ref a1)] ∧ Z.Warmed39 U.vm ∧ U.heap = h0) (fun _ _ _ _ _ => True) (fun _ U o U' => ∃ v L, o = .returned v ∧ (own_R (fun u h L => u = none ∧ Fr n0 L ∧ h0.size ≤ h.size ∧ own_Ob Z h a1 r p' w)) v U'.heap L ∧ FrameEnd U o U' L ({ frames := 0, cells := 0, slots := 0, locals := 0 } : Room).cells ({ frames := 0, cells := 0, slots := 0, locals := 0 } : Room).slots) := by
  refine MetFree.of_bodySF (plainFor_of_name pn_0) hisR ?_
  intro p e s m args below meth c s₁ Bd hml0 hP hK
  obtain ⟨rfl, hZ, hh⟩ := hP
  have hx := Bd.exec
  have hby := Bd.bytes
  have hml : c.maxLocals = 1 := hml0
  have hown : s.vm.findClass "com/example/seongsu/seongsu/core/ChunkCounts" = some m.cls := findClass_of_methodNamed Bd.named
  have hnm := (name_of_methodNamed Bd.named Bd.method).1
  have hret := Bd.returns
  have hlk : meth.locks = false := Bd.notSynchronized
  have X0 : Stand p l e ({ frames := 0, cells := 0, slots := 0, locals := 0 } : Room) s m #[(.ref a1)] below meth c s₁ [] 0 0 := Stand.of_body Bd
  have e0 : s₁.heap = h0 := by rw [← hh, Bd.state]; rfl
  have N0 := Fr.nil n0
  show own_Go p e below (own_P (own_R (fun u h L => u = none ∧ Fr n0 L ∧ h0.size ≤ h.size ∧ own_Ob Z h a1 r p' w)) ({ frames := 0, cells := 0, slots := 0, locals := 0 } : Room) s) s₁ (entryFrame m #[(.ref a1)] 1)
  rw [ef_6 m a1]
  show own_Go p e below _ s₁ (mkF m 0 #[.val (.ref a1)] [])
  have O' := O
  obtain ⟨E, F0, F1, F2, x, y, z, F3, F4, F5⟩ := O
  refine own_go (fun _ k => XS.aloadN X0.here hx rfl (hb hby d6_0) rfl rfl k) ?_
  show own_Go p e below _ s₁ (mkF m 1 #[.val (.ref a1)] [(.ref a1)])
  refine own_go (fun _ k => XS.dup X0.here hx rfl (hb hby d6_1) rfl rfl k) ?_
  show own_Go p e below _ s₁ (mkF m 2 #[.val (.ref a1)] [(.ref a1), (.ref a1)])
  obtain ⟨T11, X11, e11, st11⟩ := getF X0 hx hZ hown (host := "") (Or.inl (hw _ (List.mem_of_getElem? (i := 34) rfl))) Via.refl e0 F3 (g := (mkF m 2 #[.val (.ref a1)] [(.ref a1), (.ref a1)])) rfl rfl (hb hby d6_2)
  refine own_go st11 ?_
  show own_Go p e below _ T11 (mkF m 5 #[.val (.ref a1)] [(.long x), (.ref a1)])
  refine own_go (fun _ k => XS.lconst X11.here hx rfl (hb hby d6_5) k) ?_
  show own_Go p e below _ T11 (mkF m 6 #[.val (.ref a1)] [(.long (1 : Int64)), (.long x), (.ref a1)])
  refine own_go (fun _ k => XS.ladd X11.here hx rfl (hb hby d6_6) rfl k) ?_
  show own_Go p e below _ T11 (mkF m 7 #[.val (.ref a1)] [(.long (x + (1 : Int64))), (.ref a1)])
  obtain ⟨T12, h12, X12, e12, W12, st12⟩ := putF X11 hx hZ hown (host := "") (Or.inl (hw _ (List.mem_of_getElem? (i := 34) rfl))) Via.refl e11 F3 E (Or.inl (hw _ (List.mem_of_getElem? (i := 35) rfl))) (hw _ (List.mem_of_getElem? (i := 1) rfl)) (ty := .long) (by decide) rfl rfl (g := (mkF m 7 #[.val (.ref a1)] [(.long (x + (1 : Int64))), (.ref a1)])) rfl rfl (hb hby d6_7)
  have N12 := Fr.snoc X12 N0 g1
  refine own_go st12 ?_
  show own_Go p e below _ T12 (mkF m 10 #[.val (.ref a1)] [])
  exact own_endV X12 hx hret hlk (hb hby d6_10) (by decide) (by decide) ⟨rfl, N12, by rw [e12, W12.size]; exact Nat.le_refl _, by rw [e12]; exact own_wr3 hw O' W12⟩
theorem ef_9 (m : MethodId) (x0 : Addr) (x1 : Int64) : entryFrame m #[(.ref x0), (.long x1)] 3 = mkF m 0 #[.val (.ref x0), .val (.long x1), .second] [] := by first | (simp [entryFrame, mkF, argsToLocals, Value.category]; done) | rfl
set_option maxRecDepth 65536 in
set_option maxHeartbeats 40000000 in
theorem rmC4 (l : Launch) (Z : State) (a0 : Array Value) (hw : ∀ d ∈ tables_1, d.before a0 Z = true) (ws : List Jvm.Cond) (a1 : Addr) (q1 : Int64) (r p' w : Int64) (h0 : Heap) (n0 : Nat) (Z0 : n0 ≤ h0.size) (O : own_Ob Z h0 a1 r p' w) (g1 : n0 ≤ a1) :
    MetFree l (⟨"com/example/seongsu/seongsu/core/ChunkCounts", "countWritten", "(J)V"⟩ : MethodName) (head1 (Jvm.Cond.code (⟨"com/example/seongsu/seongsu/core/ChunkCounts", "countWritten", "(J)V"⟩ : MethodName) prog_12_method_4_code 3 none :: ws) ({ frames := 0, cells := 0, slots := 0, locals := 0 } : Room)) (fun a U => a = #[(.ref a1), (.long q1)] ∧ Z.Warmed39 U.vm ∧ U.heap = h0) (fun _ _ _ _ _ => True) (fun _ U o U' => ∃ v L, o = .returned v ∧ (own_R (fun u h L => u = none ∧ Fr n0 L ∧ h0.size ≤ h.size ∧ own_Ob Z h a1 r p' w)) v U'.heap L ∧ FrameEnd U o U' L ({ frames := 0, cells := 0, slots := 0, locals := 0 } : Room).cells ({ frames := 0, cells := 0, slots := 0, locals := 0 } : Room).slots) := by
  refine MetFree.of_bodySF (plainFor_of_name pn_0) hisR ?_
  intro p e s m args below meth c s₁ Bd hml0 hP hK
  obtain ⟨rfl, hZ, hh⟩ := hP
  have hx := Bd.exec
  have hby := Bd.bytes
  have hml : c.maxLocals = 3 := hml0
  have hown : s.vm.findClass "com/example/seongsu/seongsu/core/ChunkCounts" = some m.cls := findClass_of_methodNamed Bd.named
  have hnm := (name_of_methodNamed Bd.named Bd.method).1
  have hret := Bd.returns
  have hlk : meth.locks = false := Bd.notSynchronized
  have X0 : Stand p l e ({ frames := 0, cells := 0, slots := 0, locals := 0 } : Room) s m #[(.ref a1), (.long q1)] below meth c s₁ [] 0 0 := Stand.of_body Bd
  have e0 : s₁.heap = h0 := by rw [← hh, Bd.state]; rfl
  have N0 := Fr.nil n0
  show own_Go p e below (own_P (own_R (fun u h L => u = none ∧ Fr n0 L ∧ h0.size ≤ h.size ∧ own_Ob Z h a1 r p' w)) ({ frames := 0, cells := 0, slots := 0, locals := 0 } : Room) s) s₁ (entryFrame m #[(.ref a1), (.long q1)] 3)
  rw [ef_9 m a1 q1]
  show own_Go p e below _ s₁ (mkF m 0 #[.val (.ref a1), .val (.long q1), .second] [])
  have O' := O
  obtain ⟨E, F0, F1, F2, x, y, z, F3, F4, F5⟩ := O
  refine own_go (fun _ k => XS.aloadN X0.here hx rfl (hb hby d9_0) rfl rfl k) ?_
  show own_Go p e below _ s₁ (mkF m 1 #[.val (.ref a1), .val (.long q1), .second] [(.ref a1)])
  refine own_go (fun _ k => XS.dup X0.here hx rfl (hb hby d9_1) rfl rfl k) ?_
  show own_Go p e below _ s₁ (mkF m 2 #[.val (.ref a1), .val (.long q1), .second] [(.ref a1), (.ref a1)])
  obtain ⟨T13, X13, e13, st13⟩ := getF X0 hx hZ hown (host := "") (Or.inl (hw _ (List.mem_of_getElem? (i := 51) rfl))) Via.refl e0 F4 (g := (mkF m 2 #[.val (.ref a1), .val (.long q1), .second] [(.ref a1), (.ref a1)])) rfl rfl (hb hby d9_2)
  refine own_go st13 ?_
  show own_Go p e below _ T13 (mkF m 5 #[.val (.ref a1), .val (.long q1), .second] [(.long y), (.ref a1)])
  refine own_go (fun _ k => XS.lloadN X13.here hx rfl (hb hby d9_5) rfl  k) ?_
  show own_Go p e below _ T13 (mkF m 6 #[.val (.ref a1), .val (.long q1), .second] [(.long q1), (.long y), (.ref a1)])
  refine own_go (fun _ k => XS.ladd X13.here hx rfl (hb hby d9_6) rfl k) ?_
  show own_Go p e below _ T13 (mkF m 7 #[.val (.ref a1), .val (.long q1), .second] [(.long (y + q1)), (.ref a1)])
  obtain ⟨T14, h14, X14, e14, W14, st14⟩ := putF X13 hx hZ hown (host := "") (Or.inl (hw _ (List.mem_of_getElem? (i := 51) rfl))) Via.refl e13 F4 E (Or.inl (hw _ (List.mem_of_getElem? (i := 52) rfl))) (hw _ (List.mem_of_getElem? (i := 1) rfl)) (ty := .long) (by decide) rfl rfl (g := (mkF m 7 #[.val (.ref a1), .val (.long q1), .second] [(.long (y + q1)), (.ref a1)])) rfl rfl (hb hby d9_7)
  have N14 := Fr.snoc X14 N0 g1
  refine own_go st14 ?_
  show own_Go p e below _ T14 (mkF m 10 #[.val (.ref a1), .val (.long q1), .second] [])
  exact own_endV X14 hx hret hlk (hb hby d9_10) (by decide) (by decide) ⟨rfl, N14, by rw [e14, W14.size]; exact Nat.le_refl _, by rw [e14]; exact own_wr4 hw O' W14⟩
theorem ef_10 (m : MethodId) (x0 : Addr) : entryFrame m #[(.ref x0)] 1 = mkF m 0 #[.val (.ref x0)] [] := by first | (simp [entryFrame, mkF, argsToLocals, Value.category]; done) | rfl
set_option maxRecDepth 65536 in
set_option maxHeartbeats 40000000 in
theorem rmC5 (l : Launch) (Z : State) (a0 : Array Value) (hw : ∀ d ∈ tables_1, d.before a0 Z = true) (ws : List Jvm.Cond) (a1 : Addr)  (r p' w : Int64) (h0 : Heap) (n0 : Nat) (Z0 : n0 ≤ h0.size) (O : own_Ob Z h0 a1 r p' w) (g1 : n0 ≤ a1) :
    MetFree l (⟨"com/example/seongsu/seongsu/core/ChunkCounts", "countFiltered", "()V"⟩ : MethodName) (head1 (Jvm.Cond.code (⟨"com/example/seongsu/seongsu/core/ChunkCounts", "countFiltered", "()V"⟩ : MethodName) prog_12_method_3_code 1 none :: ws) ({ frames := 0, cells := 0, slots := 0, locals := 0 } : Room)) (fun a U => a = #[(.ref a1)] ∧ Z.Warmed39 U.vm ∧ U.heap = h0) (fun _ _ _ _ _ => True) (fun _ U o U' => ∃ v L, o = .returned v ∧ (own_R (fun u h L => u = none ∧ Fr n0 L ∧ h0.size ≤ h.size ∧ own_Ob Z h a1 r p' w)) v U'.heap L ∧ FrameEnd U o U' L ({ frames := 0, cells := 0, slots := 0, locals := 0 } : Room).cells ({ frames := 0, cells := 0, slots := 0, locals := 0 } : Room).slots) := by
  refine MetFree.of_bodySF (plainFor_of_name pn_0) hisR ?_
  intro p e s m args below meth c s₁ Bd hml0 hP hK
  obtain ⟨rfl, hZ, hh⟩ := hP
  have hx := Bd.exec
  have hby := Bd.bytes
  have hml : c.maxLocals = 1 := hml0
  have hown : s.vm.findClass "com/example/seongsu/seongsu/core/ChunkCounts" = some m.cls := findClass_of_methodNamed Bd.named
  have hnm := (name_of_methodNamed Bd.named Bd.method).1
  have hret := Bd.returns
  have hlk : meth.locks = false := Bd.notSynchronized
  have X0 : Stand p l e ({ frames := 0, cells := 0, slots := 0, locals := 0 } : Room) s m #[(.ref a1)] below meth c s₁ [] 0 0 := Stand.of_body Bd
  have e0 : s₁.heap = h0 := by rw [← hh, Bd.state]; rfl
  have N0 := Fr.nil n0
  show own_Go p e below (own_P (own_R (fun u h L => u = none ∧ Fr n0 L ∧ h0.size ≤ h.size ∧ own_Ob Z h a1 r p' w)) ({ frames := 0, cells := 0, slots := 0, locals := 0 } : Room) s) s₁ (entryFrame m #[(.ref a1)] 1)
  rw [ef_10 m a1]
  show own_Go p e below _ s₁ (mkF m 0 #[.val (.ref a1)] [])
  have O' := O
  obtain ⟨E, F0, F1, F2, x, y, z, F3, F4, F5⟩ := O
  refine own_go (fun _ k => XS.aloadN X0.here hx rfl (hb hby d10_0) rfl rfl k) ?_
  show own_Go p e below _ s₁ (mkF m 1 #[.val (.ref a1)] [(.ref a1)])
  refine own_go (fun _ k => XS.dup X0.here hx rfl (hb hby d10_1) rfl rfl k) ?_
  show own_Go p e below _ s₁ (mkF m 2 #[.val (.ref a1)] [(.ref a1), (.ref a1)])
  obtain ⟨T15, X15, e15, st15⟩ := getF X0 hx hZ hown (host := "") (Or.inl (hw _ (List.mem_of_getElem? (i := 58) rfl))) Via.refl e0 F5 (g := (mkF m 2 #[.val (.ref a1)] [(.ref a1), (.ref a1)])) rfl rfl (hb hby d10_2)
  refine own_go st15 ?_
  show own_Go p e below _ T15 (mkF m 5 #[.val (.ref a1)] [(.long z), (.ref a1)])
  refine own_go (fun _ k => XS.lconst X15.here hx rfl (hb hby d10_5) k) ?_
  show own_Go p e below _ T15 (mkF m 6 #[.val (.ref a1)] [(.long (1 : Int64)), (.long z), (.ref a1)])
  refine own_go (fun _ k => XS.ladd X15.here hx rfl (hb hby d10_6) rfl k) ?_
  show own_Go p e below _ T15 (mkF m 7 #[.val (.ref a1)] [(.long (z + (1 : Int64))), (.ref a1)])
  obtain ⟨T16, h16, X16, e16, W16, st16⟩ := putF X15 hx hZ hown (host := "") (Or.inl (hw _ (List.mem_of_getElem? (i := 58) rfl))) Via.refl e15 F5 E (Or.inl (hw _ (List.mem_of_getElem? (i := 59) rfl))) (hw _ (List.mem_of_getElem? (i := 1) rfl)) (ty := .long) (by decide) rfl rfl (g := (mkF m 7 #[.val (.ref a1)] [(.long (z + (1 : Int64))), (.ref a1)])) rfl rfl (hb hby d10_7)
  have N16 := Fr.snoc X16 N0 g1
  refine own_go st16 ?_
  show own_Go p e below _ T16 (mkF m 10 #[.val (.ref a1)] [])
  exact own_endV X16 hx hret hlk (hb hby d10_10) (by decide) (by decide) ⟨rfl, N16, by rw [e16, W16.size]; exact Nat.le_refl _, by rw [e16]; exact own_wr5 hw O' W16⟩
set_option maxRecDepth 65536 in
set_option maxHeartbeats 40000000 in
theorem own_t120 {p : Program} {l : Launch} {e : Env} {s : State} {m : MethodId} {args : Array Value} {below : List Frame} {meth : Method} {c : Code} {T0 : State} {locs : List Loc} {Z : State} {a0 : Array Value} {h0 : Heap} {n0 : Nat} (f : Int32) (q : Int64) (a1 : Addr) (X0 : Stand p l e room_1 s m args below meth c T0 locs 1 6)
    (hx : p.tables.exec = Jvm.exec) (hZ : Z.Warmed39 s.vm) (hw : ∀ d ∈ tables_1, d.before a0 Z = true) (hby : c.code = code) (hml : c.maxLocals = 12) (hown : s.vm.findClass "com/example/seongsu/seongsu/core/ChunkCountsGetSkipsPinLaw" = some m.cls) (hret : meth.sig.returnType = some .boolean) (hlk : meth.locks = false) (e0 : T0.heap = h0) (Z0 : n0 ≤ h0.size) (N0 : Fr n0 locs) (g1 : n0 ≤ a1) (O : own_Ob Z h0 a1 (((own_bit f (0 : Int32)) + (own_bit f (1 : Int32))).toInt64) (((own_bit f (2 : Int32)) + (own_bit f (3 : Int32))).toInt64) (((own_bit f (4 : Int32)) + (own_bit f (5 : Int32))).toInt64)) :
    own_Go p e below (own_P (own_R (fun v _ L => v = some (.int 1) ∧ Fr n0 L)) room_1 s) T0 (mkF m 120 #[.val (.int f), .val (.long q), .second, .val (.ref a1), .unset, .unset, .unset, .unset, .unset, .unset, .unset, .unset] []) := by
  refine own_go (fun _ k => XS.iloadN X0.here hx rfl (hb hby at_120) rfl  k) ?_
  show own_Go p e below _ T0 (mkF m 121 #[.val (.int f), .val (.long q), .second, .val (.ref a1), .unset, .unset, .unset, .unset, .unset, .unset, .unset, .unset] [(.int f)])
  refine own_go (fun _ k => XS.iconst X0.here hx rfl (hb hby at_121) k) ?_
  show own_Go p e below _ T0 (mkF m 122 #[.val (.int f), .val (.long q), .second, .val (.ref a1), .unset, .unset, .unset, .unset, .unset, .unset, .unset, .unset] [(.int (0 : Int32)), (.int f)])
  obtain ⟨T17, v17, L17, X17, q17, st17⟩ := own_callS X0 hx hZ hown (y := (⟨"com/example/seongsu/seongsu/core/ChunkCountsGetSkipsPinLaw", "bit", "(II)I"⟩ : MethodName)) (hw _ (List.mem_of_getElem? (i := 9) rfl)) (hw _ (List.mem_of_getElem? (i := 10) rfl)) (hw _ (List.mem_of_getElem? (i := 11) rfl)) (hw _ (List.mem_of_getElem? (i := 12) rfl)) (by decide) (rmB l Z a0 hw [] f (0 : Int32) h0 n0 Z0) (Ls := #[.val (.int f), .val (.long q), .second, .val (.ref a1), .unset, .unset, .unset, .unset, .unset, .unset, .unset, .unset]) (st := [(.int (0 : Int32)), (.int f)]) (W := 0) (by decide) (by decide) (by rw [hml]; rfl) (argsL := [(.int f), (.int (0 : Int32))]) (rest := []) (lenOf pd_0 rfl) rfl rfl (Nat.le_of_eq rfl) (hb hby at_122) e0 (by decide) (by decide)
  obtain ⟨rfl, N17', e17⟩ := q17
  have N17 := Fr.app N0 N17'
  refine own_go st17 ?_
  show own_Go p e below _ T17 (mkF m 125 #[.val (.int f), .val (.long q), .second, .val (.ref a1), .unset, .unset, .unset, .unset, .unset, .unset, .unset, .unset] [(.int (own_bit f (0 : Int32)))])
  refine own_go (fun _ k => XS.iloadN X17.here hx rfl (hb hby at_125) rfl  k) ?_
  show own_Go p e below _ T17 (mkF m 126 #[.val (.int f), .val (.long q), .second, .val (.ref a1), .unset, .unset, .unset, .unset, .unset, .unset, .unset, .unset] [(.int f), (.int (own_bit f (0 : Int32)))])
  refine own_go (fun _ k => XS.iconst X17.here hx rfl (hb hby at_126) k) ?_
  show own_Go p e below _ T17 (mkF m 127 #[.val (.int f), .val (.long q), .second, .val (.ref a1), .unset, .unset, .unset, .unset, .unset, .unset, .unset, .unset] [(.int (1 : Int32)), (.int f), (.int (own_bit f (0 : Int32)))])
  obtain ⟨T18, v18, L18, X18, q18, st18⟩ := own_callS X17 hx hZ hown (y := (⟨"com/example/seongsu/seongsu/core/ChunkCountsGetSkipsPinLaw", "bit", "(II)I"⟩ : MethodName)) (hw _ (List.mem_of_getElem? (i := 9) rfl)) (hw _ (List.mem_of_getElem? (i := 10) rfl)) (hw _ (List.mem_of_getElem? (i := 11) rfl)) (hw _ (List.mem_of_getElem? (i := 12) rfl)) (by decide) (rmB l Z a0 hw [] f (1 : Int32) h0 n0 Z0) (Ls := #[.val (.int f), .val (.long q), .second, .val (.ref a1), .unset, .unset, .unset, .unset, .unset, .unset, .unset, .unset]) (st := [(.int (1 : Int32)), (.int f), (.int (own_bit f (0 : Int32)))]) (W := 1) (by decide) (by decide) (by rw [hml]; rfl) (argsL := [(.int f), (.int (1 : Int32))]) (rest := [(.int (own_bit f (0 : Int32)))]) (lenOf pd_0 rfl) rfl rfl (Nat.le_of_eq rfl) (hb hby at_127) e17 (by decide) (by decide)
  obtain ⟨rfl, N18', e18⟩ := q18
  have N18 := Fr.app N17 N18'
  refine own_go st18 ?_
  show own_Go p e below _ T18 (mkF m 130 #[.val (.int f), .val (.long q), .second, .val (.ref a1), .unset, .unset, .unset, .unset, .unset, .unset, .unset, .unset] [(.int (own_bit f (1 : Int32))), (.int (own_bit f (0 : Int32)))])
  refine own_go (fun _ k => XS.iadd X18.here hx rfl (hb hby at_130) rfl k) ?_
  show own_Go p e below _ T18 (mkF m 131 #[.val (.int f), .val (.long q), .second, .val (.ref a1), .unset, .unset, .unset, .unset, .unset, .unset, .unset, .unset] [(.int ((own_bit f (0 : Int32)) + (own_bit f (1 : Int32))))])
  refine own_go (fun _ k => XS.i2l X18.here hx rfl (hb hby at_131) rfl k) ?_
  show own_Go p e below _ T18 (mkF m 132 #[.val (.int f), .val (.long q), .second, .val (.ref a1), .unset, .unset, .unset, .unset, .unset, .unset, .unset, .unset] [(.long (((own_bit f (0 : Int32)) + (own_bit f (1 : Int32))).toInt64))])
  refine own_go (fun _ k => XS.lstore X18.here hx rfl (hb hby at_132) rfl (l' := #[.val (.int f), .val (.long q), .second, .val (.ref a1), .val (.long (((own_bit f (0 : Int32)) + (own_bit f (1 : Int32))).toInt64)), .second, .unset, .unset, .unset, .unset, .unset, .unset]) rfl k) ?_
  show own_Go p e below _ T18 (mkF m 134 #[.val (.int f), .val (.long q), .second, .val (.ref a1), .val (.long (((own_bit f (0 : Int32)) + (own_bit f (1 : Int32))).toInt64)), .second, .unset, .unset, .unset, .unset, .unset, .unset] [])
  refine own_go (fun _ k => XS.iloadN X18.here hx rfl (hb hby at_134) rfl  k) ?_
  show own_Go p e below _ T18 (mkF m 135 #[.val (.int f), .val (.long q), .second, .val (.ref a1), .val (.long (((own_bit f (0 : Int32)) + (own_bit f (1 : Int32))).toInt64)), .second, .unset, .unset, .unset, .unset, .unset, .unset] [(.int f)])
  refine own_go (fun _ k => XS.iconst X18.here hx rfl (hb hby at_135) k) ?_
  show own_Go p e below _ T18 (mkF m 136 #[.val (.int f), .val (.long q), .second, .val (.ref a1), .val (.long (((own_bit f (0 : Int32)) + (own_bit f (1 : Int32))).toInt64)), .second, .unset, .unset, .unset, .unset, .unset, .unset] [(.int (2 : Int32)), (.int f)])
  obtain ⟨T19, v19, L19, X19, q19, st19⟩ := own_callS X18 hx hZ hown (y := (⟨"com/example/seongsu/seongsu/core/ChunkCountsGetSkipsPinLaw", "bit", "(II)I"⟩ : MethodName)) (hw _ (List.mem_of_getElem? (i := 9) rfl)) (hw _ (List.mem_of_getElem? (i := 10) rfl)) (hw _ (List.mem_of_getElem? (i := 11) rfl)) (hw _ (List.mem_of_getElem? (i := 12) rfl)) (by decide) (rmB l Z a0 hw [] f (2 : Int32) h0 n0 Z0) (Ls := #[.val (.int f), .val (.long q), .second, .val (.ref a1), .val (.long (((own_bit f (0 : Int32)) + (own_bit f (1 : Int32))).toInt64)), .second, .unset, .unset, .unset, .unset, .unset, .unset]) (st := [(.int (2 : Int32)), (.int f)]) (W := 0) (by decide) (by decide) (by rw [hml]; rfl) (argsL := [(.int f), (.int (2 : Int32))]) (rest := []) (lenOf pd_0 rfl) rfl rfl (Nat.le_of_eq rfl) (hb hby at_136) e18 (by decide) (by decide)
  obtain ⟨rfl, N19', e19⟩ := q19
  have N19 := Fr.app N18 N19'
  refine own_go st19 ?_
  show own_Go p e below _ T19 (mkF m 139 #[.val (.int f), .val (.long q), .second, .val (.ref a1), .val (.long (((own_bit f (0 : Int32)) + (own_bit f (1 : Int32))).toInt64)), .second, .unset, .unset, .unset, .unset, .unset, .unset] [(.int (own_bit f (2 : Int32)))])
  refine own_go (fun _ k => XS.iloadN X19.here hx rfl (hb hby at_139) rfl  k) ?_
  show own_Go p e below _ T19 (mkF m 140 #[.val (.int f), .val (.long q), .second, .val (.ref a1), .val (.long (((own_bit f (0 : Int32)) + (own_bit f (1 : Int32))).toInt64)), .second, .unset, .unset, .unset, .unset, .unset, .unset] [(.int f), (.int (own_bit f (2 : Int32)))])
  refine own_go (fun _ k => XS.iconst X19.here hx rfl (hb hby at_140) k) ?_
  show own_Go p e below _ T19 (mkF m 141 #[.val (.int f), .val (.long q), .second, .val (.ref a1), .val (.long (((own_bit f (0 : Int32)) + (own_bit f (1 : Int32))).toInt64)), .second, .unset, .unset, .unset, .unset, .unset, .unset] [(.int (3 : Int32)), (.int f), (.int (own_bit f (2 : Int32)))])
  obtain ⟨T20, v20, L20, X20, q20, st20⟩ := own_callS X19 hx hZ hown (y := (⟨"com/example/seongsu/seongsu/core/ChunkCountsGetSkipsPinLaw", "bit", "(II)I"⟩ : MethodName)) (hw _ (List.mem_of_getElem? (i := 9) rfl)) (hw _ (List.mem_of_getElem? (i := 10) rfl)) (hw _ (List.mem_of_getElem? (i := 11) rfl)) (hw _ (List.mem_of_getElem? (i := 12) rfl)) (by decide) (rmB l Z a0 hw [] f (3 : Int32) h0 n0 Z0) (Ls := #[.val (.int f), .val (.long q), .second, .val (.ref a1), .val (.long (((own_bit f (0 : Int32)) + (own_bit f (1 : Int32))).toInt64)), .second, .unset, .unset, .unset, .unset, .unset, .unset]) (st := [(.int (3 : Int32)), (.int f), (.int (own_bit f (2 : Int32)))]) (W := 1) (by decide) (by decide) (by rw [hml]; rfl) (argsL := [(.int f), (.int (3 : Int32))]) (rest := [(.int (own_bit f (2 : Int32)))]) (lenOf pd_0 rfl) rfl rfl (Nat.le_of_eq rfl) (hb hby at_141) e19 (by decide) (by decide)
  obtain ⟨rfl, N20', e20⟩ := q20
  have N20 := Fr.app N19 N20'
  refine own_go st20 ?_
  show own_Go p e below _ T20 (mkF m 144 #[.val (.int f), .val (.long q), .second, .val (.ref a1), .val (.long (((own_bit f (0 : Int32)) + (own_bit f (1 : Int32))).toInt64)), .second, .unset, .unset, .unset, .unset, .unset, .unset] [(.int (own_bit f (3 : Int32))), (.int (own_bit f (2 : Int32)))])
  refine own_go (fun _ k => XS.iadd X20.here hx rfl (hb hby at_144) rfl k) ?_
  show own_Go p e below _ T20 (mkF m 145 #[.val (.int f), .val (.long q), .second, .val (.ref a1), .val (.long (((own_bit f (0 : Int32)) + (own_bit f (1 : Int32))).toInt64)), .second, .unset, .unset, .unset, .unset, .unset, .unset] [(.int ((own_bit f (2 : Int32)) + (own_bit f (3 : Int32))))])
  refine own_go (fun _ k => XS.i2l X20.here hx rfl (hb hby at_145) rfl k) ?_
  show own_Go p e below _ T20 (mkF m 146 #[.val (.int f), .val (.long q), .second, .val (.ref a1), .val (.long (((own_bit f (0 : Int32)) + (own_bit f (1 : Int32))).toInt64)), .second, .unset, .unset, .unset, .unset, .unset, .unset] [(.long (((own_bit f (2 : Int32)) + (own_bit f (3 : Int32))).toInt64))])
  refine own_go (fun _ k => XS.lstore X20.here hx rfl (hb hby at_146) rfl (l' := #[.val (.int f), .val (.long q), .second, .val (.ref a1), .val (.long (((own_bit f (0 : Int32)) + (own_bit f (1 : Int32))).toInt64)), .second, .val (.long (((own_bit f (2 : Int32)) + (own_bit f (3 : Int32))).toInt64)), .second, .unset, .unset, .unset, .unset]) rfl k) ?_
  show own_Go p e below _ T20 (mkF m 148 #[.val (.int f), .val (.long q), .second, .val (.ref a1), .val (.long (((own_bit f (0 : Int32)) + (own_bit f (1 : Int32))).toInt64)), .second, .val (.long (((own_bit f (2 : Int32)) + (own_bit f (3 : Int32))).toInt64)), .second, .unset, .unset, .unset, .unset] [])
  refine own_go (fun _ k => XS.iloadN X20.here hx rfl (hb hby at_148) rfl  k) ?_
  show own_Go p e below _ T20 (mkF m 149 #[.val (.int f), .val (.long q), .second, .val (.ref a1), .val (.long (((own_bit f (0 : Int32)) + (own_bit f (1 : Int32))).toInt64)), .second, .val (.long (((own_bit f (2 : Int32)) + (own_bit f (3 : Int32))).toInt64)), .second, .unset, .unset, .unset, .unset] [(.int f)])
  refine own_go (fun _ k => XS.iconst X20.here hx rfl (hb hby at_149) k) ?_
  show own_Go p e below _ T20 (mkF m 150 #[.val (.int f), .val (.long q), .second, .val (.ref a1), .val (.long (((own_bit f (0 : Int32)) + (own_bit f (1 : Int32))).toInt64)), .second, .val (.long (((own_bit f (2 : Int32)) + (own_bit f (3 : Int32))).toInt64)), .second, .unset, .unset, .unset, .unset] [(.int (4 : Int32)), (.int f)])
  obtain ⟨T21, v21, L21, X21, q21, st21⟩ := own_callS X20 hx hZ hown (y := (⟨"com/example/seongsu/seongsu/core/ChunkCountsGetSkipsPinLaw", "bit", "(II)I"⟩ : MethodName)) (hw _ (List.mem_of_getElem? (i := 9) rfl)) (hw _ (List.mem_of_getElem? (i := 10) rfl)) (hw _ (List.mem_of_getElem? (i := 11) rfl)) (hw _ (List.mem_of_getElem? (i := 12) rfl)) (by decide) (rmB l Z a0 hw [] f (4 : Int32) h0 n0 Z0) (Ls := #[.val (.int f), .val (.long q), .second, .val (.ref a1), .val (.long (((own_bit f (0 : Int32)) + (own_bit f (1 : Int32))).toInt64)), .second, .val (.long (((own_bit f (2 : Int32)) + (own_bit f (3 : Int32))).toInt64)), .second, .unset, .unset, .unset, .unset]) (st := [(.int (4 : Int32)), (.int f)]) (W := 0) (by decide) (by decide) (by rw [hml]; rfl) (argsL := [(.int f), (.int (4 : Int32))]) (rest := []) (lenOf pd_0 rfl) rfl rfl (Nat.le_of_eq rfl) (hb hby at_150) e20 (by decide) (by decide)
  obtain ⟨rfl, N21', e21⟩ := q21
  have N21 := Fr.app N20 N21'
  refine own_go st21 ?_
  show own_Go p e below _ T21 (mkF m 153 #[.val (.int f), .val (.long q), .second, .val (.ref a1), .val (.long (((own_bit f (0 : Int32)) + (own_bit f (1 : Int32))).toInt64)), .second, .val (.long (((own_bit f (2 : Int32)) + (own_bit f (3 : Int32))).toInt64)), .second, .unset, .unset, .unset, .unset] [(.int (own_bit f (4 : Int32)))])
  refine own_go (fun _ k => XS.iloadN X21.here hx rfl (hb hby at_153) rfl  k) ?_
  show own_Go p e below _ T21 (mkF m 154 #[.val (.int f), .val (.long q), .second, .val (.ref a1), .val (.long (((own_bit f (0 : Int32)) + (own_bit f (1 : Int32))).toInt64)), .second, .val (.long (((own_bit f (2 : Int32)) + (own_bit f (3 : Int32))).toInt64)), .second, .unset, .unset, .unset, .unset] [(.int f), (.int (own_bit f (4 : Int32)))])
  refine own_go (fun _ k => XS.iconst X21.here hx rfl (hb hby at_154) k) ?_
  show own_Go p e below _ T21 (mkF m 155 #[.val (.int f), .val (.long q), .second, .val (.ref a1), .val (.long (((own_bit f (0 : Int32)) + (own_bit f (1 : Int32))).toInt64)), .second, .val (.long (((own_bit f (2 : Int32)) + (own_bit f (3 : Int32))).toInt64)), .second, .unset, .unset, .unset, .unset] [(.int (5 : Int32)), (.int f), (.int (own_bit f (4 : Int32)))])
  obtain ⟨T22, v22, L22, X22, q22, st22⟩ := own_callS X21 hx hZ hown (y := (⟨"com/example/seongsu/seongsu/core/ChunkCountsGetSkipsPinLaw", "bit", "(II)I"⟩ : MethodName)) (hw _ (List.mem_of_getElem? (i := 9) rfl)) (hw _ (List.mem_of_getElem? (i := 10) rfl)) (hw _ (List.mem_of_getElem? (i := 11) rfl)) (hw _ (List.mem_of_getElem? (i := 12) rfl)) (by decide) (rmB l Z a0 hw [] f (5 : Int32) h0 n0 Z0) (Ls := #[.val (.int f), .val (.long q), .second, .val (.ref a1), .val (.long (((own_bit f (0 : Int32)) + (own_bit f (1 : Int32))).toInt64)), .second, .val (.long (((own_bit f (2 : Int32)) + (own_bit f (3 : Int32))).toInt64)), .second, .unset, .unset, .unset, .unset]) (st := [(.int (5 : Int32)), (.int f), (.int (own_bit f (4 : Int32)))]) (W := 1) (by decide) (by decide) (by rw [hml]; rfl) (argsL := [(.int f), (.int (5 : Int32))]) (rest := [(.int (own_bit f (4 : Int32)))]) (lenOf pd_0 rfl) rfl rfl (Nat.le_of_eq rfl) (hb hby at_155) e21 (by decide) (by decide)
  obtain ⟨rfl, N22', e22⟩ := q22
  have N22 := Fr.app N21 N22'
  refine own_go st22 ?_
  show own_Go p e below _ T22 (mkF m 158 #[.val (.int f), .val (.long q), .second, .val (.ref a1), .val (.long (((own_bit f (0 : Int32)) + (own_bit f (1 : Int32))).toInt64)), .second, .val (.long (((own_bit f (2 : Int32)) + (own_bit f (3 : Int32))).toInt64)), .second, .unset, .unset, .unset, .unset] [(.int (own_bit f (5 : Int32))), (.int (own_bit f (4 : Int32)))])
  refine own_go (fun _ k => XS.iadd X22.here hx rfl (hb hby at_158) rfl k) ?_
  show own_Go p e below _ T22 (mkF m 159 #[.val (.int f), .val (.long q), .second, .val (.ref a1), .val (.long (((own_bit f (0 : Int32)) + (own_bit f (1 : Int32))).toInt64)), .second, .val (.long (((own_bit f (2 : Int32)) + (own_bit f (3 : Int32))).toInt64)), .second, .unset, .unset, .unset, .unset] [(.int ((own_bit f (4 : Int32)) + (own_bit f (5 : Int32))))])
  refine own_go (fun _ k => XS.i2l X22.here hx rfl (hb hby at_159) rfl k) ?_
  show own_Go p e below _ T22 (mkF m 160 #[.val (.int f), .val (.long q), .second, .val (.ref a1), .val (.long (((own_bit f (0 : Int32)) + (own_bit f (1 : Int32))).toInt64)), .second, .val (.long (((own_bit f (2 : Int32)) + (own_bit f (3 : Int32))).toInt64)), .second, .unset, .unset, .unset, .unset] [(.long (((own_bit f (4 : Int32)) + (own_bit f (5 : Int32))).toInt64))])
  refine own_go (fun _ k => XS.lstore X22.here hx rfl (hb hby at_160) rfl (l' := #[.val (.int f), .val (.long q), .second, .val (.ref a1), .val (.long (((own_bit f (0 : Int32)) + (own_bit f (1 : Int32))).toInt64)), .second, .val (.long (((own_bit f (2 : Int32)) + (own_bit f (3 : Int32))).toInt64)), .second, .val (.long (((own_bit f (4 : Int32)) + (own_bit f (5 : Int32))).toInt64)), .second, .unset, .unset]) rfl k) ?_
  show own_Go p e below _ T22 (mkF m 162 #[.val (.int f), .val (.long q), .second, .val (.ref a1), .val (.long (((own_bit f (0 : Int32)) + (own_bit f (1 : Int32))).toInt64)), .second, .val (.long (((own_bit f (2 : Int32)) + (own_bit f (3 : Int32))).toInt64)), .second, .val (.long (((own_bit f (4 : Int32)) + (own_bit f (5 : Int32))).toInt64)), .second, .unset, .unset] [])
  refine own_go (fun _ k => XS.lload X22.here hx rfl (hb hby at_162) rfl  k) ?_
  show own_Go p e below _ T22 (mkF m 164 #[.val (.int f), .val (.long q), .second, .val (.ref a1), .val (.long (((own_bit f (0 : Int32)) + (own_bit f (1 : Int32))).toInt64)), .second, .val (.long (((own_bit f (2 : Int32)) + (own_bit f (3 : Int32))).toInt64)), .second, .val (.long (((own_bit f (4 : Int32)) + (own_bit f (5 : Int32))).toInt64)), .second, .unset, .unset] [(.long (((own_bit f (0 : Int32)) + (own_bit f (1 : Int32))).toInt64))])
  refine own_go (fun _ k => XS.lload X22.here hx rfl (hb hby at_164) rfl  k) ?_
  show own_Go p e below _ T22 (mkF m 166 #[.val (.int f), .val (.long q), .second, .val (.ref a1), .val (.long (((own_bit f (0 : Int32)) + (own_bit f (1 : Int32))).toInt64)), .second, .val (.long (((own_bit f (2 : Int32)) + (own_bit f (3 : Int32))).toInt64)), .second, .val (.long (((own_bit f (4 : Int32)) + (own_bit f (5 : Int32))).toInt64)), .second, .unset, .unset] [(.long (((own_bit f (2 : Int32)) + (own_bit f (3 : Int32))).toInt64)), (.long (((own_bit f (0 : Int32)) + (own_bit f (1 : Int32))).toInt64))])
  refine own_go (fun _ k => XS.ladd X22.here hx rfl (hb hby at_166) rfl k) ?_
  show own_Go p e below _ T22 (mkF m 167 #[.val (.int f), .val (.long q), .second, .val (.ref a1), .val (.long (((own_bit f (0 : Int32)) + (own_bit f (1 : Int32))).toInt64)), .second, .val (.long (((own_bit f (2 : Int32)) + (own_bit f (3 : Int32))).toInt64)), .second, .val (.long (((own_bit f (4 : Int32)) + (own_bit f (5 : Int32))).toInt64)), .second, .unset, .unset] [(.long ((((own_bit f (0 : Int32)) + (own_bit f (1 : Int32))).toInt64) + (((own_bit f (2 : Int32)) + (own_bit f (3 : Int32))).toInt64)))])
  refine own_go (fun _ k => XS.lload X22.here hx rfl (hb hby at_167) rfl  k) ?_
  show own_Go p e below _ T22 (mkF m 169 #[.val (.int f), .val (.long q), .second, .val (.ref a1), .val (.long (((own_bit f (0 : Int32)) + (own_bit f (1 : Int32))).toInt64)), .second, .val (.long (((own_bit f (2 : Int32)) + (own_bit f (3 : Int32))).toInt64)), .second, .val (.long (((own_bit f (4 : Int32)) + (own_bit f (5 : Int32))).toInt64)), .second, .unset, .unset] [(.long (((own_bit f (4 : Int32)) + (own_bit f (5 : Int32))).toInt64)), (.long ((((own_bit f (0 : Int32)) + (own_bit f (1 : Int32))).toInt64) + (((own_bit f (2 : Int32)) + (own_bit f (3 : Int32))).toInt64)))])
  refine own_go (fun _ k => XS.ladd X22.here hx rfl (hb hby at_169) rfl k) ?_
  show own_Go p e below _ T22 (mkF m 170 #[.val (.int f), .val (.long q), .second, .val (.ref a1), .val (.long (((own_bit f (0 : Int32)) + (own_bit f (1 : Int32))).toInt64)), .second, .val (.long (((own_bit f (2 : Int32)) + (own_bit f (3 : Int32))).toInt64)), .second, .val (.long (((own_bit f (4 : Int32)) + (own_bit f (5 : Int32))).toInt64)), .second, .unset, .unset] [(.long (((((own_bit f (0 : Int32)) + (own_bit f (1 : Int32))).toInt64) + (((own_bit f (2 : Int32)) + (own_bit f (3 : Int32))).toInt64)) + (((own_bit f (4 : Int32)) + (own_bit f (5 : Int32))).toInt64)))])
  refine own_go (fun _ k => XS.lstore X22.here hx rfl (hb hby at_170) rfl (l' := #[.val (.int f), .val (.long q), .second, .val (.ref a1), .val (.long (((own_bit f (0 : Int32)) + (own_bit f (1 : Int32))).toInt64)), .second, .val (.long (((own_bit f (2 : Int32)) + (own_bit f (3 : Int32))).toInt64)), .second, .val (.long (((own_bit f (4 : Int32)) + (own_bit f (5 : Int32))).toInt64)), .second, .val (.long (((((own_bit f (0 : Int32)) + (own_bit f (1 : Int32))).toInt64) + (((own_bit f (2 : Int32)) + (own_bit f (3 : Int32))).toInt64)) + (((own_bit f (4 : Int32)) + (own_bit f (5 : Int32))).toInt64))), .second]) rfl k) ?_
  show own_Go p e below _ T22 (mkF m 172 #[.val (.int f), .val (.long q), .second, .val (.ref a1), .val (.long (((own_bit f (0 : Int32)) + (own_bit f (1 : Int32))).toInt64)), .second, .val (.long (((own_bit f (2 : Int32)) + (own_bit f (3 : Int32))).toInt64)), .second, .val (.long (((own_bit f (4 : Int32)) + (own_bit f (5 : Int32))).toInt64)), .second, .val (.long (((((own_bit f (0 : Int32)) + (own_bit f (1 : Int32))).toInt64) + (((own_bit f (2 : Int32)) + (own_bit f (3 : Int32))).toInt64)) + (((own_bit f (4 : Int32)) + (own_bit f (5 : Int32))).toInt64))), .second] [])
  refine own_go (fun _ k => XS.aloadN X22.here hx rfl (hb hby at_172) rfl rfl k) ?_
  show own_Go p e below _ T22 (mkF m 173 #[.val (.int f), .val (.long q), .second, .val (.ref a1), .val (.long (((own_bit f (0 : Int32)) + (own_bit f (1 : Int32))).toInt64)), .second, .val (.long (((own_bit f (2 : Int32)) + (own_bit f (3 : Int32))).toInt64)), .second, .val (.long (((own_bit f (4 : Int32)) + (own_bit f (5 : Int32))).toInt64)), .second, .val (.long (((((own_bit f (0 : Int32)) + (own_bit f (1 : Int32))).toInt64) + (((own_bit f (2 : Int32)) + (own_bit f (3 : Int32))).toInt64)) + (((own_bit f (4 : Int32)) + (own_bit f (5 : Int32))).toInt64))), .second] [(.ref a1)])
  obtain ⟨T23, v23, L23, X23, q23, st23⟩ := own_callV X22 hx hZ hown (y := (⟨"com/example/seongsu/seongsu/core/ChunkCounts", "getSkips", "()J"⟩ : MethodName)) (hw _ (List.mem_of_getElem? (i := 13) rfl)) (hw _ (List.mem_of_getElem? (i := 14) rfl)) (hw _ (List.mem_of_getElem? (i := 16) rfl)) (hw _ (List.mem_of_getElem? (i := 15) rfl)) (hw _ (List.mem_of_getElem? (i := 2) rfl)) (hw _ (List.mem_of_getElem? (i := 17) rfl)) (by decide) (rmG l Z a0 hw [] a1 _ _ _ h0 n0 Z0 O) (a := a1) O.1 (Ls := #[.val (.int f), .val (.long q), .second, .val (.ref a1), .val (.long (((own_bit f (0 : Int32)) + (own_bit f (1 : Int32))).toInt64)), .second, .val (.long (((own_bit f (2 : Int32)) + (own_bit f (3 : Int32))).toInt64)), .second, .val (.long (((own_bit f (4 : Int32)) + (own_bit f (5 : Int32))).toInt64)), .second, .val (.long (((((own_bit f (0 : Int32)) + (own_bit f (1 : Int32))).toInt64) + (((own_bit f (2 : Int32)) + (own_bit f (3 : Int32))).toInt64)) + (((own_bit f (4 : Int32)) + (own_bit f (5 : Int32))).toInt64))), .second]) (st := [(.ref a1)]) (W := 0) (by decide) (by decide) (by rw [hml]; rfl) (argsL := []) (rest := []) (lenOf pd_1 rfl) rfl rfl (Nat.le_of_eq rfl) (hb hby at_173) e22 (by decide) (by decide)
  obtain ⟨rfl, N23', e23⟩ := q23
  have N23 := Fr.app N22 N23'
  refine own_go st23 ?_
  show own_Go p e below _ T23 (mkF m 176 #[.val (.int f), .val (.long q), .second, .val (.ref a1), .val (.long (((own_bit f (0 : Int32)) + (own_bit f (1 : Int32))).toInt64)), .second, .val (.long (((own_bit f (2 : Int32)) + (own_bit f (3 : Int32))).toInt64)), .second, .val (.long (((own_bit f (4 : Int32)) + (own_bit f (5 : Int32))).toInt64)), .second, .val (.long (((((own_bit f (0 : Int32)) + (own_bit f (1 : Int32))).toInt64) + (((own_bit f (2 : Int32)) + (own_bit f (3 : Int32))).toInt64)) + (((own_bit f (4 : Int32)) + (own_bit f (5 : Int32))).toInt64))), .second] [(.long ((((own_bit f (0 : Int32)) + (own_bit f (1 : Int32))).toInt64 + ((own_bit f (2 : Int32)) + (own_bit f (3 : Int32))).toInt64) + ((own_bit f (4 : Int32)) + (own_bit f (5 : Int32))).toInt64))])
  refine own_go (fun _ k => XS.lload X23.here hx rfl (hb hby at_176) rfl  k) ?_
  show own_Go p e below _ T23 (mkF m 178 #[.val (.int f), .val (.long q), .second, .val (.ref a1), .val (.long (((own_bit f (0 : Int32)) + (own_bit f (1 : Int32))).toInt64)), .second, .val (.long (((own_bit f (2 : Int32)) + (own_bit f (3 : Int32))).toInt64)), .second, .val (.long (((own_bit f (4 : Int32)) + (own_bit f (5 : Int32))).toInt64)), .second, .val (.long (((((own_bit f (0 : Int32)) + (own_bit f (1 : Int32))).toInt64) + (((own_bit f (2 : Int32)) + (own_bit f (3 : Int32))).toInt64)) + (((own_bit f (4 : Int32)) + (own_bit f (5 : Int32))).toInt64))), .second] [(.long (((((own_bit f (0 : Int32)) + (own_bit f (1 : Int32))).toInt64) + (((own_bit f (2 : Int32)) + (own_bit f (3 : Int32))).toInt64)) + (((own_bit f (4 : Int32)) + (own_bit f (5 : Int32))).toInt64))), (.long ((((own_bit f (0 : Int32)) + (own_bit f (1 : Int32))).toInt64 + ((own_bit f (2 : Int32)) + (own_bit f (3 : Int32))).toInt64) + ((own_bit f (4 : Int32)) + (own_bit f (5 : Int32))).toInt64))])
  refine own_go (fun _ k => XS.lcmp X23.here hx rfl (hb hby at_178) rfl k) ?_
  show own_Go p e below _ T23 (mkF m 179 #[.val (.int f), .val (.long q), .second, .val (.ref a1), .val (.long (((own_bit f (0 : Int32)) + (own_bit f (1 : Int32))).toInt64)), .second, .val (.long (((own_bit f (2 : Int32)) + (own_bit f (3 : Int32))).toInt64)), .second, .val (.long (((own_bit f (4 : Int32)) + (own_bit f (5 : Int32))).toInt64)), .second, .val (.long (((((own_bit f (0 : Int32)) + (own_bit f (1 : Int32))).toInt64) + (((own_bit f (2 : Int32)) + (own_bit f (3 : Int32))).toInt64)) + (((own_bit f (4 : Int32)) + (own_bit f (5 : Int32))).toInt64))), .second] [(.int (lcmpW ((((own_bit f (0 : Int32)) + (own_bit f (1 : Int32))).toInt64 + ((own_bit f (2 : Int32)) + (own_bit f (3 : Int32))).toInt64) + ((own_bit f (4 : Int32)) + (own_bit f (5 : Int32))).toInt64) (((((own_bit f (0 : Int32)) + (own_bit f (1 : Int32))).toInt64) + (((own_bit f (2 : Int32)) + (own_bit f (3 : Int32))).toInt64)) + (((own_bit f (4 : Int32)) + (own_bit f (5 : Int32))).toInt64))))])
  refine own_go (fun _ k => XS.ifNo X23.here hx rfl (hb hby at_179) rfl ((if0 _ _).trans (teq ((lw_eq _ _).mpr rfl)).2) k) ?_
  show own_Go p e below _ T23 (mkF m 182 #[.val (.int f), .val (.long q), .second, .val (.ref a1), .val (.long (((own_bit f (0 : Int32)) + (own_bit f (1 : Int32))).toInt64)), .second, .val (.long (((own_bit f (2 : Int32)) + (own_bit f (3 : Int32))).toInt64)), .second, .val (.long (((own_bit f (4 : Int32)) + (own_bit f (5 : Int32))).toInt64)), .second, .val (.long (((((own_bit f (0 : Int32)) + (own_bit f (1 : Int32))).toInt64) + (((own_bit f (2 : Int32)) + (own_bit f (3 : Int32))).toInt64)) + (((own_bit f (4 : Int32)) + (own_bit f (5 : Int32))).toInt64))), .second] [])
  refine own_go (fun _ k => XS.iconst X23.here hx rfl (hb hby at_182) k) ?_
  show own_Go p e below _ T23 (mkF m 183 #[.val (.int f), .val (.long q), .second, .val (.ref a1), .val (.long (((own_bit f (0 : Int32)) + (own_bit f (1 : Int32))).toInt64)), .second, .val (.long (((own_bit f (2 : Int32)) + (own_bit f (3 : Int32))).toInt64)), .second, .val (.long (((own_bit f (4 : Int32)) + (own_bit f (5 : Int32))).toInt64)), .second, .val (.long (((((own_bit f (0 : Int32)) + (own_bit f (1 : Int32))).toInt64) + (((own_bit f (2 : Int32)) + (own_bit f (3 : Int32))).toInt64)) + (((own_bit f (4 : Int32)) + (own_bit f (5 : Int32))).toInt64))), .second] [(.int (1 : Int32))])
  refine own_go (fun _ k => XS.goto X23.here hx rfl (pc0 := 183) (pc' := 187) rfl (hb hby at_183) (by decide) (by decide) k) ?_
  show own_Go p e below _ T23 (mkF m 187 #[.val (.int f), .val (.long q), .second, .val (.ref a1), .val (.long (((own_bit f (0 : Int32)) + (own_bit f (1 : Int32))).toInt64)), .second, .val (.long (((own_bit f (2 : Int32)) + (own_bit f (3 : Int32))).toInt64)), .second, .val (.long (((own_bit f (4 : Int32)) + (own_bit f (5 : Int32))).toInt64)), .second, .val (.long (((((own_bit f (0 : Int32)) + (own_bit f (1 : Int32))).toInt64) + (((own_bit f (2 : Int32)) + (own_bit f (3 : Int32))).toInt64)) + (((own_bit f (4 : Int32)) + (own_bit f (5 : Int32))).toInt64))), .second] [(.int (1 : Int32))])
  exact own_endZ X23 hx hret hlk (hb hby at_187) rfl (by decide) (by decide) ⟨rfl, N23⟩
set_option maxRecDepth 65536 in
set_option maxHeartbeats 40000000 in
theorem own_t108 {p : Program} {l : Launch} {e : Env} {s : State} {m : MethodId} {args : Array Value} {below : List Frame} {meth : Method} {c : Code} {T0 : State} {locs : List Loc} {Z : State} {a0 : Array Value} {h0 : Heap} {n0 : Nat} (f : Int32) (q : Int64) (a1 : Addr) (X0 : Stand p l e room_1 s m args below meth c T0 locs 1 6)
    (hx : p.tables.exec = Jvm.exec) (hZ : Z.Warmed39 s.vm) (hw : ∀ d ∈ tables_1, d.before a0 Z = true) (hby : c.code = code) (hml : c.maxLocals = 12) (hown : s.vm.findClass "com/example/seongsu/seongsu/core/ChunkCountsGetSkipsPinLaw" = some m.cls) (hret : meth.sig.returnType = some .boolean) (hlk : meth.locks = false) (e0 : T0.heap = h0) (Z0 : n0 ≤ h0.size) (N0 : Fr n0 locs) (g1 : n0 ≤ a1) (O : own_Ob Z h0 a1 (((own_bit f (0 : Int32)) + (own_bit f (1 : Int32))).toInt64) (((own_bit f (2 : Int32)) + (own_bit f (3 : Int32))).toInt64) ((own_bit f (4 : Int32)).toInt64)) :
    own_Go p e below (own_P (own_R (fun v _ L => v = some (.int 1) ∧ Fr n0 L)) room_1 s) T0 (mkF m 108 #[.val (.int f), .val (.long q), .second, .val (.ref a1), .unset, .unset, .unset, .unset, .unset, .unset, .unset, .unset] []) := by
  refine own_go (fun _ k => XS.iloadN X0.here hx rfl (hb hby at_108) rfl  k) ?_
  show own_Go p e below _ T0 (mkF m 109 #[.val (.int f), .val (.long q), .second, .val (.ref a1), .unset, .unset, .unset, .unset, .unset, .unset, .unset, .unset] [(.int f)])
  refine own_go (fun _ k => XS.iconst X0.here hx rfl (hb hby at_109) k) ?_
  show own_Go p e below _ T0 (mkF m 110 #[.val (.int f), .val (.long q), .second, .val (.ref a1), .unset, .unset, .unset, .unset, .unset, .unset, .unset, .unset] [(.int (5 : Int32)), (.int f)])
  obtain ⟨T24, v24, L24, X24, q24, st24⟩ := own_callS X0 hx hZ hown (y := (⟨"com/example/seongsu/seongsu/core/ChunkCountsGetSkipsPinLaw", "bit", "(II)I"⟩ : MethodName)) (hw _ (List.mem_of_getElem? (i := 9) rfl)) (hw _ (List.mem_of_getElem? (i := 10) rfl)) (hw _ (List.mem_of_getElem? (i := 11) rfl)) (hw _ (List.mem_of_getElem? (i := 12) rfl)) (by decide) (rmB l Z a0 hw [] f (5 : Int32) h0 n0 Z0) (Ls := #[.val (.int f), .val (.long q), .second, .val (.ref a1), .unset, .unset, .unset, .unset, .unset, .unset, .unset, .unset]) (st := [(.int (5 : Int32)), (.int f)]) (W := 0) (by decide) (by decide) (by rw [hml]; rfl) (argsL := [(.int f), (.int (5 : Int32))]) (rest := []) (lenOf pd_0 rfl) rfl rfl (Nat.le_of_eq rfl) (hb hby at_110) e0 (by decide) (by decide)
  obtain ⟨rfl, N24', e24⟩ := q24
  have N24 := Fr.app N0 N24'
  refine own_go st24 ?_
  show own_Go p e below _ T24 (mkF m 113 #[.val (.int f), .val (.long q), .second, .val (.ref a1), .unset, .unset, .unset, .unset, .unset, .unset, .unset, .unset] [(.int (own_bit f (5 : Int32)))])
  by_cases hz : (own_bit f (5 : Int32)) = (0 : Int32)
  · refine own_go (fun _ k => XS.ifYes X24.here hx rfl (pc0 := 113) (pc' := 120) rfl (hb hby at_113) rfl ((if0 _ _).trans (teq hz).1) (by decide) (by decide) k) ?_
    show own_Go p e below _ T24 (mkF m 120 #[.val (.int f), .val (.long q), .second, .val (.ref a1), .unset, .unset, .unset, .unset, .unset, .unset, .unset, .unset] [])
    have O2 : own_Ob Z h0 a1 (((own_bit f (0 : Int32)) + (own_bit f (1 : Int32))).toInt64) (((own_bit f (2 : Int32)) + (own_bit f (3 : Int32))).toInt64) (((own_bit f (4 : Int32)) + (own_bit f (5 : Int32))).toInt64) := by rw [show ((own_bit f (4 : Int32)) + (own_bit f (5 : Int32))).toInt64 = (own_bit f (4 : Int32)).toInt64 from (own_st1 hz).symm]; exact O
    exact own_t120 f q a1 X24 hx hZ hw hby hml hown hret hlk e24 Z0 N24 g1 O2
  · refine own_go (fun _ k => XS.ifNo X24.here hx rfl (hb hby at_113) rfl ((if0 _ _).trans (feq hz).1) k) ?_
    show own_Go p e below _ T24 (mkF m 116 #[.val (.int f), .val (.long q), .second, .val (.ref a1), .unset, .unset, .unset, .unset, .unset, .unset, .unset, .unset] [])
    refine own_go (fun _ k => XS.aloadN X24.here hx rfl (hb hby at_116) rfl rfl k) ?_
    show own_Go p e below _ T24 (mkF m 117 #[.val (.int f), .val (.long q), .second, .val (.ref a1), .unset, .unset, .unset, .unset, .unset, .unset, .unset, .unset] [(.ref a1)])
    obtain ⟨T25, v25, L25, X25, q25, st25⟩ := own_callV X24 hx hZ hown (y := (⟨"com/example/seongsu/seongsu/core/ChunkCounts", "countWriteSkip", "()V"⟩ : MethodName)) (hw _ (List.mem_of_getElem? (i := 41) rfl)) (hw _ (List.mem_of_getElem? (i := 42) rfl)) (hw _ (List.mem_of_getElem? (i := 44) rfl)) (hw _ (List.mem_of_getElem? (i := 43) rfl)) (hw _ (List.mem_of_getElem? (i := 2) rfl)) (hw _ (List.mem_of_getElem? (i := 45) rfl)) (by decide) (rmC2 l Z a0 hw [] a1  _ _ _ h0 n0 Z0 O g1) (a := a1) O.1 (Ls := #[.val (.int f), .val (.long q), .second, .val (.ref a1), .unset, .unset, .unset, .unset, .unset, .unset, .unset, .unset]) (st := [(.ref a1)]) (W := 0) (by decide) (by decide) (by rw [hml]; rfl) (argsL := []) (rest := []) (lenOf pd_2 rfl) rfl rfl (Nat.le_of_eq rfl) (hb hby at_117) e24 (by decide) (by decide)
    obtain ⟨rfl, N25', hsz, O'⟩ := q25
    have N25 := Fr.app N24 N25'
    refine own_go st25 ?_
    show own_Go p e below _ T25 (mkF m 120 #[.val (.int f), .val (.long q), .second, .val (.ref a1), .unset, .unset, .unset, .unset, .unset, .unset, .unset, .unset] [])
    rw [show (own_bit f (4 : Int32)).toInt64 + (1 : Int64) = ((own_bit f (4 : Int32)) + (own_bit f (5 : Int32))).toInt64 from own_up1 (own_bit01 _ _) (own_bit01 _ _) hz] at O'
    exact own_t120 f q a1 X25 hx hZ hw hby hml hown hret hlk rfl (Nat.le_trans Z0 hsz) N25 g1 O'
set_option maxRecDepth 65536 in
set_option maxHeartbeats 40000000 in
theorem own_t96 {p : Program} {l : Launch} {e : Env} {s : State} {m : MethodId} {args : Array Value} {below : List Frame} {meth : Method} {c : Code} {T0 : State} {locs : List Loc} {Z : State} {a0 : Array Value} {h0 : Heap} {n0 : Nat} (f : Int32) (q : Int64) (a1 : Addr) (X0 : Stand p l e room_1 s m args below meth c T0 locs 1 6)
    (hx : p.tables.exec = Jvm.exec) (hZ : Z.Warmed39 s.vm) (hw : ∀ d ∈ tables_1, d.before a0 Z = true) (hby : c.code = code) (hml : c.maxLocals = 12) (hown : s.vm.findClass "com/example/seongsu/seongsu/core/ChunkCountsGetSkipsPinLaw" = some m.cls) (hret : meth.sig.returnType = some .boolean) (hlk : meth.locks = false) (e0 : T0.heap = h0) (Z0 : n0 ≤ h0.size) (N0 : Fr n0 locs) (g1 : n0 ≤ a1) (O : own_Ob Z h0 a1 (((own_bit f (0 : Int32)) + (own_bit f (1 : Int32))).toInt64) ((own_bit f (2 : Int32)).toInt64) ((own_bit f (4 : Int32)).toInt64)) :
    own_Go p e below (own_P (own_R (fun v _ L => v = some (.int 1) ∧ Fr n0 L)) room_1 s) T0 (mkF m 96 #[.val (.int f), .val (.long q), .second, .val (.ref a1), .unset, .unset, .unset, .unset, .unset, .unset, .unset, .unset] []) := by
  refine own_go (fun _ k => XS.iloadN X0.here hx rfl (hb hby at_96) rfl  k) ?_
  show own_Go p e below _ T0 (mkF m 97 #[.val (.int f), .val (.long q), .second, .val (.ref a1), .unset, .unset, .unset, .unset, .unset, .unset, .unset, .unset] [(.int f)])
  refine own_go (fun _ k => XS.iconst X0.here hx rfl (hb hby at_97) k) ?_
  show own_Go p e below _ T0 (mkF m 98 #[.val (.int f), .val (.long q), .second, .val (.ref a1), .unset, .unset, .unset, .unset, .unset, .unset, .unset, .unset] [(.int (3 : Int32)), (.int f)])
  obtain ⟨T26, v26, L26, X26, q26, st26⟩ := own_callS X0 hx hZ hown (y := (⟨"com/example/seongsu/seongsu/core/ChunkCountsGetSkipsPinLaw", "bit", "(II)I"⟩ : MethodName)) (hw _ (List.mem_of_getElem? (i := 9) rfl)) (hw _ (List.mem_of_getElem? (i := 10) rfl)) (hw _ (List.mem_of_getElem? (i := 11) rfl)) (hw _ (List.mem_of_getElem? (i := 12) rfl)) (by decide) (rmB l Z a0 hw [] f (3 : Int32) h0 n0 Z0) (Ls := #[.val (.int f), .val (.long q), .second, .val (.ref a1), .unset, .unset, .unset, .unset, .unset, .unset, .unset, .unset]) (st := [(.int (3 : Int32)), (.int f)]) (W := 0) (by decide) (by decide) (by rw [hml]; rfl) (argsL := [(.int f), (.int (3 : Int32))]) (rest := []) (lenOf pd_0 rfl) rfl rfl (Nat.le_of_eq rfl) (hb hby at_98) e0 (by decide) (by decide)
  obtain ⟨rfl, N26', e26⟩ := q26
  have N26 := Fr.app N0 N26'
  refine own_go st26 ?_
  show own_Go p e below _ T26 (mkF m 101 #[.val (.int f), .val (.long q), .second, .val (.ref a1), .unset, .unset, .unset, .unset, .unset, .unset, .unset, .unset] [(.int (own_bit f (3 : Int32)))])
  by_cases hz : (own_bit f (3 : Int32)) = (0 : Int32)
  · refine own_go (fun _ k => XS.ifYes X26.here hx rfl (pc0 := 101) (pc' := 108) rfl (hb hby at_101) rfl ((if0 _ _).trans (teq hz).1) (by decide) (by decide) k) ?_
    show own_Go p e below _ T26 (mkF m 108 #[.val (.int f), .val (.long q), .second, .val (.ref a1), .unset, .unset, .unset, .unset, .unset, .unset, .unset, .unset] [])
    have O2 : own_Ob Z h0 a1 (((own_bit f (0 : Int32)) + (own_bit f (1 : Int32))).toInt64) (((own_bit f (2 : Int32)) + (own_bit f (3 : Int32))).toInt64) ((own_bit f (4 : Int32)).toInt64) := by rw [show ((own_bit f (2 : Int32)) + (own_bit f (3 : Int32))).toInt64 = (own_bit f (2 : Int32)).toInt64 from (own_st1 hz).symm]; exact O
    exact own_t108 f q a1 X26 hx hZ hw hby hml hown hret hlk e26 Z0 N26 g1 O2
  · refine own_go (fun _ k => XS.ifNo X26.here hx rfl (hb hby at_101) rfl ((if0 _ _).trans (feq hz).1) k) ?_
    show own_Go p e below _ T26 (mkF m 104 #[.val (.int f), .val (.long q), .second, .val (.ref a1), .unset, .unset, .unset, .unset, .unset, .unset, .unset, .unset] [])
    refine own_go (fun _ k => XS.aloadN X26.here hx rfl (hb hby at_104) rfl rfl k) ?_
    show own_Go p e below _ T26 (mkF m 105 #[.val (.int f), .val (.long q), .second, .val (.ref a1), .unset, .unset, .unset, .unset, .unset, .unset, .unset, .unset] [(.ref a1)])
    obtain ⟨T27, v27, L27, X27, q27, st27⟩ := own_callV X26 hx hZ hown (y := (⟨"com/example/seongsu/seongsu/core/ChunkCounts", "countProcessSkip", "()V"⟩ : MethodName)) (hw _ (List.mem_of_getElem? (i := 36) rfl)) (hw _ (List.mem_of_getElem? (i := 37) rfl)) (hw _ (List.mem_of_getElem? (i := 39) rfl)) (hw _ (List.mem_of_getElem? (i := 38) rfl)) (hw _ (List.mem_of_getElem? (i := 2) rfl)) (hw _ (List.mem_of_getElem? (i := 40) rfl)) (by decide) (rmC1 l Z a0 hw [] a1  _ _ _ h0 n0 Z0 O g1) (a := a1) O.1 (Ls := #[.val (.int f), .val (.long q), .second, .val (.ref a1), .unset, .unset, .unset, .unset, .unset, .unset, .unset, .unset]) (st := [(.ref a1)]) (W := 0) (by decide) (by decide) (by rw [hml]; rfl) (argsL := []) (rest := []) (lenOf pd_2 rfl) rfl rfl (Nat.le_of_eq rfl) (hb hby at_105) e26 (by decide) (by decide)
    obtain ⟨rfl, N27', hsz, O'⟩ := q27
    have N27 := Fr.app N26 N27'
    refine own_go st27 ?_
    show own_Go p e below _ T27 (mkF m 108 #[.val (.int f), .val (.long q), .second, .val (.ref a1), .unset, .unset, .unset, .unset, .unset, .unset, .unset, .unset] [])
    rw [show (own_bit f (2 : Int32)).toInt64 + (1 : Int64) = ((own_bit f (2 : Int32)) + (own_bit f (3 : Int32))).toInt64 from own_up1 (own_bit01 _ _) (own_bit01 _ _) hz] at O'
    exact own_t108 f q a1 X27 hx hZ hw hby hml hown hret hlk rfl (Nat.le_trans Z0 hsz) N27 g1 O'
set_option maxRecDepth 65536 in
set_option maxHeartbeats 40000000 in
theorem own_t83 {p : Program} {l : Launch} {e : Env} {s : State} {m : MethodId} {args : Array Value} {below : List Frame} {meth : Method} {c : Code} {T0 : State} {locs : List Loc} {Z : State} {a0 : Array Value} {h0 : Heap} {n0 : Nat} (f : Int32) (q : Int64) (a1 : Addr) (X0 : Stand p l e room_1 s m args below meth c T0 locs 1 6)
    (hx : p.tables.exec = Jvm.exec) (hZ : Z.Warmed39 s.vm) (hw : ∀ d ∈ tables_1, d.before a0 Z = true) (hby : c.code = code) (hml : c.maxLocals = 12) (hown : s.vm.findClass "com/example/seongsu/seongsu/core/ChunkCountsGetSkipsPinLaw" = some m.cls) (hret : meth.sig.returnType = some .boolean) (hlk : meth.locks = false) (e0 : T0.heap = h0) (Z0 : n0 ≤ h0.size) (N0 : Fr n0 locs) (g1 : n0 ≤ a1) (O : own_Ob Z h0 a1 (((own_bit f (0 : Int32)) + (own_bit f (1 : Int32))).toInt64) ((own_bit f (2 : Int32)).toInt64) ((own_bit f (4 : Int32)).toInt64)) :
    own_Go p e below (own_P (own_R (fun v _ L => v = some (.int 1) ∧ Fr n0 L)) room_1 s) T0 (mkF m 83 #[.val (.int f), .val (.long q), .second, .val (.ref a1), .unset, .unset, .unset, .unset, .unset, .unset, .unset, .unset] []) := by
  refine own_go (fun _ k => XS.iloadN X0.here hx rfl (hb hby at_83) rfl  k) ?_
  show own_Go p e below _ T0 (mkF m 84 #[.val (.int f), .val (.long q), .second, .val (.ref a1), .unset, .unset, .unset, .unset, .unset, .unset, .unset, .unset] [(.int f)])
  refine own_go (fun _ k => XS.bipush X0.here hx rfl (hb hby at_84) k) ?_
  show own_Go p e below _ T0 (mkF m 86 #[.val (.int f), .val (.long q), .second, .val (.ref a1), .unset, .unset, .unset, .unset, .unset, .unset, .unset, .unset] [(.int (7 : Int32)), (.int f)])
  obtain ⟨T28, v28, L28, X28, q28, st28⟩ := own_callS X0 hx hZ hown (y := (⟨"com/example/seongsu/seongsu/core/ChunkCountsGetSkipsPinLaw", "bit", "(II)I"⟩ : MethodName)) (hw _ (List.mem_of_getElem? (i := 9) rfl)) (hw _ (List.mem_of_getElem? (i := 10) rfl)) (hw _ (List.mem_of_getElem? (i := 11) rfl)) (hw _ (List.mem_of_getElem? (i := 12) rfl)) (by decide) (rmB l Z a0 hw [] f (7 : Int32) h0 n0 Z0) (Ls := #[.val (.int f), .val (.long q), .second, .val (.ref a1), .unset, .unset, .unset, .unset, .unset, .unset, .unset, .unset]) (st := [(.int (7 : Int32)), (.int f)]) (W := 0) (by decide) (by decide) (by rw [hml]; rfl) (argsL := [(.int f), (.int (7 : Int32))]) (rest := []) (lenOf pd_0 rfl) rfl rfl (Nat.le_of_eq rfl) (hb hby at_86) e0 (by decide) (by decide)
  obtain ⟨rfl, N28', e28⟩ := q28
  have N28 := Fr.app N0 N28'
  refine own_go st28 ?_
  show own_Go p e below _ T28 (mkF m 89 #[.val (.int f), .val (.long q), .second, .val (.ref a1), .unset, .unset, .unset, .unset, .unset, .unset, .unset, .unset] [(.int (own_bit f (7 : Int32)))])
  by_cases hz : (own_bit f (7 : Int32)) = (0 : Int32)
  · refine own_go (fun _ k => XS.ifYes X28.here hx rfl (pc0 := 89) (pc' := 96) rfl (hb hby at_89) rfl ((if0 _ _).trans (teq hz).1) (by decide) (by decide) k) ?_
    show own_Go p e below _ T28 (mkF m 96 #[.val (.int f), .val (.long q), .second, .val (.ref a1), .unset, .unset, .unset, .unset, .unset, .unset, .unset, .unset] [])
    have O2 := O
    exact own_t96 f q a1 X28 hx hZ hw hby hml hown hret hlk e28 Z0 N28 g1 O2
  · refine own_go (fun _ k => XS.ifNo X28.here hx rfl (hb hby at_89) rfl ((if0 _ _).trans (feq hz).1) k) ?_
    show own_Go p e below _ T28 (mkF m 92 #[.val (.int f), .val (.long q), .second, .val (.ref a1), .unset, .unset, .unset, .unset, .unset, .unset, .unset, .unset] [])
    refine own_go (fun _ k => XS.aloadN X28.here hx rfl (hb hby at_92) rfl rfl k) ?_
    show own_Go p e below _ T28 (mkF m 93 #[.val (.int f), .val (.long q), .second, .val (.ref a1), .unset, .unset, .unset, .unset, .unset, .unset, .unset, .unset] [(.ref a1)])
    obtain ⟨T29, v29, L29, X29, q29, st29⟩ := own_callV X28 hx hZ hown (y := (⟨"com/example/seongsu/seongsu/core/ChunkCounts", "countFiltered", "()V"⟩ : MethodName)) (hw _ (List.mem_of_getElem? (i := 53) rfl)) (hw _ (List.mem_of_getElem? (i := 54) rfl)) (hw _ (List.mem_of_getElem? (i := 56) rfl)) (hw _ (List.mem_of_getElem? (i := 55) rfl)) (hw _ (List.mem_of_getElem? (i := 2) rfl)) (hw _ (List.mem_of_getElem? (i := 57) rfl)) (by decide) (rmC5 l Z a0 hw [] a1  _ _ _ h0 n0 Z0 O g1) (a := a1) O.1 (Ls := #[.val (.int f), .val (.long q), .second, .val (.ref a1), .unset, .unset, .unset, .unset, .unset, .unset, .unset, .unset]) (st := [(.ref a1)]) (W := 0) (by decide) (by decide) (by rw [hml]; rfl) (argsL := []) (rest := []) (lenOf pd_2 rfl) rfl rfl (Nat.le_of_eq rfl) (hb hby at_93) e28 (by decide) (by decide)
    obtain ⟨rfl, N29', hsz, O'⟩ := q29
    have N29 := Fr.app N28 N29'
    refine own_go st29 ?_
    show own_Go p e below _ T29 (mkF m 96 #[.val (.int f), .val (.long q), .second, .val (.ref a1), .unset, .unset, .unset, .unset, .unset, .unset, .unset, .unset] [])
    exact own_t96 f q a1 X29 hx hZ hw hby hml hown hret hlk rfl (Nat.le_trans Z0 hsz) N29 g1 O'
set_option maxRecDepth 65536 in
set_option maxHeartbeats 40000000 in
theorem own_t71 {p : Program} {l : Launch} {e : Env} {s : State} {m : MethodId} {args : Array Value} {below : List Frame} {meth : Method} {c : Code} {T0 : State} {locs : List Loc} {Z : State} {a0 : Array Value} {h0 : Heap} {n0 : Nat} (f : Int32) (q : Int64) (a1 : Addr) (X0 : Stand p l e room_1 s m args below meth c T0 locs 1 6)
    (hx : p.tables.exec = Jvm.exec) (hZ : Z.Warmed39 s.vm) (hw : ∀ d ∈ tables_1, d.before a0 Z = true) (hby : c.code = code) (hml : c.maxLocals = 12) (hown : s.vm.findClass "com/example/seongsu/seongsu/core/ChunkCountsGetSkipsPinLaw" = some m.cls) (hret : meth.sig.returnType = some .boolean) (hlk : meth.locks = false) (e0 : T0.heap = h0) (Z0 : n0 ≤ h0.size) (N0 : Fr n0 locs) (g1 : n0 ≤ a1) (O : own_Ob Z h0 a1 ((own_bit f (0 : Int32)).toInt64) ((own_bit f (2 : Int32)).toInt64) ((own_bit f (4 : Int32)).toInt64)) :
    own_Go p e below (own_P (own_R (fun v _ L => v = some (.int 1) ∧ Fr n0 L)) room_1 s) T0 (mkF m 71 #[.val (.int f), .val (.long q), .second, .val (.ref a1), .unset, .unset, .unset, .unset, .unset, .unset, .unset, .unset] []) := by
  refine own_go (fun _ k => XS.iloadN X0.here hx rfl (hb hby at_71) rfl  k) ?_
  show own_Go p e below _ T0 (mkF m 72 #[.val (.int f), .val (.long q), .second, .val (.ref a1), .unset, .unset, .unset, .unset, .unset, .unset, .unset, .unset] [(.int f)])
  refine own_go (fun _ k => XS.iconst X0.here hx rfl (hb hby at_72) k) ?_
  show own_Go p e below _ T0 (mkF m 73 #[.val (.int f), .val (.long q), .second, .val (.ref a1), .unset, .unset, .unset, .unset, .unset, .unset, .unset, .unset] [(.int (1 : Int32)), (.int f)])
  obtain ⟨T30, v30, L30, X30, q30, st30⟩ := own_callS X0 hx hZ hown (y := (⟨"com/example/seongsu/seongsu/core/ChunkCountsGetSkipsPinLaw", "bit", "(II)I"⟩ : MethodName)) (hw _ (List.mem_of_getElem? (i := 9) rfl)) (hw _ (List.mem_of_getElem? (i := 10) rfl)) (hw _ (List.mem_of_getElem? (i := 11) rfl)) (hw _ (List.mem_of_getElem? (i := 12) rfl)) (by decide) (rmB l Z a0 hw [] f (1 : Int32) h0 n0 Z0) (Ls := #[.val (.int f), .val (.long q), .second, .val (.ref a1), .unset, .unset, .unset, .unset, .unset, .unset, .unset, .unset]) (st := [(.int (1 : Int32)), (.int f)]) (W := 0) (by decide) (by decide) (by rw [hml]; rfl) (argsL := [(.int f), (.int (1 : Int32))]) (rest := []) (lenOf pd_0 rfl) rfl rfl (Nat.le_of_eq rfl) (hb hby at_73) e0 (by decide) (by decide)
  obtain ⟨rfl, N30', e30⟩ := q30
  have N30 := Fr.app N0 N30'
  refine own_go st30 ?_
  show own_Go p e below _ T30 (mkF m 76 #[.val (.int f), .val (.long q), .second, .val (.ref a1), .unset, .unset, .unset, .unset, .unset, .unset, .unset, .unset] [(.int (own_bit f (1 : Int32)))])
  by_cases hz : (own_bit f (1 : Int32)) = (0 : Int32)
  · refine own_go (fun _ k => XS.ifYes X30.here hx rfl (pc0 := 76) (pc' := 83) rfl (hb hby at_76) rfl ((if0 _ _).trans (teq hz).1) (by decide) (by decide) k) ?_
    show own_Go p e below _ T30 (mkF m 83 #[.val (.int f), .val (.long q), .second, .val (.ref a1), .unset, .unset, .unset, .unset, .unset, .unset, .unset, .unset] [])
    have O2 : own_Ob Z h0 a1 (((own_bit f (0 : Int32)) + (own_bit f (1 : Int32))).toInt64) ((own_bit f (2 : Int32)).toInt64) ((own_bit f (4 : Int32)).toInt64) := by rw [show ((own_bit f (0 : Int32)) + (own_bit f (1 : Int32))).toInt64 = (own_bit f (0 : Int32)).toInt64 from (own_st1 hz).symm]; exact O
    exact own_t83 f q a1 X30 hx hZ hw hby hml hown hret hlk e30 Z0 N30 g1 O2
  · refine own_go (fun _ k => XS.ifNo X30.here hx rfl (hb hby at_76) rfl ((if0 _ _).trans (feq hz).1) k) ?_
    show own_Go p e below _ T30 (mkF m 79 #[.val (.int f), .val (.long q), .second, .val (.ref a1), .unset, .unset, .unset, .unset, .unset, .unset, .unset, .unset] [])
    refine own_go (fun _ k => XS.aloadN X30.here hx rfl (hb hby at_79) rfl rfl k) ?_
    show own_Go p e below _ T30 (mkF m 80 #[.val (.int f), .val (.long q), .second, .val (.ref a1), .unset, .unset, .unset, .unset, .unset, .unset, .unset, .unset] [(.ref a1)])
    obtain ⟨T31, v31, L31, X31, q31, st31⟩ := own_callV X30 hx hZ hown (y := (⟨"com/example/seongsu/seongsu/core/ChunkCounts", "countReadSkip", "()V"⟩ : MethodName)) (hw _ (List.mem_of_getElem? (i := 24) rfl)) (hw _ (List.mem_of_getElem? (i := 25) rfl)) (hw _ (List.mem_of_getElem? (i := 27) rfl)) (hw _ (List.mem_of_getElem? (i := 26) rfl)) (hw _ (List.mem_of_getElem? (i := 2) rfl)) (hw _ (List.mem_of_getElem? (i := 28) rfl)) (by decide) (rmC0 l Z a0 hw [] a1  _ _ _ h0 n0 Z0 O g1) (a := a1) O.1 (Ls := #[.val (.int f), .val (.long q), .second, .val (.ref a1), .unset, .unset, .unset, .unset, .unset, .unset, .unset, .unset]) (st := [(.ref a1)]) (W := 0) (by decide) (by decide) (by rw [hml]; rfl) (argsL := []) (rest := []) (lenOf pd_2 rfl) rfl rfl (Nat.le_of_eq rfl) (hb hby at_80) e30 (by decide) (by decide)
    obtain ⟨rfl, N31', hsz, O'⟩ := q31
    have N31 := Fr.app N30 N31'
    refine own_go st31 ?_
    show own_Go p e below _ T31 (mkF m 83 #[.val (.int f), .val (.long q), .second, .val (.ref a1), .unset, .unset, .unset, .unset, .unset, .unset, .unset, .unset] [])
    rw [show (own_bit f (0 : Int32)).toInt64 + (1 : Int64) = ((own_bit f (0 : Int32)) + (own_bit f (1 : Int32))).toInt64 from own_up1 (own_bit01 _ _) (own_bit01 _ _) hz] at O'
    exact own_t83 f q a1 X31 hx hZ hw hby hml hown hret hlk rfl (Nat.le_trans Z0 hsz) N31 g1 O'
set_option maxRecDepth 65536 in
set_option maxHeartbeats 40000000 in
theorem own_t57 {p : Program} {l : Launch} {e : Env} {s : State} {m : MethodId} {args : Array Value} {below : List Frame} {meth : Method} {c : Code} {T0 : State} {locs : List Loc} {Z : State} {a0 : Array Value} {h0 : Heap} {n0 : Nat} (f : Int32) (q : Int64) (a1 : Addr) (X0 : Stand p l e room_1 s m args below meth c T0 locs 1 6)
    (hx : p.tables.exec = Jvm.exec) (hZ : Z.Warmed39 s.vm) (hw : ∀ d ∈ tables_1, d.before a0 Z = true) (hby : c.code = code) (hml : c.maxLocals = 12) (hown : s.vm.findClass "com/example/seongsu/seongsu/core/ChunkCountsGetSkipsPinLaw" = some m.cls) (hret : meth.sig.returnType = some .boolean) (hlk : meth.locks = false) (e0 : T0.heap = h0) (Z0 : n0 ≤ h0.size) (N0 : Fr n0 locs) (g1 : n0 ≤ a1) (O : own_Ob Z h0 a1 ((own_bit f (0 : Int32)).toInt64) ((own_bit f (2 : Int32)).toInt64) ((own_bit f (4 : Int32)).toInt64)) :
    own_Go p e below (own_P (own_R (fun v _ L => v = some (.int 1) ∧ Fr n0 L)) room_1 s) T0 (mkF m 57 #[.val (.int f), .val (.long q), .second, .val (.ref a1), .unset, .unset, .unset, .unset, .unset, .unset, .unset, .unset] []) := by
  refine own_go (fun _ k => XS.iloadN X0.here hx rfl (hb hby at_57) rfl  k) ?_
  show own_Go p e below _ T0 (mkF m 58 #[.val (.int f), .val (.long q), .second, .val (.ref a1), .unset, .unset, .unset, .unset, .unset, .unset, .unset, .unset] [(.int f)])
  refine own_go (fun _ k => XS.bipush X0.here hx rfl (hb hby at_58) k) ?_
  show own_Go p e below _ T0 (mkF m 60 #[.val (.int f), .val (.long q), .second, .val (.ref a1), .unset, .unset, .unset, .unset, .unset, .unset, .unset, .unset] [(.int (8 : Int32)), (.int f)])
  obtain ⟨T32, v32, L32, X32, q32, st32⟩ := own_callS X0 hx hZ hown (y := (⟨"com/example/seongsu/seongsu/core/ChunkCountsGetSkipsPinLaw", "bit", "(II)I"⟩ : MethodName)) (hw _ (List.mem_of_getElem? (i := 9) rfl)) (hw _ (List.mem_of_getElem? (i := 10) rfl)) (hw _ (List.mem_of_getElem? (i := 11) rfl)) (hw _ (List.mem_of_getElem? (i := 12) rfl)) (by decide) (rmB l Z a0 hw [] f (8 : Int32) h0 n0 Z0) (Ls := #[.val (.int f), .val (.long q), .second, .val (.ref a1), .unset, .unset, .unset, .unset, .unset, .unset, .unset, .unset]) (st := [(.int (8 : Int32)), (.int f)]) (W := 0) (by decide) (by decide) (by rw [hml]; rfl) (argsL := [(.int f), (.int (8 : Int32))]) (rest := []) (lenOf pd_0 rfl) rfl rfl (Nat.le_of_eq rfl) (hb hby at_60) e0 (by decide) (by decide)
  obtain ⟨rfl, N32', e32⟩ := q32
  have N32 := Fr.app N0 N32'
  refine own_go st32 ?_
  show own_Go p e below _ T32 (mkF m 63 #[.val (.int f), .val (.long q), .second, .val (.ref a1), .unset, .unset, .unset, .unset, .unset, .unset, .unset, .unset] [(.int (own_bit f (8 : Int32)))])
  by_cases hz : (own_bit f (8 : Int32)) = (0 : Int32)
  · refine own_go (fun _ k => XS.ifYes X32.here hx rfl (pc0 := 63) (pc' := 71) rfl (hb hby at_63) rfl ((if0 _ _).trans (teq hz).1) (by decide) (by decide) k) ?_
    show own_Go p e below _ T32 (mkF m 71 #[.val (.int f), .val (.long q), .second, .val (.ref a1), .unset, .unset, .unset, .unset, .unset, .unset, .unset, .unset] [])
    have O2 := O
    exact own_t71 f q a1 X32 hx hZ hw hby hml hown hret hlk e32 Z0 N32 g1 O2
  · refine own_go (fun _ k => XS.ifNo X32.here hx rfl (hb hby at_63) rfl ((if0 _ _).trans (feq hz).1) k) ?_
    show own_Go p e below _ T32 (mkF m 66 #[.val (.int f), .val (.long q), .second, .val (.ref a1), .unset, .unset, .unset, .unset, .unset, .unset, .unset, .unset] [])
    refine own_go (fun _ k => XS.aloadN X32.here hx rfl (hb hby at_66) rfl rfl k) ?_
    show own_Go p e below _ T32 (mkF m 67 #[.val (.int f), .val (.long q), .second, .val (.ref a1), .unset, .unset, .unset, .unset, .unset, .unset, .unset, .unset] [(.ref a1)])
    refine own_go (fun _ k => XS.lloadN X32.here hx rfl (hb hby at_67) rfl  k) ?_
    show own_Go p e below _ T32 (mkF m 68 #[.val (.int f), .val (.long q), .second, .val (.ref a1), .unset, .unset, .unset, .unset, .unset, .unset, .unset, .unset] [(.long q), (.ref a1)])
    obtain ⟨T33, v33, L33, X33, q33, st33⟩ := own_callV X32 hx hZ hown (y := (⟨"com/example/seongsu/seongsu/core/ChunkCounts", "countWritten", "(J)V"⟩ : MethodName)) (hw _ (List.mem_of_getElem? (i := 46) rfl)) (hw _ (List.mem_of_getElem? (i := 47) rfl)) (hw _ (List.mem_of_getElem? (i := 49) rfl)) (hw _ (List.mem_of_getElem? (i := 48) rfl)) (hw _ (List.mem_of_getElem? (i := 2) rfl)) (hw _ (List.mem_of_getElem? (i := 50) rfl)) (by decide) (rmC4 l Z a0 hw [] a1 q _ _ _ h0 n0 Z0 O g1) (a := a1) O.1 (Ls := #[.val (.int f), .val (.long q), .second, .val (.ref a1), .unset, .unset, .unset, .unset, .unset, .unset, .unset, .unset]) (st := [(.long q), (.ref a1)]) (W := 0) (by decide) (by decide) (by rw [hml]; rfl) (argsL := [(.long q)]) (rest := []) (lenOf pd_3 rfl) rfl rfl (Nat.le_of_eq rfl) (hb hby at_68) e32 (by decide) (by decide)
    obtain ⟨rfl, N33', hsz, O'⟩ := q33
    have N33 := Fr.app N32 N33'
    refine own_go st33 ?_
    show own_Go p e below _ T33 (mkF m 71 #[.val (.int f), .val (.long q), .second, .val (.ref a1), .unset, .unset, .unset, .unset, .unset, .unset, .unset, .unset] [])
    exact own_t71 f q a1 X33 hx hZ hw hby hml hown hret hlk rfl (Nat.le_trans Z0 hsz) N33 g1 O'
set_option maxRecDepth 65536 in
set_option maxHeartbeats 40000000 in
theorem own_t45 {p : Program} {l : Launch} {e : Env} {s : State} {m : MethodId} {args : Array Value} {below : List Frame} {meth : Method} {c : Code} {T0 : State} {locs : List Loc} {Z : State} {a0 : Array Value} {h0 : Heap} {n0 : Nat} (f : Int32) (q : Int64) (a1 : Addr) (X0 : Stand p l e room_1 s m args below meth c T0 locs 1 6)
    (hx : p.tables.exec = Jvm.exec) (hZ : Z.Warmed39 s.vm) (hw : ∀ d ∈ tables_1, d.before a0 Z = true) (hby : c.code = code) (hml : c.maxLocals = 12) (hown : s.vm.findClass "com/example/seongsu/seongsu/core/ChunkCountsGetSkipsPinLaw" = some m.cls) (hret : meth.sig.returnType = some .boolean) (hlk : meth.locks = false) (e0 : T0.heap = h0) (Z0 : n0 ≤ h0.size) (N0 : Fr n0 locs) (g1 : n0 ≤ a1) (O : own_Ob Z h0 a1 ((own_bit f (0 : Int32)).toInt64) ((own_bit f (2 : Int32)).toInt64) ((0 : Int64))) :
    own_Go p e below (own_P (own_R (fun v _ L => v = some (.int 1) ∧ Fr n0 L)) room_1 s) T0 (mkF m 45 #[.val (.int f), .val (.long q), .second, .val (.ref a1), .unset, .unset, .unset, .unset, .unset, .unset, .unset, .unset] []) := by
  refine own_go (fun _ k => XS.iloadN X0.here hx rfl (hb hby at_45) rfl  k) ?_
  show own_Go p e below _ T0 (mkF m 46 #[.val (.int f), .val (.long q), .second, .val (.ref a1), .unset, .unset, .unset, .unset, .unset, .unset, .unset, .unset] [(.int f)])
  refine own_go (fun _ k => XS.iconst X0.here hx rfl (hb hby at_46) k) ?_
  show own_Go p e below _ T0 (mkF m 47 #[.val (.int f), .val (.long q), .second, .val (.ref a1), .unset, .unset, .unset, .unset, .unset, .unset, .unset, .unset] [(.int (4 : Int32)), (.int f)])
  obtain ⟨T34, v34, L34, X34, q34, st34⟩ := own_callS X0 hx hZ hown (y := (⟨"com/example/seongsu/seongsu/core/ChunkCountsGetSkipsPinLaw", "bit", "(II)I"⟩ : MethodName)) (hw _ (List.mem_of_getElem? (i := 9) rfl)) (hw _ (List.mem_of_getElem? (i := 10) rfl)) (hw _ (List.mem_of_getElem? (i := 11) rfl)) (hw _ (List.mem_of_getElem? (i := 12) rfl)) (by decide) (rmB l Z a0 hw [] f (4 : Int32) h0 n0 Z0) (Ls := #[.val (.int f), .val (.long q), .second, .val (.ref a1), .unset, .unset, .unset, .unset, .unset, .unset, .unset, .unset]) (st := [(.int (4 : Int32)), (.int f)]) (W := 0) (by decide) (by decide) (by rw [hml]; rfl) (argsL := [(.int f), (.int (4 : Int32))]) (rest := []) (lenOf pd_0 rfl) rfl rfl (Nat.le_of_eq rfl) (hb hby at_47) e0 (by decide) (by decide)
  obtain ⟨rfl, N34', e34⟩ := q34
  have N34 := Fr.app N0 N34'
  refine own_go st34 ?_
  show own_Go p e below _ T34 (mkF m 50 #[.val (.int f), .val (.long q), .second, .val (.ref a1), .unset, .unset, .unset, .unset, .unset, .unset, .unset, .unset] [(.int (own_bit f (4 : Int32)))])
  by_cases hz : (own_bit f (4 : Int32)) = (0 : Int32)
  · refine own_go (fun _ k => XS.ifYes X34.here hx rfl (pc0 := 50) (pc' := 57) rfl (hb hby at_50) rfl ((if0 _ _).trans (teq hz).1) (by decide) (by decide) k) ?_
    show own_Go p e below _ T34 (mkF m 57 #[.val (.int f), .val (.long q), .second, .val (.ref a1), .unset, .unset, .unset, .unset, .unset, .unset, .unset, .unset] [])
    have O2 : own_Ob Z h0 a1 ((own_bit f (0 : Int32)).toInt64) ((own_bit f (2 : Int32)).toInt64) ((own_bit f (4 : Int32)).toInt64) := by rw [show (own_bit f (4 : Int32)).toInt64 = (0 : Int64) from (own_st0 hz).symm]; exact O
    exact own_t57 f q a1 X34 hx hZ hw hby hml hown hret hlk e34 Z0 N34 g1 O2
  · refine own_go (fun _ k => XS.ifNo X34.here hx rfl (hb hby at_50) rfl ((if0 _ _).trans (feq hz).1) k) ?_
    show own_Go p e below _ T34 (mkF m 53 #[.val (.int f), .val (.long q), .second, .val (.ref a1), .unset, .unset, .unset, .unset, .unset, .unset, .unset, .unset] [])
    refine own_go (fun _ k => XS.aloadN X34.here hx rfl (hb hby at_53) rfl rfl k) ?_
    show own_Go p e below _ T34 (mkF m 54 #[.val (.int f), .val (.long q), .second, .val (.ref a1), .unset, .unset, .unset, .unset, .unset, .unset, .unset, .unset] [(.ref a1)])
    obtain ⟨T35, v35, L35, X35, q35, st35⟩ := own_callV X34 hx hZ hown (y := (⟨"com/example/seongsu/seongsu/core/ChunkCounts", "countWriteSkip", "()V"⟩ : MethodName)) (hw _ (List.mem_of_getElem? (i := 41) rfl)) (hw _ (List.mem_of_getElem? (i := 42) rfl)) (hw _ (List.mem_of_getElem? (i := 44) rfl)) (hw _ (List.mem_of_getElem? (i := 43) rfl)) (hw _ (List.mem_of_getElem? (i := 2) rfl)) (hw _ (List.mem_of_getElem? (i := 45) rfl)) (by decide) (rmC2 l Z a0 hw [] a1  _ _ _ h0 n0 Z0 O g1) (a := a1) O.1 (Ls := #[.val (.int f), .val (.long q), .second, .val (.ref a1), .unset, .unset, .unset, .unset, .unset, .unset, .unset, .unset]) (st := [(.ref a1)]) (W := 0) (by decide) (by decide) (by rw [hml]; rfl) (argsL := []) (rest := []) (lenOf pd_2 rfl) rfl rfl (Nat.le_of_eq rfl) (hb hby at_54) e34 (by decide) (by decide)
    obtain ⟨rfl, N35', hsz, O'⟩ := q35
    have N35 := Fr.app N34 N35'
    refine own_go st35 ?_
    show own_Go p e below _ T35 (mkF m 57 #[.val (.int f), .val (.long q), .second, .val (.ref a1), .unset, .unset, .unset, .unset, .unset, .unset, .unset, .unset] [])
    rw [show (0 : Int64) + (1 : Int64) = (own_bit f (4 : Int32)).toInt64 from own_up0 (own_bit01 _ _) hz] at O'
    exact own_t57 f q a1 X35 hx hZ hw hby hml hown hret hlk rfl (Nat.le_trans Z0 hsz) N35 g1 O'
set_option maxRecDepth 65536 in
set_option maxHeartbeats 40000000 in
theorem own_t33 {p : Program} {l : Launch} {e : Env} {s : State} {m : MethodId} {args : Array Value} {below : List Frame} {meth : Method} {c : Code} {T0 : State} {locs : List Loc} {Z : State} {a0 : Array Value} {h0 : Heap} {n0 : Nat} (f : Int32) (q : Int64) (a1 : Addr) (X0 : Stand p l e room_1 s m args below meth c T0 locs 1 6)
    (hx : p.tables.exec = Jvm.exec) (hZ : Z.Warmed39 s.vm) (hw : ∀ d ∈ tables_1, d.before a0 Z = true) (hby : c.code = code) (hml : c.maxLocals = 12) (hown : s.vm.findClass "com/example/seongsu/seongsu/core/ChunkCountsGetSkipsPinLaw" = some m.cls) (hret : meth.sig.returnType = some .boolean) (hlk : meth.locks = false) (e0 : T0.heap = h0) (Z0 : n0 ≤ h0.size) (N0 : Fr n0 locs) (g1 : n0 ≤ a1) (O : own_Ob Z h0 a1 ((own_bit f (0 : Int32)).toInt64) ((0 : Int64)) ((0 : Int64))) :
    own_Go p e below (own_P (own_R (fun v _ L => v = some (.int 1) ∧ Fr n0 L)) room_1 s) T0 (mkF m 33 #[.val (.int f), .val (.long q), .second, .val (.ref a1), .unset, .unset, .unset, .unset, .unset, .unset, .unset, .unset] []) := by
  refine own_go (fun _ k => XS.iloadN X0.here hx rfl (hb hby at_33) rfl  k) ?_
  show own_Go p e below _ T0 (mkF m 34 #[.val (.int f), .val (.long q), .second, .val (.ref a1), .unset, .unset, .unset, .unset, .unset, .unset, .unset, .unset] [(.int f)])
  refine own_go (fun _ k => XS.iconst X0.here hx rfl (hb hby at_34) k) ?_
  show own_Go p e below _ T0 (mkF m 35 #[.val (.int f), .val (.long q), .second, .val (.ref a1), .unset, .unset, .unset, .unset, .unset, .unset, .unset, .unset] [(.int (2 : Int32)), (.int f)])
  obtain ⟨T36, v36, L36, X36, q36, st36⟩ := own_callS X0 hx hZ hown (y := (⟨"com/example/seongsu/seongsu/core/ChunkCountsGetSkipsPinLaw", "bit", "(II)I"⟩ : MethodName)) (hw _ (List.mem_of_getElem? (i := 9) rfl)) (hw _ (List.mem_of_getElem? (i := 10) rfl)) (hw _ (List.mem_of_getElem? (i := 11) rfl)) (hw _ (List.mem_of_getElem? (i := 12) rfl)) (by decide) (rmB l Z a0 hw [] f (2 : Int32) h0 n0 Z0) (Ls := #[.val (.int f), .val (.long q), .second, .val (.ref a1), .unset, .unset, .unset, .unset, .unset, .unset, .unset, .unset]) (st := [(.int (2 : Int32)), (.int f)]) (W := 0) (by decide) (by decide) (by rw [hml]; rfl) (argsL := [(.int f), (.int (2 : Int32))]) (rest := []) (lenOf pd_0 rfl) rfl rfl (Nat.le_of_eq rfl) (hb hby at_35) e0 (by decide) (by decide)
  obtain ⟨rfl, N36', e36⟩ := q36
  have N36 := Fr.app N0 N36'
  refine own_go st36 ?_
  show own_Go p e below _ T36 (mkF m 38 #[.val (.int f), .val (.long q), .second, .val (.ref a1), .unset, .unset, .unset, .unset, .unset, .unset, .unset, .unset] [(.int (own_bit f (2 : Int32)))])
  by_cases hz : (own_bit f (2 : Int32)) = (0 : Int32)
  · refine own_go (fun _ k => XS.ifYes X36.here hx rfl (pc0 := 38) (pc' := 45) rfl (hb hby at_38) rfl ((if0 _ _).trans (teq hz).1) (by decide) (by decide) k) ?_
    show own_Go p e below _ T36 (mkF m 45 #[.val (.int f), .val (.long q), .second, .val (.ref a1), .unset, .unset, .unset, .unset, .unset, .unset, .unset, .unset] [])
    have O2 : own_Ob Z h0 a1 ((own_bit f (0 : Int32)).toInt64) ((own_bit f (2 : Int32)).toInt64) ((0 : Int64)) := by rw [show (own_bit f (2 : Int32)).toInt64 = (0 : Int64) from (own_st0 hz).symm]; exact O
    exact own_t45 f q a1 X36 hx hZ hw hby hml hown hret hlk e36 Z0 N36 g1 O2
  · refine own_go (fun _ k => XS.ifNo X36.here hx rfl (hb hby at_38) rfl ((if0 _ _).trans (feq hz).1) k) ?_
    show own_Go p e below _ T36 (mkF m 41 #[.val (.int f), .val (.long q), .second, .val (.ref a1), .unset, .unset, .unset, .unset, .unset, .unset, .unset, .unset] [])
    refine own_go (fun _ k => XS.aloadN X36.here hx rfl (hb hby at_41) rfl rfl k) ?_
    show own_Go p e below _ T36 (mkF m 42 #[.val (.int f), .val (.long q), .second, .val (.ref a1), .unset, .unset, .unset, .unset, .unset, .unset, .unset, .unset] [(.ref a1)])
    obtain ⟨T37, v37, L37, X37, q37, st37⟩ := own_callV X36 hx hZ hown (y := (⟨"com/example/seongsu/seongsu/core/ChunkCounts", "countProcessSkip", "()V"⟩ : MethodName)) (hw _ (List.mem_of_getElem? (i := 36) rfl)) (hw _ (List.mem_of_getElem? (i := 37) rfl)) (hw _ (List.mem_of_getElem? (i := 39) rfl)) (hw _ (List.mem_of_getElem? (i := 38) rfl)) (hw _ (List.mem_of_getElem? (i := 2) rfl)) (hw _ (List.mem_of_getElem? (i := 40) rfl)) (by decide) (rmC1 l Z a0 hw [] a1  _ _ _ h0 n0 Z0 O g1) (a := a1) O.1 (Ls := #[.val (.int f), .val (.long q), .second, .val (.ref a1), .unset, .unset, .unset, .unset, .unset, .unset, .unset, .unset]) (st := [(.ref a1)]) (W := 0) (by decide) (by decide) (by rw [hml]; rfl) (argsL := []) (rest := []) (lenOf pd_2 rfl) rfl rfl (Nat.le_of_eq rfl) (hb hby at_42) e36 (by decide) (by decide)
    obtain ⟨rfl, N37', hsz, O'⟩ := q37
    have N37 := Fr.app N36 N37'
    refine own_go st37 ?_
    show own_Go p e below _ T37 (mkF m 45 #[.val (.int f), .val (.long q), .second, .val (.ref a1), .unset, .unset, .unset, .unset, .unset, .unset, .unset, .unset] [])
    rw [show (0 : Int64) + (1 : Int64) = (own_bit f (2 : Int32)).toInt64 from own_up0 (own_bit01 _ _) hz] at O'
    exact own_t45 f q a1 X37 hx hZ hw hby hml hown hret hlk rfl (Nat.le_trans Z0 hsz) N37 g1 O'
set_option maxRecDepth 65536 in
set_option maxHeartbeats 40000000 in
theorem own_t20 {p : Program} {l : Launch} {e : Env} {s : State} {m : MethodId} {args : Array Value} {below : List Frame} {meth : Method} {c : Code} {T0 : State} {locs : List Loc} {Z : State} {a0 : Array Value} {h0 : Heap} {n0 : Nat} (f : Int32) (q : Int64) (a1 : Addr) (X0 : Stand p l e room_1 s m args below meth c T0 locs 1 6)
    (hx : p.tables.exec = Jvm.exec) (hZ : Z.Warmed39 s.vm) (hw : ∀ d ∈ tables_1, d.before a0 Z = true) (hby : c.code = code) (hml : c.maxLocals = 12) (hown : s.vm.findClass "com/example/seongsu/seongsu/core/ChunkCountsGetSkipsPinLaw" = some m.cls) (hret : meth.sig.returnType = some .boolean) (hlk : meth.locks = false) (e0 : T0.heap = h0) (Z0 : n0 ≤ h0.size) (N0 : Fr n0 locs) (g1 : n0 ≤ a1) (O : own_Ob Z h0 a1 ((own_bit f (0 : Int32)).toInt64) ((0 : Int64)) ((0 : Int64))) :
    own_Go p e below (own_P (own_R (fun v _ L => v = some (.int 1) ∧ Fr n0 L)) room_1 s) T0 (mkF m 20 #[.val (.int f), .val (.long q), .second, .val (.ref a1), .unset, .unset, .unset, .unset, .unset, .unset, .unset, .unset] []) := by
  refine own_go (fun _ k => XS.iloadN X0.here hx rfl (hb hby at_20) rfl  k) ?_
  show own_Go p e below _ T0 (mkF m 21 #[.val (.int f), .val (.long q), .second, .val (.ref a1), .unset, .unset, .unset, .unset, .unset, .unset, .unset, .unset] [(.int f)])
  refine own_go (fun _ k => XS.bipush X0.here hx rfl (hb hby at_21) k) ?_
  show own_Go p e below _ T0 (mkF m 23 #[.val (.int f), .val (.long q), .second, .val (.ref a1), .unset, .unset, .unset, .unset, .unset, .unset, .unset, .unset] [(.int (6 : Int32)), (.int f)])
  obtain ⟨T38, v38, L38, X38, q38, st38⟩ := own_callS X0 hx hZ hown (y := (⟨"com/example/seongsu/seongsu/core/ChunkCountsGetSkipsPinLaw", "bit", "(II)I"⟩ : MethodName)) (hw _ (List.mem_of_getElem? (i := 9) rfl)) (hw _ (List.mem_of_getElem? (i := 10) rfl)) (hw _ (List.mem_of_getElem? (i := 11) rfl)) (hw _ (List.mem_of_getElem? (i := 12) rfl)) (by decide) (rmB l Z a0 hw [] f (6 : Int32) h0 n0 Z0) (Ls := #[.val (.int f), .val (.long q), .second, .val (.ref a1), .unset, .unset, .unset, .unset, .unset, .unset, .unset, .unset]) (st := [(.int (6 : Int32)), (.int f)]) (W := 0) (by decide) (by decide) (by rw [hml]; rfl) (argsL := [(.int f), (.int (6 : Int32))]) (rest := []) (lenOf pd_0 rfl) rfl rfl (Nat.le_of_eq rfl) (hb hby at_23) e0 (by decide) (by decide)
  obtain ⟨rfl, N38', e38⟩ := q38
  have N38 := Fr.app N0 N38'
  refine own_go st38 ?_
  show own_Go p e below _ T38 (mkF m 26 #[.val (.int f), .val (.long q), .second, .val (.ref a1), .unset, .unset, .unset, .unset, .unset, .unset, .unset, .unset] [(.int (own_bit f (6 : Int32)))])
  by_cases hz : (own_bit f (6 : Int32)) = (0 : Int32)
  · refine own_go (fun _ k => XS.ifYes X38.here hx rfl (pc0 := 26) (pc' := 33) rfl (hb hby at_26) rfl ((if0 _ _).trans (teq hz).1) (by decide) (by decide) k) ?_
    show own_Go p e below _ T38 (mkF m 33 #[.val (.int f), .val (.long q), .second, .val (.ref a1), .unset, .unset, .unset, .unset, .unset, .unset, .unset, .unset] [])
    have O2 := O
    exact own_t33 f q a1 X38 hx hZ hw hby hml hown hret hlk e38 Z0 N38 g1 O2
  · refine own_go (fun _ k => XS.ifNo X38.here hx rfl (hb hby at_26) rfl ((if0 _ _).trans (feq hz).1) k) ?_
    show own_Go p e below _ T38 (mkF m 29 #[.val (.int f), .val (.long q), .second, .val (.ref a1), .unset, .unset, .unset, .unset, .unset, .unset, .unset, .unset] [])
    refine own_go (fun _ k => XS.aloadN X38.here hx rfl (hb hby at_29) rfl rfl k) ?_
    show own_Go p e below _ T38 (mkF m 30 #[.val (.int f), .val (.long q), .second, .val (.ref a1), .unset, .unset, .unset, .unset, .unset, .unset, .unset, .unset] [(.ref a1)])
    obtain ⟨T39, v39, L39, X39, q39, st39⟩ := own_callV X38 hx hZ hown (y := (⟨"com/example/seongsu/seongsu/core/ChunkCounts", "countRead", "()V"⟩ : MethodName)) (hw _ (List.mem_of_getElem? (i := 29) rfl)) (hw _ (List.mem_of_getElem? (i := 30) rfl)) (hw _ (List.mem_of_getElem? (i := 32) rfl)) (hw _ (List.mem_of_getElem? (i := 31) rfl)) (hw _ (List.mem_of_getElem? (i := 2) rfl)) (hw _ (List.mem_of_getElem? (i := 33) rfl)) (by decide) (rmC3 l Z a0 hw [] a1  _ _ _ h0 n0 Z0 O g1) (a := a1) O.1 (Ls := #[.val (.int f), .val (.long q), .second, .val (.ref a1), .unset, .unset, .unset, .unset, .unset, .unset, .unset, .unset]) (st := [(.ref a1)]) (W := 0) (by decide) (by decide) (by rw [hml]; rfl) (argsL := []) (rest := []) (lenOf pd_2 rfl) rfl rfl (Nat.le_of_eq rfl) (hb hby at_30) e38 (by decide) (by decide)
    obtain ⟨rfl, N39', hsz, O'⟩ := q39
    have N39 := Fr.app N38 N39'
    refine own_go st39 ?_
    show own_Go p e below _ T39 (mkF m 33 #[.val (.int f), .val (.long q), .second, .val (.ref a1), .unset, .unset, .unset, .unset, .unset, .unset, .unset, .unset] [])
    exact own_t33 f q a1 X39 hx hZ hw hby hml hown hret hlk rfl (Nat.le_trans Z0 hsz) N39 g1 O'
set_option maxRecDepth 65536 in
set_option maxHeartbeats 40000000 in
theorem own_t8 {p : Program} {l : Launch} {e : Env} {s : State} {m : MethodId} {args : Array Value} {below : List Frame} {meth : Method} {c : Code} {T0 : State} {locs : List Loc} {Z : State} {a0 : Array Value} {h0 : Heap} {n0 : Nat} (f : Int32) (q : Int64) (a1 : Addr) (X0 : Stand p l e room_1 s m args below meth c T0 locs 1 6)
    (hx : p.tables.exec = Jvm.exec) (hZ : Z.Warmed39 s.vm) (hw : ∀ d ∈ tables_1, d.before a0 Z = true) (hby : c.code = code) (hml : c.maxLocals = 12) (hown : s.vm.findClass "com/example/seongsu/seongsu/core/ChunkCountsGetSkipsPinLaw" = some m.cls) (hret : meth.sig.returnType = some .boolean) (hlk : meth.locks = false) (e0 : T0.heap = h0) (Z0 : n0 ≤ h0.size) (N0 : Fr n0 locs) (g1 : n0 ≤ a1) (O : own_Ob Z h0 a1 ((0 : Int64)) ((0 : Int64)) ((0 : Int64))) :
    own_Go p e below (own_P (own_R (fun v _ L => v = some (.int 1) ∧ Fr n0 L)) room_1 s) T0 (mkF m 8 #[.val (.int f), .val (.long q), .second, .val (.ref a1), .unset, .unset, .unset, .unset, .unset, .unset, .unset, .unset] []) := by
  refine own_go (fun _ k => XS.iloadN X0.here hx rfl (hb hby at_8) rfl  k) ?_
  show own_Go p e below _ T0 (mkF m 9 #[.val (.int f), .val (.long q), .second, .val (.ref a1), .unset, .unset, .unset, .unset, .unset, .unset, .unset, .unset] [(.int f)])
  refine own_go (fun _ k => XS.iconst X0.here hx rfl (hb hby at_9) k) ?_
  show own_Go p e below _ T0 (mkF m 10 #[.val (.int f), .val (.long q), .second, .val (.ref a1), .unset, .unset, .unset, .unset, .unset, .unset, .unset, .unset] [(.int (0 : Int32)), (.int f)])
  obtain ⟨T40, v40, L40, X40, q40, st40⟩ := own_callS X0 hx hZ hown (y := (⟨"com/example/seongsu/seongsu/core/ChunkCountsGetSkipsPinLaw", "bit", "(II)I"⟩ : MethodName)) (hw _ (List.mem_of_getElem? (i := 9) rfl)) (hw _ (List.mem_of_getElem? (i := 10) rfl)) (hw _ (List.mem_of_getElem? (i := 11) rfl)) (hw _ (List.mem_of_getElem? (i := 12) rfl)) (by decide) (rmB l Z a0 hw [] f (0 : Int32) h0 n0 Z0) (Ls := #[.val (.int f), .val (.long q), .second, .val (.ref a1), .unset, .unset, .unset, .unset, .unset, .unset, .unset, .unset]) (st := [(.int (0 : Int32)), (.int f)]) (W := 0) (by decide) (by decide) (by rw [hml]; rfl) (argsL := [(.int f), (.int (0 : Int32))]) (rest := []) (lenOf pd_0 rfl) rfl rfl (Nat.le_of_eq rfl) (hb hby at_10) e0 (by decide) (by decide)
  obtain ⟨rfl, N40', e40⟩ := q40
  have N40 := Fr.app N0 N40'
  refine own_go st40 ?_
  show own_Go p e below _ T40 (mkF m 13 #[.val (.int f), .val (.long q), .second, .val (.ref a1), .unset, .unset, .unset, .unset, .unset, .unset, .unset, .unset] [(.int (own_bit f (0 : Int32)))])
  by_cases hz : (own_bit f (0 : Int32)) = (0 : Int32)
  · refine own_go (fun _ k => XS.ifYes X40.here hx rfl (pc0 := 13) (pc' := 20) rfl (hb hby at_13) rfl ((if0 _ _).trans (teq hz).1) (by decide) (by decide) k) ?_
    show own_Go p e below _ T40 (mkF m 20 #[.val (.int f), .val (.long q), .second, .val (.ref a1), .unset, .unset, .unset, .unset, .unset, .unset, .unset, .unset] [])
    have O2 : own_Ob Z h0 a1 ((own_bit f (0 : Int32)).toInt64) ((0 : Int64)) ((0 : Int64)) := by rw [show (own_bit f (0 : Int32)).toInt64 = (0 : Int64) from (own_st0 hz).symm]; exact O
    exact own_t20 f q a1 X40 hx hZ hw hby hml hown hret hlk e40 Z0 N40 g1 O2
  · refine own_go (fun _ k => XS.ifNo X40.here hx rfl (hb hby at_13) rfl ((if0 _ _).trans (feq hz).1) k) ?_
    show own_Go p e below _ T40 (mkF m 16 #[.val (.int f), .val (.long q), .second, .val (.ref a1), .unset, .unset, .unset, .unset, .unset, .unset, .unset, .unset] [])
    refine own_go (fun _ k => XS.aloadN X40.here hx rfl (hb hby at_16) rfl rfl k) ?_
    show own_Go p e below _ T40 (mkF m 17 #[.val (.int f), .val (.long q), .second, .val (.ref a1), .unset, .unset, .unset, .unset, .unset, .unset, .unset, .unset] [(.ref a1)])
    obtain ⟨T41, v41, L41, X41, q41, st41⟩ := own_callV X40 hx hZ hown (y := (⟨"com/example/seongsu/seongsu/core/ChunkCounts", "countReadSkip", "()V"⟩ : MethodName)) (hw _ (List.mem_of_getElem? (i := 24) rfl)) (hw _ (List.mem_of_getElem? (i := 25) rfl)) (hw _ (List.mem_of_getElem? (i := 27) rfl)) (hw _ (List.mem_of_getElem? (i := 26) rfl)) (hw _ (List.mem_of_getElem? (i := 2) rfl)) (hw _ (List.mem_of_getElem? (i := 28) rfl)) (by decide) (rmC0 l Z a0 hw [] a1  _ _ _ h0 n0 Z0 O g1) (a := a1) O.1 (Ls := #[.val (.int f), .val (.long q), .second, .val (.ref a1), .unset, .unset, .unset, .unset, .unset, .unset, .unset, .unset]) (st := [(.ref a1)]) (W := 0) (by decide) (by decide) (by rw [hml]; rfl) (argsL := []) (rest := []) (lenOf pd_2 rfl) rfl rfl (Nat.le_of_eq rfl) (hb hby at_17) e40 (by decide) (by decide)
    obtain ⟨rfl, N41', hsz, O'⟩ := q41
    have N41 := Fr.app N40 N41'
    refine own_go st41 ?_
    show own_Go p e below _ T41 (mkF m 20 #[.val (.int f), .val (.long q), .second, .val (.ref a1), .unset, .unset, .unset, .unset, .unset, .unset, .unset, .unset] [])
    rw [show (0 : Int64) + (1 : Int64) = (own_bit f (0 : Int32)).toInt64 from own_up0 (own_bit01 _ _) hz] at O'
    exact own_t20 f q a1 X41 hx hZ hw hby hml hown hret hlk rfl (Nat.le_trans Z0 hsz) N41 g1 O'
theorem ef_0 (m : MethodId) (x0 : Int32) (x1 : Int64) : entryFrame m #[(.int x0), (.long x1)] maxLocals = mkF m 0 #[.val (.int x0), .val (.long x1), .second, .unset, .unset, .unset, .unset, .unset, .unset, .unset, .unset, .unset] [] := by first | (simp [entryFrame, mkF, argsToLocals, Value.category, maxLocals]; done) | rfl
set_option maxRecDepth 65536 in
set_option maxHeartbeats 40000000 in
theorem rm0 (l : Launch) (Z : State) (a0 : Array Value) (hw : ∀ d ∈ tables_1, d.before a0 Z = true) (ws : List Jvm.Cond) (f : Int32) (q : Int64) (h0 : Heap) (n0 : Nat) (Z0 : n0 ≤ h0.size)  :
    MetFree l x (head1 (Jvm.Cond.code x code maxLocals ret :: ws) room_1) (fun a U => a = #[(.int f), (.long q)] ∧ Z.Warmed39 U.vm ∧ U.heap = h0) (fun _ _ _ _ _ => True) (fun _ U o U' => ∃ v L, o = .returned v ∧ (own_R (fun v _ L => v = some (.int 1) ∧ Fr n0 L)) v U'.heap L ∧ FrameEnd U o U' L room_1.cells room_1.slots) := by
  refine MetFree.of_bodySF (plainFor_of_name pn_1) hisR ?_
  intro p e s m args below meth c s₁ Bd hml0 hP hK
  obtain ⟨rfl, hZ, hh⟩ := hP
  have hx := Bd.exec
  have hby := Bd.bytes
  have hml : c.maxLocals = 12 := hml0
  have hown : s.vm.findClass "com/example/seongsu/seongsu/core/ChunkCountsGetSkipsPinLaw" = some m.cls := findClass_of_methodNamed Bd.named
  have hnm := (name_of_methodNamed Bd.named Bd.method).1
  have hret := Bd.returns
  have hlk : meth.locks = false := Bd.notSynchronized
  have X0 : Stand p l e room_1 s m #[(.int f), (.long q)] below meth c s₁ [] 0 0 := Stand.of_body Bd
  have e0 : s₁.heap = h0 := by rw [← hh, Bd.state]; rfl
  have N0 := Fr.nil n0
  show own_Go p e below (own_P (own_R (fun v _ L => v = some (.int 1) ∧ Fr n0 L)) room_1 s) s₁ (entryFrame m #[(.int f), (.long q)] maxLocals)
  rw [ef_0 m f q]
  show own_Go p e below _ s₁ (mkF m 0 #[.val (.int f), .val (.long q), .second, .unset, .unset, .unset, .unset, .unset, .unset, .unset, .unset, .unset] [])
  obtain ⟨T42, h42, X42, e42, E42, A42, D42, -, st42⟩ := newO X0 hx hZ hown (hw _ (List.mem_of_getElem? (i := 0) rfl)) (hw _ (List.mem_of_getElem? (i := 1) rfl)) (hw _ (List.mem_of_getElem? (i := 2) rfl)) e0 (g := (mkF m 0 #[.val (.int f), .val (.long q), .second, .unset, .unset, .unset, .unset, .unset, .unset, .unset, .unset, .unset] [])) rfl (hb hby at_0) (by decide) (by decide)
  obtain ⟨b42, g42⟩ : ∃ z, z = h0.size := ⟨_, rfl⟩
  rw [← g42] at A42 D42 st42
  refine own_go st42 ?_
  show own_Go p e below _ T42 (mkF m 3 #[.val (.int f), .val (.long q), .second, .unset, .unset, .unset, .unset, .unset, .unset, .unset, .unset, .unset] [(.ref b42)])
  have g_b : n0 ≤ b42 := Nat.le_trans Z0 (Nat.le_of_eq g42.symm)
  have F0 : Fld Z h42 b42 "com/example/seongsu/seongsu/core/ChunkCounts" "readSkips" "J" (.long 0) := D42 (Or.inl (hw _ (List.mem_of_getElem? (i := 19) rfl))) (ty := .long) (by decide)
  have F1 : Fld Z h42 b42 "com/example/seongsu/seongsu/core/ChunkCounts" "processSkips" "J" (.long 0) := D42 (Or.inl (hw _ (List.mem_of_getElem? (i := 21) rfl))) (ty := .long) (by decide)
  have F2 : Fld Z h42 b42 "com/example/seongsu/seongsu/core/ChunkCounts" "writeSkips" "J" (.long 0) := D42 (Or.inl (hw _ (List.mem_of_getElem? (i := 23) rfl))) (ty := .long) (by decide)
  have F3 : Fld Z h42 b42 "com/example/seongsu/seongsu/core/ChunkCounts" "read" "J" (.long 0) := D42 (Or.inl (hw _ (List.mem_of_getElem? (i := 35) rfl))) (ty := .long) (by decide)
  have F4 : Fld Z h42 b42 "com/example/seongsu/seongsu/core/ChunkCounts" "written" "J" (.long 0) := D42 (Or.inl (hw _ (List.mem_of_getElem? (i := 52) rfl))) (ty := .long) (by decide)
  have F5 : Fld Z h42 b42 "com/example/seongsu/seongsu/core/ChunkCounts" "filtered" "J" (.long 0) := D42 (Or.inl (hw _ (List.mem_of_getElem? (i := 59) rfl))) (ty := .long) (by decide)
  have O : own_Ob Z h42 b42 0 0 0 := ⟨A42, F0, F1, F2, 0, 0, 0, F3, F4, F5⟩
  refine own_go (fun _ k => XS.dup X42.here hx rfl (hb hby at_3) rfl rfl k) ?_
  show own_Go p e below _ T42 (mkF m 4 #[.val (.int f), .val (.long q), .second, .unset, .unset, .unset, .unset, .unset, .unset, .unset, .unset, .unset] [(.ref b42), (.ref b42)])
  obtain ⟨T43, v43, L43, X43, q43, st43⟩ := own_callC X42 hx hZ (y := (⟨"com/example/seongsu/seongsu/core/ChunkCounts", "<init>", "()V"⟩ : MethodName)) rfl hown (hw _ (List.mem_of_getElem? (i := 3) rfl)) (hw _ (List.mem_of_getElem? (i := 4) rfl)) (hw _ (List.mem_of_getElem? (i := 2) rfl)) (hw _ (List.mem_of_getElem? (i := 5) rfl)) (by decide) (rmI l Z a0 hw [] b42 h42 n0 (Nat.le_trans Z0 E42.1)) (Ls := #[.val (.int f), .val (.long q), .second, .unset, .unset, .unset, .unset, .unset, .unset, .unset, .unset, .unset]) (st := [(.ref b42), (.ref b42)]) (a := b42) (W := 1) (by decide) (by decide) (by rw [hml]; rfl) (argsL := []) (rest := [(.ref b42)]) (lenOf pd_2 rfl) rfl rfl (Nat.le_of_eq rfl) (hb hby at_4) e42 (by decide) (by decide)
  obtain ⟨rfl, N43', e43⟩ := q43
  have N43 := Fr.app N0 N43'
  refine own_go st43 ?_
  show own_Go p e below _ T43 (mkF m 7 #[.val (.int f), .val (.long q), .second, .unset, .unset, .unset, .unset, .unset, .unset, .unset, .unset, .unset] [(.ref b42)])
  refine own_go (fun _ k => XS.astoreN X43.here hx rfl (hb hby at_7) rfl rfl (l' := #[.val (.int f), .val (.long q), .second, .val (.ref b42), .unset, .unset, .unset, .unset, .unset, .unset, .unset, .unset]) rfl k) ?_
  show own_Go p e below _ T43 (mkF m 8 #[.val (.int f), .val (.long q), .second, .val (.ref b42), .unset, .unset, .unset, .unset, .unset, .unset, .unset, .unset] [])
  exact own_t8 f q b42 X43 hx hZ hw hby hml hown hret hlk e43 (Nat.le_trans Z0 E42.1) N43 g_b O
set_option maxRecDepth 65536 in
set_option maxHeartbeats 40000000 in
theorem comes_1 {Post : Tables → Env → Array Value → State → Outcome → State → Prop} (hpost : ∀ tb e args s v u, (limb_1_1.after args s (.returned v) u = true ∧ limb_1_2.after args s (.returned v) u = true ∧ True) → FrameEnd s (.returned v) u (Jvm.fieldLocs frame_1_writes args s ++ Jvm.arrayLocs frame_1_arrays args s ++ Jvm.staticLocs frame_1_statics s) 16 128 → Post tb e args s (.returned v) u) :
    ArmFor flags0 classFile x code maxLocals ret World_1 tables_1 room_1 Calls_1 rest_1 Pre_1 Post := by
  intro l hfl _ _ p e ha hc hk s m args below hf hA hF happ hP
  obtain ⟨hcalls, hrest, hpre⟩ := hP
  obtain ⟨-, -, -, hnamed, -, -, -, hat⟩ := (Spec.applies_iff hf).mp happ
  obtain ⟨hg, hn⟩ := and_e (Cond.before_iff.mp (show (Jvm.Cond.and given_1 narrow_1).before args s = true from hpre))
  obtain ⟨k0, g0⟩ := and_e hg
  obtain ⟨k1, g1⟩ := and_e g0
  obtain ⟨w0, w1, rfl⟩ : ∃ w0 w1 : Value, args = #[w0, w1] := by
    have hs : args.size = 2 := by simpa [Cond.value, given_1] using k0
    obtain ⟨L⟩ := args
    match L, hs with
    | [w0, w1], _ => exact ⟨w0, w1, rfl⟩
  have hw := fun d (hd : d ∈ tables_1) => atoms_spec (ws := Jvm.Cond.code x code maxLocals ret :: tables_1) hat d (List.mem_cons_of_mem _ hd)
  obtain ⟨i0, ei0⟩ := is_v k1
  obtain rfl : w0 = (.int i0) := Option.some.inj ei0
  obtain ⟨i1, ei1⟩ := isL_v g1
  obtain rfl : w1 = (.long i1) := Option.some.inj ei1
  obtain ⟨n, o, h1, h2, h3, _, L, rfl, ⟨rfl, N⟩, hq⟩ := rm0 l s _ hw tables_1 i0 i1 s.heap s.heap.size (Nat.le_refl _) p e ha hc hk s m _ below hf ((Spec.applies_iff_loose hf).mp happ).1 ⟨rfl, State.Warmed39.refl s, rfl⟩ trivial
  refine ⟨n, _, h1, h2, h3, hpost _ _ _ _ _ _ ⟨Cond.after_iff.mpr rfl, Cond.after_iff.mpr (eq_i res_at (Term.int_eval (1)) rfl), trivial⟩ ⟨hq.1, hq.2.1, (hq.2.2.sift fun y hy => Or.inr (N y hy)).mono (by decide) (by decide)⟩⟩
theorem main_1_1 : Claimed_1_1 := comes_1 fun _ _ _ _ _ _ h hF => ⟨h.1, hF⟩
theorem main_1_2 : Claimed_1_2 := comes_1 fun _ _ _ _ _ _ h hF => ⟨h.2.1, hF⟩
end Jvm.Pilot.@@N@@
namespace Jvm.Pilot.@@N@@
open Jvm Jvm.ClassFile Sem Op Lib Jvm.Free Jvm.Stand Jvm.Pilot.@@N@@.Jvm.D
/-! MADE BY PROGRAM (witnessworld.py) out of the Statement's table words and the real class files: 9 classes; the members and pool entries that the words name. The judged class is class 1, her method 2. -/
namespace start1
open Jvm.ClassFile
def u (s : String) : CpInfo := .utf8 (stringToUtf16 s)
/-- a pool by its gaps: so many unusable entries, then the entry; so many at the end -/
def gap : Nat → List CpInfo → List CpInfo
  | 0, r => r
  | n + 1, r => .unusable :: gap n r
def poolList (es : List (Nat × CpInfo)) (last : Nat) : List CpInfo := es.foldr (fun e r => gap e.1 (e.2 :: r)) (gap last [])
def pool (es : List (Nat × CpInfo)) (last : Nat) : Array CpInfo := ⟨poolList es last⟩
def fileOf (pool : Array CpInfo) (this : Nat) (attrs : Array Attribute := #[]) (ms : Array MethodInfo := #[]) (fl : Nat := 33) (sup : Nat := 0) (ifs : Array Nat := #[]) (fds : Array FieldInfo := #[]) : ClassFile where
  minorVersion := 0
  majorVersion := 65
  constantPool := pool
  accessFlags := fl
  thisClass := this
  superClass := sup
  interfaces := ifs
  fields := fds
  methods := ms
  attributes := attrs
def plain (name : String) (sup : Option ClassId) : Class where
  name := name
  kind := .ordinary
  loader := none
  accessFlags := 33
  super := sup
  interfaces := #[]
  cf := none
  fields := #[]
  methods := #[]
  instanceTypes := #[]
  staticTypes := #[]
  resolved := #[]
  callSites := []
  init := .initialized
  statics := none
  mirror := none

def pool0 : Array CpInfo := pool [(5, u "<init>"), (0, u "()V"), (1, .class_ 10), (1, u "java/lang/Object")] 113

def k0c0 : Code := { maxStack := 0, maxLocals := 1, code := object_method_1_code, exceptionTable := #[], attributes := #[] }
def k0m0 : Method := { name := "<init>", desc := "()V", sig := { parameters := [], returnType := none }, accessFlags := 1, code := some k0c0 }
/-- java/lang/Object -/
def k0 : Class := { plain "java/lang/Object" none with
  accessFlags := 33
  interfaces := #[]
  cf := some (fileOf pool0 8 #[] #[{ accessFlags := 1, nameIndex := 5, descriptorIndex := 6, attributes := #[] }] 33 0 #[] #[])
  fields := #[]
  methods := #[k0m0]
  instanceTypes := #[]
  staticTypes := #[]
  resolved := Array.replicate 124 none
  statics := none }

def pool1 : Array CpInfo := pool [(2, .class_ 4), (0, .nameAndType 5 6), (0, u "java/lang/Object"), (0, u "<init>"), (0, u "()V"), (0, .class_ 8), (0, u "com/example/seongsu/seongsu/core/ChunkCounts"), (0, .methodref 7 3), (0, .methodref 11 12), (0, .class_ 13), (0, .nameAndType 14 15), (0, u "com/example/seongsu/seongsu/core/ChunkCountsGetSkipsPinLaw"), (0, u "bit"), (0, u "(II)I"), (0, .methodref 7 17), (0, .nameAndType 18 6), (0, u "countReadSkip"), (0, .methodref 7 20), (0, .nameAndType 21 6), (0, u "countRead"), (0, .methodref 7 23), (0, .nameAndType 24 6), (0, u "countProcessSkip"), (0, .methodref 7 26), (0, .nameAndType 27 6), (0, u "countWriteSkip"), (0, .methodref 7 29), (0, .nameAndType 30 31), (0, u "countWritten"), (0, u "(J)V"), (0, .methodref 7 33), (0, .nameAndType 34 6), (0, u "countFiltered"), (0, .methodref 7 36), (0, .nameAndType 37 38), (0, u "getSkips"), (0, u "()J"), (2, u "law"), (0, u "(IJ)Z")] 3

def k1m0 : Method := { name := "<init>", desc := "()V", sig := { parameters := [], returnType := none }, accessFlags := 1, code := none }
def k1c1 : Code := { maxStack := 2, maxLocals := 2, code := method_2_code, exceptionTable := #[], attributes := #[] }
def k1m1 : Method := { name := "bit", desc := "(II)I", sig := { parameters := [.int, .int], returnType := some .int }, accessFlags := 10, code := some k1c1 }
def k1c2 : Code := { maxStack := 4, maxLocals := 12, code := code, exceptionTable := #[], attributes := #[] }
def k1m2 : Method := { name := "law", desc := "(IJ)Z", sig := { parameters := [.int, .long], returnType := some .boolean }, accessFlags := 9, code := some k1c2 }
/-- com/example/seongsu/seongsu/core/ChunkCountsGetSkipsPinLaw -/
def k1 : Class := { plain "com/example/seongsu/seongsu/core/ChunkCountsGetSkipsPinLaw" (some 0) with
  accessFlags := 49
  interfaces := #[]
  cf := some (fileOf pool1 11 #[] #[{ accessFlags := 1, nameIndex := 5, descriptorIndex := 6, attributes := #[] }, { accessFlags := 10, nameIndex := 14, descriptorIndex := 15, attributes := #[] }, { accessFlags := 9, nameIndex := 41, descriptorIndex := 42, attributes := #[] }] 49 2 #[] #[])
  fields := #[]
  methods := #[k1m0, k1m1, k1m2]
  instanceTypes := #[]
  staticTypes := #[]
  resolved := Array.replicate 46 none
  statics := none }

def pool2 : Array CpInfo := pool [(1, .methodref 2 3), (0, .class_ 4), (0, .nameAndType 5 6), (0, u "java/lang/Object"), (0, u "<init>"), (0, u "()V"), (0, .fieldref 8 9), (0, .class_ 10), (0, .nameAndType 11 12), (0, u "com/example/seongsu/seongsu/core/ChunkCounts"), (0, u "read"), (0, u "J"), (0, .fieldref 8 14), (0, .nameAndType 15 12), (0, u "filtered"), (0, .fieldref 8 17), (0, .nameAndType 18 12), (0, u "written"), (0, .fieldref 8 20), (0, .nameAndType 21 12), (0, u "readSkips"), (0, .fieldref 8 23), (0, .nameAndType 24 12), (0, u "processSkips"), (0, .fieldref 8 26), (0, .nameAndType 27 12), (0, u "writeSkips"), (2, u "countRead"), (0, u "countFiltered"), (0, u "countWritten"), (0, u "(J)V"), (0, u "countReadSkip"), (0, u "countProcessSkip"), (0, u "countWriteSkip"), (1, u "()J"), (5, u "getSkips")] 2

def k2c0 : Code := { maxStack := 1, maxLocals := 1, code := prog_12_method_1_code, exceptionTable := #[], attributes := #[] }
def k2m0 : Method := { name := "<init>", desc := "()V", sig := { parameters := [], returnType := none }, accessFlags := 0, code := some k2c0 }
def k2c1 : Code := { maxStack := 5, maxLocals := 1, code := prog_12_method_2_code, exceptionTable := #[], attributes := #[] }
def k2m1 : Method := { name := "countRead", desc := "()V", sig := { parameters := [], returnType := none }, accessFlags := 0, code := some k2c1 }
def k2c2 : Code := { maxStack := 5, maxLocals := 1, code := prog_12_method_3_code, exceptionTable := #[], attributes := #[] }
def k2m2 : Method := { name := "countFiltered", desc := "()V", sig := { parameters := [], returnType := none }, accessFlags := 0, code := some k2c2 }
def k2c3 : Code := { maxStack := 5, maxLocals := 3, code := prog_12_method_4_code, exceptionTable := #[], attributes := #[] }
def k2m3 : Method := { name := "countWritten", desc := "(J)V", sig := { parameters := [.long], returnType := none }, accessFlags := 0, code := some k2c3 }
def k2c4 : Code := { maxStack := 5, maxLocals := 1, code := prog_12_method_5_code, exceptionTable := #[], attributes := #[] }
def k2m4 : Method := { name := "countReadSkip", desc := "()V", sig := { parameters := [], returnType := none }, accessFlags := 0, code := some k2c4 }
def k2c5 : Code := { maxStack := 5, maxLocals := 1, code := prog_12_method_6_code, exceptionTable := #[], attributes := #[] }
def k2m5 : Method := { name := "countProcessSkip", desc := "()V", sig := { parameters := [], returnType := none }, accessFlags := 0, code := some k2c5 }
def k2c6 : Code := { maxStack := 5, maxLocals := 1, code := prog_12_method_7_code, exceptionTable := #[], attributes := #[] }
def k2m6 : Method := { name := "countWriteSkip", desc := "()V", sig := { parameters := [], returnType := none }, accessFlags := 0, code := some k2c6 }
def k2c7 : Code := { maxStack := 4, maxLocals := 1, code := prog_12_method_14_code, exceptionTable := #[], attributes := #[] }
def k2m7 : Method := { name := "getSkips", desc := "()J", sig := { parameters := [], returnType := some .long }, accessFlags := 0, code := some k2c7 }
/-- com/example/seongsu/seongsu/core/ChunkCounts -/
def k2 : Class := { plain "com/example/seongsu/seongsu/core/ChunkCounts" (some 0) with
  accessFlags := 32
  interfaces := #[]
  cf := some (fileOf pool2 8 #[] #[{ accessFlags := 0, nameIndex := 5, descriptorIndex := 6, attributes := #[] }, { accessFlags := 0, nameIndex := 30, descriptorIndex := 6, attributes := #[] }, { accessFlags := 0, nameIndex := 31, descriptorIndex := 6, attributes := #[] }, { accessFlags := 0, nameIndex := 32, descriptorIndex := 33, attributes := #[] }, { accessFlags := 0, nameIndex := 34, descriptorIndex := 6, attributes := #[] }, { accessFlags := 0, nameIndex := 35, descriptorIndex := 6, attributes := #[] }, { accessFlags := 0, nameIndex := 36, descriptorIndex := 6, attributes := #[] }, { accessFlags := 0, nameIndex := 44, descriptorIndex := 38, attributes := #[] }] 32 2 #[] #[{ accessFlags := 2, nameIndex := 11, descriptorIndex := 12, attributes := #[] }, { accessFlags := 2, nameIndex := 15, descriptorIndex := 12, attributes := #[] }, { accessFlags := 2, nameIndex := 18, descriptorIndex := 12, attributes := #[] }, { accessFlags := 2, nameIndex := 21, descriptorIndex := 12, attributes := #[] }, { accessFlags := 2, nameIndex := 24, descriptorIndex := 12, attributes := #[] }, { accessFlags := 2, nameIndex := 27, descriptorIndex := 12, attributes := #[] }])
  fields := #[{ name := "read", type := .long, accessFlags := 2, slot := 0, constantValue := 0 }, { name := "filtered", type := .long, accessFlags := 2, slot := 1, constantValue := 0 }, { name := "written", type := .long, accessFlags := 2, slot := 2, constantValue := 0 }, { name := "readSkips", type := .long, accessFlags := 2, slot := 3, constantValue := 0 }, { name := "processSkips", type := .long, accessFlags := 2, slot := 4, constantValue := 0 }, { name := "writeSkips", type := .long, accessFlags := 2, slot := 5, constantValue := 0 }]
  methods := #[k2m0, k2m1, k2m2, k2m3, k2m4, k2m5, k2m6, k2m7]
  instanceTypes := #[.long, .long, .long, .long, .long, .long]
  staticTypes := #[]
  resolved := Array.replicate 47 none
  statics := none }

def pool3 : Array CpInfo := pool [(1, u "java/lang/Cloneable"), (0, .class_ 1), (0, u "java/lang/Object"), (0, .class_ 3)] 3

/-- java/lang/Cloneable -/
def k3 : Class := { plain "java/lang/Cloneable" (some 0) with
  accessFlags := 1537
  interfaces := #[]
  cf := some (fileOf pool3 2 #[] #[] 1537 4 #[] #[])
  fields := #[]
  methods := #[]
  instanceTypes := #[]
  staticTypes := #[]
  resolved := Array.replicate 8 none
  statics := none }

def pool4 : Array CpInfo := pool [(1, u "java/io/Serializable"), (0, .class_ 1), (0, u "java/lang/Object"), (0, .class_ 3)] 3

/-- java/io/Serializable -/
def k4 : Class := { plain "java/io/Serializable" (some 0) with
  accessFlags := 1537
  interfaces := #[]
  cf := some (fileOf pool4 2 #[] #[] 1537 4 #[] #[])
  fields := #[]
  methods := #[]
  instanceTypes := #[]
  staticTypes := #[]
  resolved := Array.replicate 8 none
  statics := none }

/-- the primitive byte -/
def k5 : Class := { plain "byte" none with kind := .primitive 'B', accessFlags := 0x411 }
/-- [B -/
def k6 : Class := { plain "[B" (some 0) with kind := .array 5 .byte, interfaces := #[3, 4], accessFlags := 1041 }

/-- the primitive int -/
def k7 : Class := { plain "int" none with kind := .primitive 'I', accessFlags := 0x411 }
/-- [I -/
def k8 : Class := { plain "[I" (some 0) with kind := .array 7 .int, interfaces := #[3, 4], accessFlags := 1041 }

def heap : Heap := #[]
def classes : Array Class := #[k0, k1, k2, k3, k4, k5, k6, k7, k8]
def interned : List (Array UInt16 × Addr) := []
def slotsUsed : Nat := 0
def theMethod : MethodId := ⟨1, 2⟩
def args0 : Array Value := #[.int 5, .long 3]
def aboutOver (below : List Frame) : State where
  vm := { classes := classes, interned := interned.toArray }
  heap := heap
  slotsUsed := slotsUsed
  threads := #[{ frames := .invoking theMethod args0 :: below }]
def below0 : List Frame := [.native { method := ⟨0, 0⟩, args := #[] }]
def about1 : State := aboutOver below0
def p0 : Program := .bare "" "" ""
def e0 : Env := launch0.env 0 0 0
theorem w_frames : about1.frames = Frame.invoking theMethod args0 :: below0 := rfl
set_option maxRecDepth 65536 in
theorem w_args : argsFit about1.vm theMethod args0 = true := by decide +kernel
set_option maxRecDepth 65536 in
theorem w_heap : heapFits about1 = true := by decide +kernel
set_option maxRecDepth 65536 in
theorem w_runnable : about1.curStatus? = some .runnable := by decide +kernel
set_option maxRecDepth 65536 in
theorem w_alone : about1.alone = true := by decide +kernel
set_option maxRecDepth 65536 in
theorem w_named : about1.methodNamed? x = some theMethod := by decide +kernel
set_option maxRecDepth 65536 in
theorem w_hears : about1.hears theMethod below0 = true := by decide +kernel
set_option maxRecDepth 65536 in
theorem w_ripe : about1.ripe theMethod args0 below0 = true := by decide +kernel
theorem w_running : about1.status = .running := rfl
set_option maxRecDepth 65536 in
theorem w_room : about1.hasRoom e0.platform room_1 = true :=
  launch0.hasRoom_least _ room_1 (by decide +kernel) (by decide +kernel) (by decide +kernel) (by decide +kernel) (by decide +kernel) (by decide +kernel)
theorem allAtoms_all (ts : List Jvm.Cond) (a : Array Jvm.Value) (st : Jvm.State) : (allAtoms ts).before a st = ts.all (fun c => c.before a st) := by
  induction ts with
  | nil => rfl
  | cons c t ih =>
    show (Jvm.Cond.and c (allAtoms t)).before a st = _
    rw [Jvm.Cond.before_and, ih, List.all_cons]
def words1 : List Jvm.Cond := Jvm.Cond.code x code maxLocals ret :: tables_1
/-- a 'code' word, met by the world's own term for the bytes: nothing is compared byte by byte -/
theorem code_word {y : MethodName} {bytes : ByteArray} {mx : Nat} {rt : Option FieldType} {a : Array Value} {s : State} {m : MethodId} {meth : Method} {c : Code} (h1 : s.methodNamed? y = some m) (h2 : s.vm.method? m = some meth) (h3 : meth.code = some c) (h4 : c.code = bytes)
    (h5 : (c.maxLocals == mx && c.exceptionTable.isEmpty && decide (c.maxStack ≤ mostOperands) && decide (meth.sig.returnType = rt) && !meth.locks && decide (parseMethodDescriptor y.desc = some meth.sig)) = true) : (Jvm.Cond.code y bytes mx rt).before a s = true := by
  simp only [Bool.and_eq_true, beq_iff_eq, Bool.not_eq_true', decide_eq_true_eq] at h5
  obtain ⟨⟨⟨⟨⟨g1, g2⟩, g3⟩, g4⟩, g5⟩, g6⟩ := h5
  simp [Cond.before, Cond.holds, Cond.value, h1, h2, h3, h4, g1, g2, g3, g4, g5, g6]
def isCode : Jvm.Cond → Bool
  | .code _ _ _ _ => true
  | _ => false
theorem all_split {L : List Jvm.Cond} {P : Jvm.Cond → Bool} (h1 : L.all (fun c => isCode c || P c) = true) (h2 : ∀ c ∈ L.filter isCode, P c = true) : L.all P = true := by
  refine List.all_eq_true.mpr fun c hc => ?_
  have h := List.all_eq_true.mp h1 c hc
  rcases Bool.eq_false_or_eq_true (isCode c) with hi | hi
  · exact h2 c (List.mem_filter.mpr ⟨hc, hi⟩)
  · simpa [hi] using h
set_option maxRecDepth 65536 in
theorem w_c0 : (Jvm.Cond.code x code maxLocals ret).before args0 about1 = true := code_word (m := ⟨1, 2⟩) (meth := k1m2) (c := k1c2) (by decide +kernel) rfl rfl rfl (by decide +kernel)
set_option maxRecDepth 65536 in
theorem w_c1 : (Jvm.Cond.code ({ cls := "com/example/seongsu/seongsu/core/ChunkCounts", name := "<init>", desc := "()V" } : Jvm.MethodName) prog_12_method_1_code (1 : Nat) (Option.none : Option Jvm.ClassFile.FieldType)).before args0 about1 = true := code_word (m := ⟨2, 0⟩) (meth := k2m0) (c := k2c0) (by decide +kernel) rfl rfl rfl (by decide +kernel)
set_option maxRecDepth 65536 in
theorem w_c2 : (Jvm.Cond.code ({ cls := "java/lang/Object", name := "<init>", desc := "()V" } : Jvm.MethodName) object_method_1_code (1 : Nat) (Option.none : Option Jvm.ClassFile.FieldType)).before args0 about1 = true := code_word (m := ⟨0, 0⟩) (meth := k0m0) (c := k0c0) (by decide +kernel) rfl rfl rfl (by decide +kernel)
set_option maxRecDepth 65536 in
theorem w_c3 : (Jvm.Cond.code ({ cls := "com/example/seongsu/seongsu/core/ChunkCountsGetSkipsPinLaw", name := "bit", desc := "(II)I" } : Jvm.MethodName) method_2_code (2 : Nat) (Option.some Jvm.ClassFile.FieldType.int)).before args0 about1 = true := code_word (m := ⟨1, 1⟩) (meth := k1m1) (c := k1c1) (by decide +kernel) rfl rfl rfl (by decide +kernel)
set_option maxRecDepth 65536 in
theorem w_c4 : (Jvm.Cond.code ({ cls := "com/example/seongsu/seongsu/core/ChunkCounts", name := "getSkips", desc := "()J" } : Jvm.MethodName) prog_12_method_14_code (1 : Nat) (Option.some Jvm.ClassFile.FieldType.long)).before args0 about1 = true := code_word (m := ⟨2, 7⟩) (meth := k2m7) (c := k2c7) (by decide +kernel) rfl rfl rfl (by decide +kernel)
set_option maxRecDepth 65536 in
theorem w_c5 : (Jvm.Cond.code ({ cls := "com/example/seongsu/seongsu/core/ChunkCounts", name := "countReadSkip", desc := "()V" } : Jvm.MethodName) prog_12_method_5_code (1 : Nat) (Option.none : Option Jvm.ClassFile.FieldType)).before args0 about1 = true := code_word (m := ⟨2, 4⟩) (meth := k2m4) (c := k2c4) (by decide +kernel) rfl rfl rfl (by decide +kernel)
set_option maxRecDepth 65536 in
theorem w_c6 : (Jvm.Cond.code ({ cls := "com/example/seongsu/seongsu/core/ChunkCounts", name := "countRead", desc := "()V" } : Jvm.MethodName) prog_12_method_2_code (1 : Nat) (Option.none : Option Jvm.ClassFile.FieldType)).before args0 about1 = true := code_word (m := ⟨2, 1⟩) (meth := k2m1) (c := k2c1) (by decide +kernel) rfl rfl rfl (by decide +kernel)
set_option maxRecDepth 65536 in
theorem w_c7 : (Jvm.Cond.code ({ cls := "com/example/seongsu/seongsu/core/ChunkCounts", name := "countProcessSkip", desc := "()V" } : Jvm.MethodName) prog_12_method_6_code (1 : Nat) (Option.none : Option Jvm.ClassFile.FieldType)).before args0 about1 = true := code_word (m := ⟨2, 5⟩) (meth := k2m5) (c := k2c5) (by decide +kernel) rfl rfl rfl (by decide +kernel)
set_option maxRecDepth 65536 in
theorem w_c8 : (Jvm.Cond.code ({ cls := "com/example/seongsu/seongsu/core/ChunkCounts", name := "countWriteSkip", desc := "()V" } : Jvm.MethodName) prog_12_method_7_code (1 : Nat) (Option.none : Option Jvm.ClassFile.FieldType)).before args0 about1 = true := code_word (m := ⟨2, 6⟩) (meth := k2m6) (c := k2c6) (by decide +kernel) rfl rfl rfl (by decide +kernel)
set_option maxRecDepth 65536 in
theorem w_c9 : (Jvm.Cond.code ({ cls := "com/example/seongsu/seongsu/core/ChunkCounts", name := "countWritten", desc := "(J)V" } : Jvm.MethodName) prog_12_method_4_code (3 : Nat) (Option.none : Option Jvm.ClassFile.FieldType)).before args0 about1 = true := code_word (m := ⟨2, 3⟩) (meth := k2m3) (c := k2c3) (by decide +kernel) rfl rfl rfl (by decide +kernel)
set_option maxRecDepth 65536 in
theorem w_c10 : (Jvm.Cond.code ({ cls := "com/example/seongsu/seongsu/core/ChunkCounts", name := "countFiltered", desc := "()V" } : Jvm.MethodName) prog_12_method_3_code (1 : Nat) (Option.none : Option Jvm.ClassFile.FieldType)).before args0 about1 = true := code_word (m := ⟨2, 2⟩) (meth := k2m2) (c := k2c2) (by decide +kernel) rfl rfl rfl (by decide +kernel)
def codes1 : List Jvm.Cond := [Jvm.Cond.code x code maxLocals ret, Jvm.Cond.code ({ cls := "com/example/seongsu/seongsu/core/ChunkCounts", name := "<init>", desc := "()V" } : Jvm.MethodName) prog_12_method_1_code (1 : Nat) (Option.none : Option Jvm.ClassFile.FieldType), Jvm.Cond.code ({ cls := "java/lang/Object", name := "<init>", desc := "()V" } : Jvm.MethodName) object_method_1_code (1 : Nat) (Option.none : Option Jvm.ClassFile.FieldType), Jvm.Cond.code ({ cls := "com/example/seongsu/seongsu/core/ChunkCountsGetSkipsPinLaw", name := "bit", desc := "(II)I" } : Jvm.MethodName) method_2_code (2 : Nat) (Option.some Jvm.ClassFile.FieldType.int), Jvm.Cond.code ({ cls := "com/example/seongsu/seongsu/core/ChunkCounts", name := "getSkips", desc := "()J" } : Jvm.MethodName) prog_12_method_14_code (1 : Nat) (Option.some Jvm.ClassFile.FieldType.long), Jvm.Cond.code ({ cls := "com/example/seongsu/seongsu/core/ChunkCounts", name := "countReadSkip", desc := "()V" } : Jvm.MethodName) prog_12_method_5_code (1 : Nat) (Option.none : Option Jvm.ClassFile.FieldType), Jvm.Cond.code ({ cls := "com/example/seongsu/seongsu/core/ChunkCounts", name := "countRead", desc := "()V" } : Jvm.MethodName) prog_12_method_2_code (1 : Nat) (Option.none : Option Jvm.ClassFile.FieldType), Jvm.Cond.code ({ cls := "com/example/seongsu/seongsu/core/ChunkCounts", name := "countProcessSkip", desc := "()V" } : Jvm.MethodName) prog_12_method_6_code (1 : Nat) (Option.none : Option Jvm.ClassFile.FieldType), Jvm.Cond.code ({ cls := "com/example/seongsu/seongsu/core/ChunkCounts", name := "countWriteSkip", desc := "()V" } : Jvm.MethodName) prog_12_method_7_code (1 : Nat) (Option.none : Option Jvm.ClassFile.FieldType), Jvm.Cond.code ({ cls := "com/example/seongsu/seongsu/core/ChunkCounts", name := "countWritten", desc := "(J)V" } : Jvm.MethodName) prog_12_method_4_code (3 : Nat) (Option.none : Option Jvm.ClassFile.FieldType), Jvm.Cond.code ({ cls := "com/example/seongsu/seongsu/core/ChunkCounts", name := "countFiltered", desc := "()V" } : Jvm.MethodName) prog_12_method_3_code (1 : Nat) (Option.none : Option Jvm.ClassFile.FieldType)]
set_option maxRecDepth 65536 in
theorem codes_eq : words1.filter isCode = codes1 := rfl
theorem w_codes : ∀ c ∈ words1.filter isCode, c.before args0 about1 = true := by
  rw [codes_eq]
  intro c hc
  simp only [codes1, List.mem_cons, List.not_mem_nil, or_false] at hc
  rcases hc with rfl | rfl | rfl | rfl | rfl | rfl | rfl | rfl | rfl | rfl | rfl
  · exact w_c0
  · exact w_c1
  · exact w_c2
  · exact w_c3
  · exact w_c4
  · exact w_c5
  · exact w_c6
  · exact w_c7
  · exact w_c8
  · exact w_c9
  · exact w_c10
set_option maxRecDepth 65536 in
theorem w_t1 : (words1.take 24).all (fun c => isCode c || c.before args0 about1) = true := by decide +kernel
set_option maxRecDepth 65536 in
theorem w_t2 : ((words1.drop 24).take 24).all (fun c => isCode c || c.before args0 about1) = true := by decide +kernel
set_option maxRecDepth 65536 in
theorem w_t3 : ((words1.drop 24).drop 24).all (fun c => isCode c || c.before args0 about1) = true := by decide +kernel
theorem w_tables : (allAtoms (Jvm.Cond.code x code maxLocals ret :: tables_1)).before args0 about1 = true := by
  rw [allAtoms_all]
  show words1.all (fun c => c.before args0 about1) = true
  refine all_split ?_ w_codes
  rw [← List.take_append_drop 24 words1, List.all_append, w_t1, ← List.take_append_drop 24 (words1.drop 24), List.all_append, w_t2, w_t3]
  rfl
set_option maxRecDepth 65536 in
theorem w_case : (Jvm.Cond.and given_1 narrow_1).before args0 about1 = true := by decide +kernel
theorem w_applies : (headSpec (Jvm.Cond.code x code maxLocals ret :: tables_1) room_1).applies x e0.platform about1 = true :=
  (Spec.applies_iff w_frames).mpr ⟨w_running, w_runnable, w_alone, w_named, w_hears, w_ripe, w_room, w_tables⟩
theorem atStart : AtStart classFile x code maxLocals ret World_1 tables_1 room_1 Calls_1 rest_1 Pre_1 launch0 p0 e0 about1 theMethod args0 below0 :=
  ⟨lists_1, trivial, launch0.admits_env _ _ _, launch0.least_env, fairChoices_fair.cas, fairChoices_fair.clock, w_frames, w_args, w_heap, w_applies, trivial, trivial, w_case⟩
end start1
theorem witness_1 : WitnessClaimed_1 := ⟨start1.p0, start1.e0, start1.about1, start1.theMethod, start1.args0, start1.below0, start1.atStart⟩
end Jvm.Pilot.@@N@@
