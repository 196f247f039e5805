import JvmDerived
import JvmDerived.Pilot.@@N@@Statement
import JvmDerived.Pilot.@@N@@Code
set_option linter.unusedVariables false
set_option linter.unusedSimpArgs false
namespace Jvm.Pilot.@@N@@
open Jvm Jvm.ClassFile Sem Op Lib Jvm.Free Jvm.Stand Jvm.LawKit Jvm.RoadKit Bundle Jvm.Pilot.@@N@@.Jvm.D
section Own
variable {p : Program} {l : Launch} {e : Env} {R : Room} {s : State} {m : MethodId} {args : Array Value} {below : List Frame} {meth : Method} {c : Code} {T : State} {locs : List Loc} {cells slots : Nat} {Z : State} {a0 : Array Value} {h : Heap}
/-- from this frame on the run ends, and P holds at the end -/
def own_Go (p : Program) (e : Env) (below : List Frame) (P : Outcome → State → Prop) (T : State) (f : JFrame) : Prop :=
  ∃ s₂ o, Steps p.tables e below (T.setTop f) s₂ ∧ s₂.status = .running ∧ Ended s₂ below o ∧ P o s₂
theorem own_go {P : Outcome → State → Prop} {T T' : State} {f f' : JFrame} (st : ∀ target, Steps p.tables e below (T'.setTop f') target → Steps p.tables e below (T.setTop f) target) (hg : own_Go p e below P T' f') : own_Go p e below P T f := by
  obtain ⟨s₂, o, h1, h2⟩ := hg
  exact ⟨s₂, o, st _ h1, h2⟩
/-- what a contract says of the end -/
def own_P (Q : Option Value → Heap → List Loc → Prop) (rm : Room) (s : State) (o : Outcome) (U : State) : Prop :=
  ∃ v L, o = .returned v ∧ Q v U.heap L ∧ FrameEnd s o U L rm.cells rm.slots
/-- a contract of a body that writes nothing and returns v -/
def own_pure (v : Option Value) (h0 : Heap) (n0 : Nat) (w : Option Value) (h : Heap) (L : List Loc) : Prop := w = v ∧ Fr n0 L ∧ h = h0
/-- a contract's word, held together -/
def own_R (Q : Option Value → Heap → List Loc → Prop) : Option Value → Heap → List Loc → Prop := Q
theorem own_endZ {Q : Option Value → Heap → List Loc → Prop} (X : Stand p l e R s m args below meth c T locs cells slots) (hx : p.tables.exec = Jvm.exec) (hret : meth.sig.returnType = some .boolean) (hlk : meth.locks = false) {pc : Nat} {Ls : Array Slot} {z : Int32} {rest : List Value}
    (hd : decode c.code pc = .ok (.ireturn, 1)) (hn : narrow .boolean (.int z) = .int z) (hc : cells ≤ R.cells) (hs : slots ≤ R.slots) (hQ : Q (some (.int z)) T.heap locs) : own_Go p e below (own_P Q R s) T (mkF m pc Ls (.int z :: rest)) := by
  obtain ⟨fs, hr, hrun, hended, hW, hsame⟩ := X.leave (v := some (.int z)) (fun h => by rw [hret] at h; cases h) hlk
  exact ⟨_, _, retOut X hx hret hn (Or.inl ⟨rfl, Or.inr (Or.inl rfl), z, rfl⟩) hd hr, hrun, hended, _, _, rfl, hQ, ⟨_, rfl⟩, hW, hsame.mono hc hs⟩
theorem own_endI {Q : Option Value → Heap → List Loc → Prop} (X : Stand p l e R s m args below meth c T locs cells slots) (hx : p.tables.exec = Jvm.exec) (hret : meth.sig.returnType = some .int) (hlk : meth.locks = false) {pc : Nat} {Ls : Array Slot} {z : Int32} {rest : List Value}
    (hd : decode c.code pc = .ok (.ireturn, 1)) (hc : cells ≤ R.cells) (hs : slots ≤ R.slots) (hQ : Q (some (.int z)) T.heap locs) : own_Go p e below (own_P Q R s) T (mkF m pc Ls (.int z :: rest)) := by
  obtain ⟨fs, hr, hrun, hended, hW, hsame⟩ := X.leave (v := some (.int z)) (fun h => by rw [hret] at h; cases h) hlk
  exact ⟨_, _, retOut X hx hret rfl (Or.inl ⟨rfl, Or.inl rfl, z, rfl⟩) hd hr, hrun, hended, _, _, rfl, hQ, ⟨_, rfl⟩, hW, hsame.mono hc hs⟩
theorem own_endJ {Q : Option Value → Heap → List Loc → Prop} (X : Stand p l e R s m args below meth c T locs cells slots) (hx : p.tables.exec = Jvm.exec) (hret : meth.sig.returnType = some .long) (hlk : meth.locks = false) {pc : Nat} {Ls : Array Slot} {z : Int64} {rest : List Value}
    (hd : decode c.code pc = .ok (.lreturn, 1)) (hc : cells ≤ R.cells) (hs : slots ≤ R.slots) (hQ : Q (some (.long z)) T.heap locs) : own_Go p e below (own_P Q R s) T (mkF m pc Ls (.long z :: rest)) := by
  obtain ⟨fs, hr, hrun, hended, hW, hsame⟩ := X.leave (v := some (.long z)) (fun h => by rw [hret] at h; cases h) hlk
  exact ⟨_, _, retOut X hx hret rfl (Or.inr (Or.inl ⟨rfl, rfl, z, rfl⟩)) hd hr, hrun, hended, _, _, rfl, hQ, ⟨_, rfl⟩, hW, hsame.mono hc hs⟩
theorem own_endA {Q : Option Value → Heap → List Loc → Prop} {t : FieldType} (X : Stand p l e R s m args below meth c T locs cells slots) (hx : p.tables.exec = Jvm.exec) (hret : meth.sig.returnType = some t) (ht : t.isReference = true) (hlk : meth.locks = false) {pc : Nat} {Ls : Array Slot} {a : Addr} {rest : List Value}
    (hd : decode c.code pc = .ok (.areturn, 1)) (hn : narrow t (.ref a) = .ref a) (hc : cells ≤ R.cells) (hs : slots ≤ R.slots) (hQ : Q (some (.ref a)) T.heap locs) : own_Go p e below (own_P Q R s) T (mkF m pc Ls (.ref a :: rest)) := by
  obtain ⟨fs, hr, hrun, hended, hW, hsame⟩ := X.leave (v := some (.ref a)) (fun h => by rw [hret] at h; cases h) hlk
  exact ⟨_, _, retOut X hx hret hn (Or.inr (Or.inr (Or.inr (Or.inr ⟨rfl, ht, rfl⟩)))) hd hr, hrun, hended, _, _, rfl, hQ, ⟨_, rfl⟩, hW, hsame.mono hc hs⟩
theorem own_endV {Q : Option Value → Heap → List Loc → Prop} (X : Stand p l e R s m args below meth c T locs cells slots) (hx : p.tables.exec = Jvm.exec) (hret : meth.sig.returnType = none) (hlk : meth.locks = false) {pc : Nat} {Ls : Array Slot}
    (hd : decode c.code pc = .ok (.return_, 1)) (hc : cells ≤ R.cells) (hs : slots ≤ R.slots) (hQ : Q none T.heap locs) : own_Go p e below (own_P Q R s) T (mkF m pc Ls []) := by
  obtain ⟨fs, hr, hrun, hended, hW, hsame⟩ := X.leave (v := none) (fun _ => rfl) hlk
  exact ⟨_, _, X.returnOut hx hret hd hr, hrun, hended, _, _, rfl, hQ, ⟨_, rfl⟩, hW, hsame.mono hc hs⟩
/-- a static call, paid by the callee's contract -/
theorem own_callS (X : Stand p l e R s m args below meth c T locs cells slots) (hx : p.tables.exec = Jvm.exec) (hZ : Z.Warmed39 s.vm) {own : String} {index : Nat} {y : MethodName} {bytes : ByteArray} {maxL : Nat} {ret : Option FieldType} (hown : s.vm.findClass own = some m.cls)
    (w1 : (Cond.methodLink own index y).before a0 Z = true) (w2 : (Cond.static y).before a0 Z = true) (w3 : (Cond.initialized y.cls).before a0 Z = true) (w4 : (Cond.code y bytes maxL ret).before a0 Z = true) (hy : y.cls ≠ "java/lang/invoke/MethodHandle" ∧ y.cls ≠ "java/lang/invoke/VarHandle")
    {rm : Room} {as' : Array Value} {Q : Option Value → Heap → List Loc → Prop}
    (hM : MetFree l y (head1 [Cond.code y bytes maxL ret] rm) (fun a U => a = as' ∧ Z.Warmed39 U.vm ∧ U.heap = h) (fun _ _ _ _ _ => True) (fun _ U o U' => ∃ v L, o = .returned v ∧ Q v U'.heap L ∧ FrameEnd U o U' L rm.cells rm.slots))
    {Ls : Array Slot} {st : List Value} {W : Nat} (hf : rm.frames + 1 ≤ R.frames) (hl : W + (maxL + 11) + rm.locals ≤ R.locals) {pc : Nat} (hsize : Ls.size = c.maxLocals) {argsL rest : List Value} (hlen : ∀ sig, parseMethodDescriptor y.desc = some sig → argsL.length = sig.parameters.length)
    (has : argsL.toArray = as') (hstack : st = argsL.reverse ++ rest) (hW : (rest.map fun v => v.category).sum ≤ W) (hd : decode c.code pc = .ok (.invokestatic index, 3)) (eT : T.heap = h) (hc : cells + rm.cells ≤ R.cells) (hs : slots + rm.slots ≤ R.slots) :
    ∃ T' v L, Stand p l e R s m args below meth c T' (locs ++ L) (cells + rm.cells) (slots + rm.slots) ∧ Q v T'.heap L ∧ ∀ target, Steps p.tables e below (T'.setTop (mkF m (pc + 3) Ls (v.toList ++ rest))) target → Steps p.tables e below (T.setTop (mkF m pc Ls st)) target := by
  obtain ⟨v, _, ⟨T', L', k', n'⟩, -, X', ⟨L, hQ, l1, l2, l3⟩, st'⟩ := Jvm.LawKit.callS X hx (y := y) hown (mvT hZ w1) (mvT hZ w2) (mvT hZ w3) (mvT hZ w4) hy (backOf (W := W) hM hZ w4 w3 hf hl) (g := mkF m pc Ls st) rfl hsize (argsL := argsL) (rest := rest) hlen hstack (by show 2 * 0 + _ ≤ _; omega) hd (fun _ _ => ⟨has, eT, hc, hs⟩)
  dsimp only [Pt.U, Pt.locs, Pt.cells, Pt.slots] at X' l1 l2 l3 st' hQ
  subst l1 l2 l3
  exact ⟨T', v, L, X', hQ, st'⟩
/-- a constructor's call, paid by its contract -/
theorem own_callC (X : Stand p l e R s m args below meth c T locs cells slots) (hx : p.tables.exec = Jvm.exec) (hZ : Z.Warmed39 s.vm) {own : String} {index : Nat} {y : MethodName} {bytes : ByteArray} {maxL : Nat} (hy1 : y.name = "<init>") (hown : s.vm.findClass own = some m.cls)
    (w1 : (Cond.methodLink own index y).before a0 Z = true) (w2 : (Cond.instanceMethod y).before a0 Z = true) (w3 : (Cond.initialized y.cls).before a0 Z = true) (w4 : (Cond.code y bytes maxL none).before a0 Z = true) (hy : y.cls ≠ "java/lang/invoke/MethodHandle" ∧ y.cls ≠ "java/lang/invoke/VarHandle")
    {rm : Room} {as' : Array Value} {Q : Option Value → Heap → List Loc → Prop}
    (hM : MetFree l y (head1 [Cond.code y bytes maxL none] rm) (fun a U => a = as' ∧ Z.Warmed39 U.vm ∧ U.heap = h) (fun _ _ _ _ _ => True) (fun _ U o U' => ∃ v L, o = .returned v ∧ Q v U'.heap L ∧ FrameEnd U o U' L rm.cells rm.slots))
    {Ls : Array Slot} {st : List Value} {W : Nat} (hf : rm.frames + 1 ≤ R.frames) (hl : W + (maxL + 11) + rm.locals ≤ R.locals) {pc : Nat} (hsize : Ls.size = c.maxLocals) {a : Addr} {argsL rest : List Value} (hlen : ∀ sig, parseMethodDescriptor y.desc = some sig → argsL.length = sig.parameters.length)
    (has : (.ref a :: argsL).toArray = as') (hstack : st = argsL.reverse ++ .ref a :: rest) (hW : (rest.map fun v => v.category).sum ≤ W) (hd : decode c.code pc = .ok (.invokespecial index, 3)) (eT : T.heap = h) (hc : cells + rm.cells ≤ R.cells) (hs : slots + rm.slots ≤ R.slots) :
    ∃ T' v L, Stand p l e R s m args below meth c T' (locs ++ L) (cells + rm.cells) (slots + rm.slots) ∧ Q v T'.heap L ∧ ∀ target, Steps p.tables e below (T'.setTop (mkF m (pc + 3) Ls (v.toList ++ rest))) target → Steps p.tables e below (T.setTop (mkF m pc Ls st)) target := by
  obtain ⟨v, _, ⟨T', L', k', n'⟩, -, X', ⟨L, hQ, l1, l2, l3⟩, st'⟩ := X.specialBack hx (y := y) hy1 hown (mvT hZ w1) (mvT hZ w2) (mvT hZ w4) hy (backOf (W := W) hM hZ w4 w3 hf hl) (g := mkF m pc Ls st) rfl hsize (Steps.refl _) (a := a) (argsL := argsL) (rest := rest) hlen hstack (by show 2 * 0 + _ ≤ _; omega) hd (fun _ _ => ⟨has, eT, hc, hs⟩)
  dsimp only [Pt.U, Pt.locs, Pt.cells, Pt.slots] at X' l1 l2 l3 st' hQ
  subst l1 l2 l3
  exact ⟨T', v, L, X', hQ, fun _ k => st'.trans k⟩
/-- an instance method's call, paid by its contract -/
theorem own_callV (X : Stand p l e R s m args below meth c T locs cells slots) (hx : p.tables.exec = Jvm.exec) (hZ : Z.Warmed39 s.vm) {own : String} {index : Nat} {y : MethodName} {bytes : ByteArray} {maxL : Nat} {ret : Option FieldType} (hown : s.vm.findClass own = some m.cls)
    (w1 : (Cond.methodLink own index y).before a0 Z = true) (w2 : (Cond.declares y).before a0 Z = true) (w5 : (Cond.selects y.cls y y).before a0 Z = true) (w6 : (Cond.instanceMethod y).before a0 Z = true) (w3 : (Cond.initialized y.cls).before a0 Z = true) (w4 : (Cond.code y bytes maxL ret).before a0 Z = true) (hy : y.cls ≠ "java/lang/invoke/MethodHandle" ∧ y.cls ≠ "java/lang/invoke/VarHandle")
    {rm : Room} {as' : Array Value} {Q : Option Value → Heap → List Loc → Prop}
    (hM : MetFree l y (head1 [Cond.code y bytes maxL ret] rm) (fun a U => a = as' ∧ Z.Warmed39 U.vm ∧ U.heap = h) (fun _ _ _ _ _ => True) (fun _ U o U' => ∃ v L, o = .returned v ∧ Q v U'.heap L ∧ FrameEnd U o U' L rm.cells rm.slots))
    {a : Addr} (E : Exa Z h a y.cls)
    {Ls : Array Slot} {st : List Value} {W : Nat} (hf : rm.frames + 1 ≤ R.frames) (hl : W + (maxL + 11) + rm.locals ≤ R.locals) {pc : Nat} (hsize : Ls.size = c.maxLocals) {argsL rest : List Value} (hlen : ∀ sig, parseMethodDescriptor y.desc = some sig → argsL.length = sig.parameters.length)
    (has : (.ref a :: argsL).toArray = as') (hstack : st = argsL.reverse ++ .ref a :: rest) (hW : (rest.map fun v => v.category).sum ≤ W) (hd : decode c.code pc = .ok (.invokevirtual index, 3)) (eT : T.heap = h) (hc : cells + rm.cells ≤ R.cells) (hs : slots + rm.slots ≤ R.slots) :
    ∃ T' v L, Stand p l e R s m args below meth c T' (locs ++ L) (cells + rm.cells) (slots + rm.slots) ∧ Q v T'.heap L ∧ ∀ target, Steps p.tables e below (T'.setTop (mkF m (pc + 3) Ls (v.toList ++ rest))) target → Steps p.tables e below (T.setTop (mkF m pc Ls st)) target := by
  obtain ⟨cq, kq, qa, qb, qc⟩ := isOf hZ eT E
  obtain ⟨v, _, ⟨T', L', k', n'⟩, -, X', ⟨L, hQ, l1, l2, l3⟩, st'⟩ := X.virtualBack hx (y := y) (z := y) hown (mvT hZ w1) (mvT hZ w2) (notFace_of_selects (args := #[]) (mvT hZ w5)) (mvT hZ w5) (mvT hZ w6) hy (backOf (W := W) hM hZ w4 w3 hf hl) qa qc (g := mkF m pc Ls st) rfl hsize (Steps.refl _) (argsL := argsL) (rest := rest) hlen hstack (by show 2 * 0 + _ ≤ _; omega) hd (fun _ _ => ⟨has, eT, hc, hs⟩)
  dsimp only [Pt.U, Pt.locs, Pt.cells, Pt.slots] at X' l1 l2 l3 st' hQ
  subst l1 l2 l3
  exact ⟨T', v, L, X', hQ, fun _ k => st'.trans k⟩
/-- a private instance method's call by invokevirtual, paid by its contract; that the class is no interface, another method's 'selects' word says -/
theorem own_callP (X : Stand p l e R s m args below meth c T locs cells slots) (hx : p.tables.exec = Jvm.exec) (hZ : Z.Warmed39 s.vm) {own : String} {index : Nat} {y z : MethodName} {bytes : ByteArray} {maxL : Nat} {ret : Option FieldType} (hown : s.vm.findClass own = some m.cls)
    (w1 : (Cond.methodLink own index y).before a0 Z = true) (wp : (Cond.privateMethod y).before a0 Z = true) (w5 : (Cond.selects y.cls z z).before a0 Z = true) (hz : z.cls = y.cls) (w6 : (Cond.instanceMethod y).before a0 Z = true) (w3 : (Cond.initialized y.cls).before a0 Z = true) (w4 : (Cond.code y bytes maxL ret).before a0 Z = true) (hy : y.cls ≠ "java/lang/invoke/MethodHandle" ∧ y.cls ≠ "java/lang/invoke/VarHandle")
    {rm : Room} {as' : Array Value} {Q : Option Value → Heap → List Loc → Prop}
    (hM : MetFree l y (head1 [Cond.code y bytes maxL ret] rm) (fun a U => a = as' ∧ Z.Warmed39 U.vm ∧ U.heap = h) (fun _ _ _ _ _ => True) (fun _ U o U' => ∃ v L, o = .returned v ∧ Q v U'.heap L ∧ FrameEnd U o U' L rm.cells rm.slots))
    {a : Addr} (E : Exa Z h a y.cls)
    {Ls : Array Slot} {st : List Value} {W : Nat} (hf : rm.frames + 1 ≤ R.frames) (hl : W + (maxL + 11) + rm.locals ≤ R.locals) {pc : Nat} (hsize : Ls.size = c.maxLocals) {argsL rest : List Value} (hlen : ∀ sig, parseMethodDescriptor y.desc = some sig → argsL.length = sig.parameters.length)
    (has : (.ref a :: argsL).toArray = as') (hstack : st = argsL.reverse ++ .ref a :: rest) (hW : (rest.map fun v => v.category).sum ≤ W) (hd : decode c.code pc = .ok (.invokevirtual index, 3)) (eT : T.heap = h) (hc : cells + rm.cells ≤ R.cells) (hs : slots + rm.slots ≤ R.slots) :
    ∃ T' v L, Stand p l e R s m args below meth c T' (locs ++ L) (cells + rm.cells) (slots + rm.slots) ∧ Q v T'.heap L ∧ ∀ target, Steps p.tables e below (T'.setTop (mkF m (pc + 3) Ls (v.toList ++ rest))) target → Steps p.tables e below (T.setTop (mkF m pc Ls st)) target := by
  have hpriv : s.PrivateAt y := Cond.privateMethod_at (mvP hZ wp (args := #[]))
  obtain ⟨c2, r2, m2, q1, q2, q3, q4, kP, hkP, hkPi⟩ := Cond.selects_spec (show (Cond.selects y.cls z z).before args s = true from mvT hZ w5)
  have hcl : s.vm.findClass y.cls = some m2.cls := by rw [← hz]; exact findClass_of_methodNamed q3
  have hsel := selects_self_of_private (args := args) hcl hkP hkPi hpriv (mvT hZ w6) hy
  obtain ⟨cell, hcell, hobj⟩ := E.cell
  obtain ⟨v, _, ⟨T', L', k', n'⟩, -, X', ⟨L, hQ, l1, l2, l3⟩, st'⟩ := X.privateBack hx (y := y) hown (mvT hZ w1) (mvT hZ w6) hsel hpriv (mvT hZ w4) hy (backOf (W := W) hM hZ w4 w3 hf hl) (g := mkF m pc Ls st) rfl hsize (Steps.refl _) (a := a) (by rw [eT]; exact hcell) hobj (argsL := argsL) (rest := rest) hlen hstack (by show 2 * 0 + _ ≤ _; omega) hd (fun _ _ => ⟨has, eT, hc, hs⟩)
  dsimp only [Pt.U, Pt.locs, Pt.cells, Pt.slots] at X' l1 l2 l3 st' hQ
  subst l1 l2 l3
  exact ⟨T', v, L, X', hQ, fun _ k => st'.trans k⟩
end Own
theorem pd_0 : parseMethodDescriptor "(J)I" = some ⟨[.long], some .int⟩ := by decide +kernel
theorem pd_1 : parseMethodDescriptor "(IJ)I" = some ⟨[.int, .long], some .int⟩ := by decide +kernel
theorem pd_2 : parseMethodDescriptor "()V" = some ⟨[], none⟩ := by decide +kernel
theorem pd_3 : parseMethodDescriptor "()I" = some ⟨[], some .int⟩ := by decide +kernel
theorem pd_4 : parseMethodDescriptor "(I)I" = some ⟨[.int], some .int⟩ := by decide +kernel
theorem pd_5 : parseMethodDescriptor "(I)J" = some ⟨[.int], some .long⟩ := by decide +kernel
theorem pd_6 : parseMethodDescriptor "([I[JII)Z" = some ⟨[(.array .int), (.array .long), .int, .int], some .boolean⟩ := by decide +kernel
theorem pd_7 : parseMethodDescriptor "(III)I" = some ⟨[.int, .int, .int], some .int⟩ := by decide +kernel
theorem pd_8 : parseMethodDescriptor "(IJJ)J" = some ⟨[.int, .long, .long], some .long⟩ := by decide +kernel
theorem pn_0 : plainName "com/example/window_payoff_solver/windowpayoffsolver/window/PairTableIndexPinLaw" = true := by first | (simp [plainName, overriddenIn]; done) | decide +kernel
theorem pn_1 : plainName "com/example/window_payoff_solver/windowpayoffsolver/window/PairTable" = true := by first | (simp [plainName, overriddenIn]; done) | decide +kernel
theorem pn_2 : plainName "java/lang/Long" = true := by first | (simp [plainName, overriddenIn]; done) | decide +kernel
theorem d1_0 : decode method_2_code 0 = .ok (.iload_n 0, 1) := by decide +kernel
theorem d1_1 : decode method_2_code 1 = .ok (.ifCond .eq 8, 3) := by decide +kernel
theorem d1_4 : decode method_2_code 4 = .ok (.iload_n 0, 1) := by decide +kernel
theorem d1_5 : decode method_2_code 5 = .ok (.iconst 2, 1) := by decide +kernel
theorem d1_6 : decode method_2_code 6 = .ok (.if_icmp .ne 7, 3) := by decide +kernel
theorem d1_9 : decode method_2_code 9 = .ok (.iload_n 1, 1) := by decide +kernel
theorem d1_10 : decode method_2_code 10 = .ok (.goto 4, 3) := by decide +kernel
theorem d1_13 : decode method_2_code 13 = .ok (.iload_n 2, 1) := by decide +kernel
theorem d1_14 : decode method_2_code 14 = .ok (.ireturn, 1) := by decide +kernel
theorem d2_0 : decode method_3_code 0 = .ok (.iload_n 0, 1) := by decide +kernel
theorem d2_1 : decode method_3_code 1 = .ok (.ifCond .eq 8, 3) := by decide +kernel
theorem d2_4 : decode method_3_code 4 = .ok (.iload_n 0, 1) := by decide +kernel
theorem d2_5 : decode method_3_code 5 = .ok (.iconst 3, 1) := by decide +kernel
theorem d2_6 : decode method_3_code 6 = .ok (.if_icmp .ne 7, 3) := by decide +kernel
theorem d2_9 : decode method_3_code 9 = .ok (.lload_n 1, 1) := by decide +kernel
theorem d2_10 : decode method_3_code 10 = .ok (.goto 4, 3) := by decide +kernel
theorem d2_13 : decode method_3_code 13 = .ok (.lload_n 3, 1) := by decide +kernel
theorem d2_14 : decode method_3_code 14 = .ok (.lreturn, 1) := by decide +kernel
theorem d3_0 : decode method_4_code 0 = .ok (.aload_n 0, 1) := by decide +kernel
theorem d3_1 : decode method_4_code 1 = .ok (.iload_n 2, 1) := by decide +kernel
theorem d3_2 : decode method_4_code 2 = .ok (.iaload, 1) := by decide +kernel
theorem d3_3 : decode method_4_code 3 = .ok (.aload_n 0, 1) := by decide +kernel
theorem d3_4 : decode method_4_code 4 = .ok (.iload_n 3, 1) := by decide +kernel
theorem d3_5 : decode method_4_code 5 = .ok (.iaload, 1) := by decide +kernel
theorem d3_6 : decode method_4_code 6 = .ok (.if_icmp .ne 17, 3) := by decide +kernel
theorem d3_9 : decode method_4_code 9 = .ok (.aload_n 1, 1) := by decide +kernel
theorem d3_10 : decode method_4_code 10 = .ok (.iload_n 2, 1) := by decide +kernel
theorem d3_11 : decode method_4_code 11 = .ok (.laload, 1) := by decide +kernel
theorem d3_12 : decode method_4_code 12 = .ok (.aload_n 1, 1) := by decide +kernel
theorem d3_13 : decode method_4_code 13 = .ok (.iload_n 3, 1) := by decide +kernel
theorem d3_14 : decode method_4_code 14 = .ok (.laload, 1) := by decide +kernel
theorem d3_15 : decode method_4_code 15 = .ok (.lcmp, 1) := by decide +kernel
theorem d3_16 : decode method_4_code 16 = .ok (.ifCond .ne 7, 3) := by decide +kernel
theorem d3_19 : decode method_4_code 19 = .ok (.iconst 1, 1) := by decide +kernel
theorem d3_20 : decode method_4_code 20 = .ok (.goto 4, 3) := by decide +kernel
theorem d3_23 : decode method_4_code 23 = .ok (.iconst 0, 1) := by decide +kernel
theorem d3_24 : decode method_4_code 24 = .ok (.ireturn, 1) := by decide +kernel
theorem d4_0 : decode prog_81_method_1_code 0 = .ok (.aload_n 0, 1) := by decide +kernel
theorem d4_1 : decode prog_81_method_1_code 1 = .ok (.invokespecial 1, 3) := by decide +kernel
theorem d4_4 : decode prog_81_method_1_code 4 = .ok (.aload_n 0, 1) := by decide +kernel
theorem d4_5 : decode prog_81_method_1_code 5 = .ok (.bipush 16, 2) := by decide +kernel
theorem d4_7 : decode prog_81_method_1_code 7 = .ok (.newarray .int, 2) := by decide +kernel
theorem d4_9 : decode prog_81_method_1_code 9 = .ok (.putfield 9, 3) := by decide +kernel
theorem d4_12 : decode prog_81_method_1_code 12 = .ok (.aload_n 0, 1) := by decide +kernel
theorem d4_13 : decode prog_81_method_1_code 13 = .ok (.bipush 16, 2) := by decide +kernel
theorem d4_15 : decode prog_81_method_1_code 15 = .ok (.newarray .long, 2) := by decide +kernel
theorem d4_17 : decode prog_81_method_1_code 17 = .ok (.putfield 13, 3) := by decide +kernel
theorem d4_20 : decode prog_81_method_1_code 20 = .ok (.aload_n 0, 1) := by decide +kernel
theorem d4_21 : decode prog_81_method_1_code 21 = .ok (.bipush 32, 2) := by decide +kernel
theorem d4_23 : decode prog_81_method_1_code 23 = .ok (.newarray .int, 2) := by decide +kernel
theorem d4_25 : decode prog_81_method_1_code 25 = .ok (.putfield 17, 3) := by decide +kernel
theorem d4_28 : decode prog_81_method_1_code 28 = .ok (.return_, 1) := by decide +kernel
theorem d6_0 : decode prog_81_method_2_code 0 = .ok (.aload_n 0, 1) := by decide +kernel
theorem d6_1 : decode prog_81_method_2_code 1 = .ok (.iload_n 1, 1) := by decide +kernel
theorem d6_2 : decode prog_81_method_2_code 2 = .ok (.lload_n 2, 1) := by decide +kernel
theorem d6_3 : decode prog_81_method_2_code 3 = .ok (.invokevirtual 20, 3) := by decide +kernel
theorem d6_6 : decode prog_81_method_2_code 6 = .ok (.istore 4, 2) := by decide +kernel
theorem d6_8 : decode prog_81_method_2_code 8 = .ok (.aload_n 0, 1) := by decide +kernel
theorem d6_9 : decode prog_81_method_2_code 9 = .ok (.getfield 17, 3) := by decide +kernel
theorem d6_12 : decode prog_81_method_2_code 12 = .ok (.iload 4, 2) := by decide +kernel
theorem d6_14 : decode prog_81_method_2_code 14 = .ok (.iaload, 1) := by decide +kernel
theorem d6_15 : decode prog_81_method_2_code 15 = .ok (.ifCond .eq 57, 3) := by decide +kernel
theorem d6_18 : decode prog_81_method_2_code 18 = .ok (.aload_n 0, 1) := by decide +kernel
theorem d6_19 : decode prog_81_method_2_code 19 = .ok (.getfield 17, 3) := by decide +kernel
theorem d6_22 : decode prog_81_method_2_code 22 = .ok (.iload 4, 2) := by decide +kernel
theorem d6_24 : decode prog_81_method_2_code 24 = .ok (.iaload, 1) := by decide +kernel
theorem d6_25 : decode prog_81_method_2_code 25 = .ok (.iconst 1, 1) := by decide +kernel
theorem d6_26 : decode prog_81_method_2_code 26 = .ok (.isub, 1) := by decide +kernel
theorem d6_27 : decode prog_81_method_2_code 27 = .ok (.istore 5, 2) := by decide +kernel
theorem d6_29 : decode prog_81_method_2_code 29 = .ok (.aload_n 0, 1) := by decide +kernel
theorem d6_30 : decode prog_81_method_2_code 30 = .ok (.getfield 9, 3) := by decide +kernel
theorem d6_33 : decode prog_81_method_2_code 33 = .ok (.iload 5, 2) := by decide +kernel
theorem d6_35 : decode prog_81_method_2_code 35 = .ok (.iaload, 1) := by decide +kernel
theorem d6_36 : decode prog_81_method_2_code 36 = .ok (.iload_n 1, 1) := by decide +kernel
theorem d6_37 : decode prog_81_method_2_code 37 = .ok (.if_icmp .ne 18, 3) := by decide +kernel
theorem d6_40 : decode prog_81_method_2_code 40 = .ok (.aload_n 0, 1) := by decide +kernel
theorem d6_41 : decode prog_81_method_2_code 41 = .ok (.getfield 13, 3) := by decide +kernel
theorem d6_44 : decode prog_81_method_2_code 44 = .ok (.iload 5, 2) := by decide +kernel
theorem d6_46 : decode prog_81_method_2_code 46 = .ok (.laload, 1) := by decide +kernel
theorem d6_47 : decode prog_81_method_2_code 47 = .ok (.lload_n 2, 1) := by decide +kernel
theorem d6_48 : decode prog_81_method_2_code 48 = .ok (.lcmp, 1) := by decide +kernel
theorem d6_49 : decode prog_81_method_2_code 49 = .ok (.ifCond .ne 6, 3) := by decide +kernel
theorem d6_52 : decode prog_81_method_2_code 52 = .ok (.iload 5, 2) := by decide +kernel
theorem d6_54 : decode prog_81_method_2_code 54 = .ok (.ireturn, 1) := by decide +kernel
theorem d6_55 : decode prog_81_method_2_code 55 = .ok (.iload 4, 2) := by decide +kernel
theorem d6_57 : decode prog_81_method_2_code 57 = .ok (.iconst 1, 1) := by decide +kernel
theorem d6_58 : decode prog_81_method_2_code 58 = .ok (.iadd, 1) := by decide +kernel
theorem d6_59 : decode prog_81_method_2_code 59 = .ok (.aload_n 0, 1) := by decide +kernel
theorem d6_60 : decode prog_81_method_2_code 60 = .ok (.getfield 17, 3) := by decide +kernel
theorem d6_63 : decode prog_81_method_2_code 63 = .ok (.arraylength, 1) := by decide +kernel
theorem d6_64 : decode prog_81_method_2_code 64 = .ok (.iconst 1, 1) := by decide +kernel
theorem d6_65 : decode prog_81_method_2_code 65 = .ok (.isub, 1) := by decide +kernel
theorem d6_66 : decode prog_81_method_2_code 66 = .ok (.iand, 1) := by decide +kernel
theorem d6_67 : decode prog_81_method_2_code 67 = .ok (.istore 4, 2) := by decide +kernel
theorem d6_69 : decode prog_81_method_2_code 69 = .ok (.goto (-61), 3) := by decide +kernel
theorem d6_72 : decode prog_81_method_2_code 72 = .ok (.aload_n 0, 1) := by decide +kernel
theorem d6_73 : decode prog_81_method_2_code 73 = .ok (.getfield 24, 3) := by decide +kernel
theorem d6_76 : decode prog_81_method_2_code 76 = .ok (.ldc 28, 2) := by decide +kernel
theorem d6_78 : decode prog_81_method_2_code 78 = .ok (.if_icmp .ne 5, 3) := by decide +kernel
theorem d6_83 : decode prog_81_method_2_code 83 = .ok (.aload_n 0, 1) := by decide +kernel
theorem d6_84 : decode prog_81_method_2_code 84 = .ok (.getfield 24, 3) := by decide +kernel
theorem d6_87 : decode prog_81_method_2_code 87 = .ok (.aload_n 0, 1) := by decide +kernel
theorem d6_88 : decode prog_81_method_2_code 88 = .ok (.getfield 9, 3) := by decide +kernel
theorem d6_91 : decode prog_81_method_2_code 91 = .ok (.arraylength, 1) := by decide +kernel
theorem d6_92 : decode prog_81_method_2_code 92 = .ok (.if_icmp .ne 37, 3) := by decide +kernel
theorem d6_129 : decode prog_81_method_2_code 129 = .ok (.aload_n 0, 1) := by decide +kernel
theorem d6_130 : decode prog_81_method_2_code 130 = .ok (.getfield 9, 3) := by decide +kernel
theorem d6_133 : decode prog_81_method_2_code 133 = .ok (.aload_n 0, 1) := by decide +kernel
theorem d6_134 : decode prog_81_method_2_code 134 = .ok (.getfield 24, 3) := by decide +kernel
theorem d6_137 : decode prog_81_method_2_code 137 = .ok (.iload_n 1, 1) := by decide +kernel
theorem d6_138 : decode prog_81_method_2_code 138 = .ok (.iastore, 1) := by decide +kernel
theorem d6_139 : decode prog_81_method_2_code 139 = .ok (.aload_n 0, 1) := by decide +kernel
theorem d6_140 : decode prog_81_method_2_code 140 = .ok (.getfield 13, 3) := by decide +kernel
theorem d6_143 : decode prog_81_method_2_code 143 = .ok (.aload_n 0, 1) := by decide +kernel
theorem d6_144 : decode prog_81_method_2_code 144 = .ok (.getfield 24, 3) := by decide +kernel
theorem d6_147 : decode prog_81_method_2_code 147 = .ok (.lload_n 2, 1) := by decide +kernel
theorem d6_148 : decode prog_81_method_2_code 148 = .ok (.lastore, 1) := by decide +kernel
theorem d6_149 : decode prog_81_method_2_code 149 = .ok (.aload_n 0, 1) := by decide +kernel
theorem d6_150 : decode prog_81_method_2_code 150 = .ok (.getfield 17, 3) := by decide +kernel
theorem d6_153 : decode prog_81_method_2_code 153 = .ok (.iload 4, 2) := by decide +kernel
theorem d6_155 : decode prog_81_method_2_code 155 = .ok (.aload_n 0, 1) := by decide +kernel
theorem d6_156 : decode prog_81_method_2_code 156 = .ok (.getfield 24, 3) := by decide +kernel
theorem d6_159 : decode prog_81_method_2_code 159 = .ok (.iconst 1, 1) := by decide +kernel
theorem d6_160 : decode prog_81_method_2_code 160 = .ok (.iadd, 1) := by decide +kernel
theorem d6_161 : decode prog_81_method_2_code 161 = .ok (.iastore, 1) := by decide +kernel
theorem d6_162 : decode prog_81_method_2_code 162 = .ok (.aload_n 0, 1) := by decide +kernel
theorem d6_163 : decode prog_81_method_2_code 163 = .ok (.dup, 1) := by decide +kernel
theorem d6_164 : decode prog_81_method_2_code 164 = .ok (.getfield 24, 3) := by decide +kernel
theorem d6_167 : decode prog_81_method_2_code 167 = .ok (.iconst 1, 1) := by decide +kernel
theorem d6_168 : decode prog_81_method_2_code 168 = .ok (.iadd, 1) := by decide +kernel
theorem d6_169 : decode prog_81_method_2_code 169 = .ok (.putfield 24, 3) := by decide +kernel
theorem d6_172 : decode prog_81_method_2_code 172 = .ok (.iconst 2, 1) := by decide +kernel
theorem d6_173 : decode prog_81_method_2_code 173 = .ok (.aload_n 0, 1) := by decide +kernel
theorem d6_174 : decode prog_81_method_2_code 174 = .ok (.getfield 24, 3) := by decide +kernel
theorem d6_177 : decode prog_81_method_2_code 177 = .ok (.imul, 1) := by decide +kernel
theorem d6_178 : decode prog_81_method_2_code 178 = .ok (.aload_n 0, 1) := by decide +kernel
theorem d6_179 : decode prog_81_method_2_code 179 = .ok (.getfield 17, 3) := by decide +kernel
theorem d6_182 : decode prog_81_method_2_code 182 = .ok (.arraylength, 1) := by decide +kernel
theorem d6_183 : decode prog_81_method_2_code 183 = .ok (.if_icmp .le 7, 3) := by decide +kernel
theorem d6_190 : decode prog_81_method_2_code 190 = .ok (.aload_n 0, 1) := by decide +kernel
theorem d6_191 : decode prog_81_method_2_code 191 = .ok (.getfield 24, 3) := by decide +kernel
theorem d6_194 : decode prog_81_method_2_code 194 = .ok (.iconst 1, 1) := by decide +kernel
theorem d6_195 : decode prog_81_method_2_code 195 = .ok (.isub, 1) := by decide +kernel
theorem d6_196 : decode prog_81_method_2_code 196 = .ok (.ireturn, 1) := by decide +kernel
theorem d7_0 : decode prog_81_method_6_code 0 = .ok (.iload_n 1, 1) := by decide +kernel
theorem d7_1 : decode prog_81_method_6_code 1 = .ok (.ldc 41, 2) := by decide +kernel
theorem d7_3 : decode prog_81_method_6_code 3 = .ok (.imul, 1) := by decide +kernel
theorem d7_4 : decode prog_81_method_6_code 4 = .ok (.lload_n 2, 1) := by decide +kernel
theorem d7_5 : decode prog_81_method_6_code 5 = .ok (.invokestatic 42, 3) := by decide +kernel
theorem d7_8 : decode prog_81_method_6_code 8 = .ok (.iadd, 1) := by decide +kernel
theorem d7_9 : decode prog_81_method_6_code 9 = .ok (.ldc 48, 2) := by decide +kernel
theorem d7_11 : decode prog_81_method_6_code 11 = .ok (.imul, 1) := by decide +kernel
theorem d7_12 : decode prog_81_method_6_code 12 = .ok (.istore 4, 2) := by decide +kernel
theorem d7_14 : decode prog_81_method_6_code 14 = .ok (.iload 4, 2) := by decide +kernel
theorem d7_16 : decode prog_81_method_6_code 16 = .ok (.iload 4, 2) := by decide +kernel
theorem d7_18 : decode prog_81_method_6_code 18 = .ok (.bipush 16, 2) := by decide +kernel
theorem d7_20 : decode prog_81_method_6_code 20 = .ok (.iushr, 1) := by decide +kernel
theorem d7_21 : decode prog_81_method_6_code 21 = .ok (.ixor, 1) := by decide +kernel
theorem d7_22 : decode prog_81_method_6_code 22 = .ok (.aload_n 0, 1) := by decide +kernel
theorem d7_23 : decode prog_81_method_6_code 23 = .ok (.getfield 17, 3) := by decide +kernel
theorem d7_26 : decode prog_81_method_6_code 26 = .ok (.arraylength, 1) := by decide +kernel
theorem d7_27 : decode prog_81_method_6_code 27 = .ok (.iconst 1, 1) := by decide +kernel
theorem d7_28 : decode prog_81_method_6_code 28 = .ok (.isub, 1) := by decide +kernel
theorem d7_29 : decode prog_81_method_6_code 29 = .ok (.iand, 1) := by decide +kernel
theorem d7_30 : decode prog_81_method_6_code 30 = .ok (.ireturn, 1) := by decide +kernel
theorem d8_0 : decode jdk_35_method_36_code 0 = .ok (.lload_n 0, 1) := by decide +kernel
theorem d8_1 : decode jdk_35_method_36_code 1 = .ok (.lload_n 0, 1) := by decide +kernel
theorem d8_2 : decode jdk_35_method_36_code 2 = .ok (.bipush 32, 2) := by decide +kernel
theorem d8_4 : decode jdk_35_method_36_code 4 = .ok (.lushr, 1) := by decide +kernel
theorem d8_5 : decode jdk_35_method_36_code 5 = .ok (.lxor, 1) := by decide +kernel
theorem d8_6 : decode jdk_35_method_36_code 6 = .ok (.l2i, 1) := by decide +kernel
theorem d8_7 : decode jdk_35_method_36_code 7 = .ok (.ireturn, 1) := by decide +kernel
theorem d9_0 : decode prog_81_method_3_code 0 = .ok (.aload_n 0, 1) := by decide +kernel
theorem d9_1 : decode prog_81_method_3_code 1 = .ok (.getfield 24, 3) := by decide +kernel
theorem d9_4 : decode prog_81_method_3_code 4 = .ok (.ireturn, 1) := by decide +kernel
theorem d10_0 : decode prog_81_method_4_code 0 = .ok (.aload_n 0, 1) := by decide +kernel
theorem d10_1 : decode prog_81_method_4_code 1 = .ok (.getfield 9, 3) := by decide +kernel
theorem d10_4 : decode prog_81_method_4_code 4 = .ok (.iload_n 1, 1) := by decide +kernel
theorem d10_5 : decode prog_81_method_4_code 5 = .ok (.iaload, 1) := by decide +kernel
theorem d10_6 : decode prog_81_method_4_code 6 = .ok (.ireturn, 1) := by decide +kernel
theorem d11_0 : decode prog_81_method_5_code 0 = .ok (.aload_n 0, 1) := by decide +kernel
theorem d11_1 : decode prog_81_method_5_code 1 = .ok (.getfield 13, 3) := by decide +kernel
theorem d11_4 : decode prog_81_method_5_code 4 = .ok (.iload_n 1, 1) := by decide +kernel
theorem d11_5 : decode prog_81_method_5_code 5 = .ok (.laload, 1) := by decide +kernel
theorem d11_6 : decode prog_81_method_5_code 6 = .ok (.lreturn, 1) := by decide +kernel
abbrev own_Pr : Type := Int32 × Int64
/-- what Long.hashCode returns -/
def own_lh (v : Int64) : Int32 := (v ^^^ ((v.toUInt64 >>> ((32 : Int32) &&& 0x3f).toInt64.toUInt64).toInt64)).toInt32
def own_hs (f : Int32) (s : Int64) : Int32 := ((f * (-1640531527 : Int32)) + (own_lh s)) * (-2048144789 : Int32)
/-- what slot returns, with 32 slots -/
def own_slot (f : Int32) (s : Int64) : Int32 := ((own_hs f s) ^^^ (((own_hs f s).toUInt32 >>> ((16 : Int32) &&& 31).toUInt32).toInt32)) &&& ((32 : Int32) - (1 : Int32))
def own_H (x : own_Pr) : Nat := (own_slot x.1 x.2).toInt.toNat
theorem own_i0 : (0 : Int32).toInt = 0 := rfl
theorem own_i1 : (1 : Int32).toInt = 1 := rfl
theorem own_nat {N : Nat} (h : N ≤ 64) : (Int32.ofNat N).toInt = N := Int32.toInt_ofNat_of_lt (by omega)
theorem own_clamp {N : Nat} (h : N ≤ 64) : (Int32.ofNat N).toNatClampNeg = N := by
  show (Int32.ofNat N).toInt.toNat = N
  rw [own_nat h]; rfl
theorem own_inj {i k : Nat} (hi : i ≤ 64) (hk : k ≤ 64) (h : Int32.ofNat i = Int32.ofNat k) : i = k := by
  have := congrArg Int32.toInt h
  rw [own_nat hi, own_nat hk] at this
  omega
theorem own_eq0 {i : Nat} (hi : i ≤ 64) : Int32.ofNat i = (0 : Int32) ↔ i = 0 := ⟨fun h => own_inj hi (by omega) h, fun h => by rw [h]; rfl⟩
theorem own_ltI {i k : Nat} (hi : i ≤ 64) (hk : k ≤ 64) : Int32.ofNat i < Int32.ofNat k ↔ i < k := by
  rw [Int32.lt_iff_toInt_lt, own_nat hi, own_nat hk]; omega
theorem own_nn {N : Nat} (h : N ≤ 64) : ¬ Int32.ofNat N < 0 := by
  rw [Int32.lt_iff_toInt_lt, own_nat h, own_i0]; omega
theorem own_inc (i : Nat) : Int32.ofNat i + (1 : Int32) = Int32.ofNat (i + 1) := (Int32.ofNat_add i 1).symm
theorem own_dec (i : Nat) : Int32.ofNat (i + 1) - (1 : Int32) = Int32.ofNat i := by
  rw [← own_inc, Int32.add_sub_cancel]
theorem own_m31 (x : Int32) : 0 ≤ (x &&& ((32 : Int32) - (1 : Int32))).toInt ∧ (x &&& ((32 : Int32) - (1 : Int32))).toInt = x.toInt % 32 := by
  have e : ((32 : Int32) - (1 : Int32)) = 31 := by decide
  rw [e]
  have := c_mask x 31 5 (by decide) (by decide)
  omega
theorem own_slotH (x : own_Pr) : own_H x < 32 ∧ own_slot x.1 x.2 = Int32.ofNat ((own_H x + 0) % 32) := by
  have h := own_m31 ((own_hs x.1 x.2) ^^^ (((own_hs x.1 x.2).toUInt32 >>> ((16 : Int32) &&& 31).toUInt32).toInt32))
  have e : (own_slot x.1 x.2).toInt = own_H x := by
    show (own_slot x.1 x.2).toInt = ((own_slot x.1 x.2).toInt.toNat : Int)
    unfold own_slot
    omega
  have hl : own_H x < 32 := by
    have h2 : (own_slot x.1 x.2).toInt < 32 := by unfold own_slot; omega
    omega
  refine ⟨hl, Int32.toInt_inj.mp ?_⟩
  rw [e, own_nat (by omega)]
  omega
theorem own_next {n : Nat} : (Int32.ofNat (n % 32) + (1 : Int32)) &&& ((32 : Int32) - (1 : Int32)) = Int32.ofNat ((n + 1) % 32) := by
  apply Int32.toInt_inj.mp
  rw [(own_m31 _).2, own_inc, own_nat (by omega), own_nat (by omega)]
  omega
def own_cnt (sl : Nat → Int32) : Nat → Nat
  | 0 => 0
  | k + 1 => own_cnt sl k + (if sl k = 0 then 0 else 1)
theorem own_cnt_all (sl : Nat → Int32) : ∀ k, (∀ j, j < k → sl j ≠ 0) → own_cnt sl k = k
  | 0, _ => rfl
  | k + 1, h => by
    show own_cnt sl k + _ = _
    rw [own_cnt_all sl k fun j q => h j (by omega), if_neg (h k (by omega))]
theorem own_cnt_up (sl : Nat → Int32) (p : Nat) (v : Int32) (hp : sl p = 0) (hv : v ≠ 0) : ∀ k, own_cnt (fun j => if j = p then v else sl j) k = own_cnt sl k + (if p < k then 1 else 0)
  | 0 => rfl
  | k + 1 => by
    show own_cnt (fun j => if j = p then v else sl j) k + (if (if k = p then v else sl k) = 0 then 0 else 1) = own_cnt sl k + (if sl k = 0 then 0 else 1) + _
    rw [own_cnt_up sl p v hp hv k]
    by_cases q : k = p
    · subst q
      rw [if_pos rfl, if_neg hv, if_pos hp, if_neg (by omega), if_pos (by omega)]
    · rw [if_neg q]
      by_cases r : p < k
      · rw [if_pos r, if_pos (by omega : p < k + 1)]; omega
      · rw [if_neg r, if_neg (by omega : ¬ p < k + 1)]; omega
/-- what the table's slots say of its pairs -/
def own_Inv (ps : List own_Pr) (sl : Nat → Int32) : Prop :=
  (∀ j, j < 32 → sl j = 0 ∨ ∃ i, i < ps.length ∧ sl j = Int32.ofNat (i + 1)) ∧
  (∀ i x, ps[i]? = some x → ∃ d, d < 32 ∧ sl ((own_H x + d) % 32) = Int32.ofNat (i + 1) ∧ ∀ d', d' < d → sl ((own_H x + d') % 32) ≠ 0) ∧
  own_cnt sl 32 ≤ ps.length
theorem own_inv0 : own_Inv [] (fun _ => 0) := by
  refine ⟨fun _ _ => Or.inl rfl, fun i x h => by simp at h, ?_⟩
  decide
theorem own_full {ps : List own_Pr} {sl : Nat → Int32} (I : own_Inv ps sl) (hn : ps.length < 32) {s : Nat} (hs : s < 32) (h : ∀ d, d < 32 → sl ((s + d) % 32) ≠ 0) : False := by
  have := own_cnt_all sl 32 fun j hj => by
    have := h ((j + 32 - s) % 32) (by omega)
    rwa [show (s + (j + 32 - s) % 32) % 32 = j by omega] at this
  have := I.2.2
  omega
/-- the d-th probe missed -/
def own_Miss (ps : List own_Pr) (sl : Nat → Int32) (x : own_Pr) (d : Nat) : Prop := ∀ d', d' < d → sl ((own_H x + d') % 32) ≠ 0 ∧ ∀ i y, sl ((own_H x + d') % 32) = Int32.ofNat (i + 1) → ps[i]? = some y → y ≠ x
theorem own_notin {ps : List own_Pr} {sl : Nat → Int32} (I : own_Inv ps sl) {x : own_Pr} {d : Nat} (hz : sl ((own_H x + d) % 32) = 0) (hm : own_Miss ps sl x d) (hn : ps.length ≤ 60) : ∀ i : Nat, ps[i]? ≠ some x := fun i hi => by
  obtain ⟨d2, h1, h2, h3⟩ := I.2.1 i x hi
  have hl : i < ps.length := (List.getElem?_eq_some_iff.mp hi).1
  rcases Nat.lt_trichotomy d d2 with q | q | q
  · exact h3 d q hz
  · subst q
    rw [hz] at h2
    have := (own_eq0 (by omega)).mp h2.symm
    omega
  · exact (hm d2 q).2 i x h2 hi rfl
theorem own_ins {ps : List own_Pr} {sl : Nat → Int32} (I : own_Inv ps sl) {x : own_Pr} {d : Nat} (hd : d < 32) (hz : sl ((own_H x + d) % 32) = 0) (hm : own_Miss ps sl x d) (hn : ps.length ≤ 60) :
    own_Inv (ps ++ [x]) (fun j => if j = (own_H x + d) % 32 then Int32.ofNat (ps.length + 1) else sl j) := by
  have hnz : Int32.ofNat (ps.length + 1) ≠ 0 := fun q => by have := (own_eq0 (by omega)).mp q; omega
  refine ⟨fun j hj => ?_, fun i y hy => ?_, ?_⟩
  · by_cases q : j = (own_H x + d) % 32
    · right; exact ⟨ps.length, by simp, by simp only [if_pos q]⟩
    · simp only [if_neg q]
      rcases I.1 j hj with h | ⟨i, h1, h2⟩
      · exact Or.inl h
      · exact Or.inr ⟨i, by simp; omega, h2⟩
  · by_cases hi : i < ps.length
    · rw [List.getElem?_append_left hi] at hy
      obtain ⟨d2, h1, h2, h3⟩ := I.2.1 i y hy
      refine ⟨d2, h1, ?_, fun d' hd' => ?_⟩
      · by_cases q : (own_H y + d2) % 32 = (own_H x + d) % 32
        · rw [q, hz] at h2
          have := (own_eq0 (by omega)).mp h2.symm
          omega
        · simp only [if_neg q]; exact h2
      · by_cases q : (own_H y + d') % 32 = (own_H x + d) % 32
        · simp only [if_pos q]; exact hnz
        · simp only [if_neg q]; exact h3 d' hd'
    · have hl : i = ps.length := by
        have := (List.getElem?_eq_some_iff.mp hy).1
        simp at this
        omega
      subst hl
      have : x = y := by simpa using hy
      subst this
      refine ⟨d, hd, if_pos rfl, fun d' hd' => ?_⟩
      by_cases q : (own_H x + d') % 32 = (own_H x + d) % 32
      · simp only [if_pos q]; exact hnz
      · simp only [if_neg q]; exact (hm d' hd').1
  · rw [own_cnt_up sl _ _ hz hnz, if_pos (by omega)]
    have := I.2.2
    simp
    omega
/-- x is looked up in ps and added where it is missing: its number r, the pairs ps' -/
def own_Ix (ps : List own_Pr) (x : own_Pr) (r : Nat) (ps' : List own_Pr) : Prop := (ps[r]? = some x ∧ ps' = ps) ∨ ((∀ i : Nat, ps[i]? ≠ some x) ∧ r = ps.length ∧ ps' = ps ++ [x])
def own_Dis (ps : List own_Pr) : Prop := ∀ (i j : Nat) (x : own_Pr), ps[i]? = some x → ps[j]? = some x → i = j
theorem own_det {ps ps1 ps2 : List own_Pr} {x : own_Pr} {r1 r2 : Nat} (D : own_Dis ps) (h1 : own_Ix ps x r1 ps1) (h2 : own_Ix ps x r2 ps2) : r1 = r2 ∧ ps1 = ps2 := by
  rcases h1 with ⟨a1, rfl⟩ | ⟨a1, rfl, rfl⟩ <;> rcases h2 with ⟨b1, rfl⟩ | ⟨b1, rfl, rfl⟩
  · exact ⟨D _ _ _ a1 b1, rfl⟩
  · exact absurd a1 (b1 _)
  · exact absurd b1 (a1 _)
  · exact ⟨rfl, rfl⟩
theorem own_disIx {ps ps1 : List own_Pr} {x : own_Pr} {r1 : Nat} (D : own_Dis ps) (h1 : own_Ix ps x r1 ps1) : own_Dis ps1 := by
  rcases h1 with ⟨a1, rfl⟩ | ⟨a1, rfl, rfl⟩
  · exact D
  · intro i j y hi hj
    have li := (List.getElem?_eq_some_iff.mp hi).1
    have lj := (List.getElem?_eq_some_iff.mp hj).1
    simp at li lj
    by_cases qi : i < ps.length <;> by_cases qj : j < ps.length
    · rw [List.getElem?_append_left qi] at hi
      rw [List.getElem?_append_left qj] at hj
      exact D _ _ _ hi hj
    · rw [List.getElem?_append_left qi] at hi
      obtain rfl : j = ps.length := by omega
      have : x = y := by simpa using hj
      subst this
      exact absurd hi (a1 _)
    · rw [List.getElem?_append_left qj] at hj
      obtain rfl : i = ps.length := by omega
      have : x = y := by simpa using hi
      subst this
      exact absurd hj (a1 _)
    · omega
theorem own_atIx {ps ps1 : List own_Pr} {x : own_Pr} {r1 : Nat} (h1 : own_Ix ps x r1 ps1) : ps1[r1]? = some x := by
  rcases h1 with ⟨a1, rfl⟩ | ⟨a1, rfl, rfl⟩
  · exact a1
  · simp
theorem own_oldIx {ps ps1 : List own_Pr} {x y : own_Pr} {r1 i : Nat} (h1 : own_Ix ps x r1 ps1) (h : ps[i]? = some y) : ps1[i]? = some y := by
  rcases h1 with ⟨a1, rfl⟩ | ⟨a1, rfl, rfl⟩
  · exact h
  · rw [List.getElem?_append_left (List.getElem?_eq_some_iff.mp h).1]; exact h
theorem own_lenIx {ps ps1 : List own_Pr} {x : own_Pr} {r1 : Nat} (h1 : own_Ix ps x r1 ps1) : ps1.length ≤ ps.length + 1 := by
  rcases h1 with ⟨a1, rfl⟩ | ⟨a1, rfl, rfl⟩
  · omega
  · simp
theorem own_memIx {ps ps1 : List own_Pr} {x y : own_Pr} {r1 i : Nat} (h1 : own_Ix ps x r1 ps1) (h : ps1[i]? = some y) : ps[i]? = some y ∨ y = x := by
  rcases h1 with ⟨a1, rfl⟩ | ⟨a1, rfl, rfl⟩
  · exact Or.inl h
  · by_cases q : i < ps.length
    · rw [List.getElem?_append_left q] at h; exact Or.inl h
    · have hl := (List.getElem?_eq_some_iff.mp h).1
      simp at hl
      obtain rfl : i = ps.length := by omega
      right
      have : x = y := by simpa using h
      exact this.symm
theorem own_wrB {Z : State} {h h' : Heap} {a : Addr} {cl : Cell} {ty : FieldType} {sl : Nat} {v : Value} (Ar : Arr Z h a cl ty) (W : Wr h h' a sl v) :
    ∃ cl' : Cell, Arr Z h' a cl' ty ∧ cl'.slots.size = cl.slots.size ∧ cl'.slots[sl]? = some v ∧ ∀ j, j ≠ sl → cl'.slots[j]? = cl.slots[j]? := by
  obtain ⟨c', e1, -, -, e4, -, e6, e7⟩ := wr_at W Ar.1
  obtain ⟨q1, q2, -⟩ := e7 rfl
  exact ⟨c', by rw [q1]; exact Ar.same W, e4, q2, e6⟩
/-- below k the heap stands as it was -/
def own_Kp (k : Nat) (h h' : Heap) : Prop := k ≤ h.size ∧ h.size ≤ h'.size ∧ ∀ a, a < k → h'[a]? = h[a]?
theorem own_Kp_refl {k : Nat} {h : Heap} (q : k ≤ h.size) : own_Kp k h h := ⟨q, Nat.le_refl _, fun _ _ => rfl⟩
theorem own_Kp_ext {k : Nat} {h h' h'' : Heap} (K : own_Kp k h h') (E : Ext h' h'') : own_Kp k h h'' := by
  obtain ⟨k1, k2, k3⟩ := K
  refine ⟨k1, Nat.le_trans k2 E.1, fun a ha => ?_⟩
  have hl : a < h.size := Nat.lt_of_lt_of_le ha k1
  have e := k3 a ha
  rw [Array.getElem?_eq_getElem hl] at e ⊢
  exact E.2 a _ e
theorem own_Kp_wr {k : Nat} {h h' h'' : Heap} {a : Nat} {sl : Nat} {v : Value} (K : own_Kp k h h') (W : Wr h' h'' a sl v) (q : k ≤ a) : own_Kp k h h'' := by
  obtain ⟨k1, k2, k3⟩ := K
  refine ⟨k1, by rw [W.size]; exact k2, fun b hb => ?_⟩
  rw [← k3 b hb]
  obtain ⟨cell, w1, w2, w3, rfl⟩ := W
  exact Array.getElem?_setIfInBounds_ne (fun e => Nat.lt_irrefl _ (Nat.lt_of_le_of_lt (e ▸ q) hb))
theorem own_Kp_trans {k : Nat} {h h' h'' : Heap} (K : own_Kp k h h') (K' : own_Kp k h' h'') : own_Kp k h h'' :=
  ⟨K.1, Nat.le_trans K.2.1 K'.2.1, fun a ha => (K'.2.2 a ha).trans (K.2.2 a ha)⟩
/-- an int[] of length N that holds the pairs' first halves -/
def own_Af (Z : State) (h : Heap) (a : Nat) (N : Nat) (ps : List own_Pr) : Prop := ∃ cl : Cell, Arr Z h a cl .int ∧ cl.slots.size = (Int32.ofNat N).toNatClampNeg ∧ ∀ (j : Nat) (y : own_Pr), ps[j]? = some y → cl.slots[j]? = some (.int y.1)
/-- a long[] of length N that holds the pairs' second halves -/
def own_As (Z : State) (h : Heap) (a : Nat) (N : Nat) (ps : List own_Pr) : Prop := ∃ cl : Cell, Arr Z h a cl .long ∧ cl.slots.size = (Int32.ofNat N).toNatClampNeg ∧ ∀ (j : Nat) (y : own_Pr), ps[j]? = some y → cl.slots[j]? = some (.long y.2)
/-- an int[] of 32 places -/
def own_Sl (Z : State) (h : Heap) (a : Nat) (sl : Nat → Int32) : Prop := ∃ cl : Cell, Arr Z h a cl .int ∧ cl.slots.size = (Int32.ofNat 32).toNatClampNeg ∧ ∀ j : Nat, j < 32 → cl.slots[j]? = some (.int (sl j))
section Arrays
variable {Z : State} {h h' : Heap} {a b : Nat} {N k : Nat} {ps : List own_Pr} {sl : Nat → Int32} {i : Nat} {v : Value}
theorem own_Af_lt (F : own_Af Z h a N ps) : a < h.size := by obtain ⟨cl, A, -⟩ := F; exact A.lt
theorem own_As_lt (F : own_As Z h a N ps) : a < h.size := by obtain ⟨cl, A, -⟩ := F; exact A.lt
theorem own_Sl_lt (F : own_Sl Z h a sl) : a < h.size := by obtain ⟨cl, A, -⟩ := F; exact A.lt
theorem own_Af_ext (F : own_Af Z h a N ps) (E : Ext h h') : own_Af Z h' a N ps := by obtain ⟨cl, A, r⟩ := F; exact ⟨cl, A.ext E, r⟩
theorem own_As_ext (F : own_As Z h a N ps) (E : Ext h h') : own_As Z h' a N ps := by obtain ⟨cl, A, r⟩ := F; exact ⟨cl, A.ext E, r⟩
theorem own_Sl_ext (F : own_Sl Z h a sl) (E : Ext h h') : own_Sl Z h' a sl := by obtain ⟨cl, A, r⟩ := F; exact ⟨cl, A.ext E, r⟩
theorem own_Af_other (F : own_Af Z h a N ps) (W : Wr h h' b i v) (q : a ≠ b) : own_Af Z h' a N ps := by obtain ⟨cl, A, r⟩ := F; exact ⟨cl, A.other W q, r⟩
theorem own_As_other (F : own_As Z h a N ps) (W : Wr h h' b i v) (q : a ≠ b) : own_As Z h' a N ps := by obtain ⟨cl, A, r⟩ := F; exact ⟨cl, A.other W q, r⟩
theorem own_Sl_other (F : own_Sl Z h a sl) (W : Wr h h' b i v) (q : a ≠ b) : own_Sl Z h' a sl := by obtain ⟨cl, A, r⟩ := F; exact ⟨cl, A.other W q, r⟩
theorem own_Af_kp (F : own_Af Z h a N ps) (K : own_Kp k h h') (q : a < k) : own_Af Z h' a N ps := by obtain ⟨cl, A, r⟩ := F; exact ⟨cl, ⟨(K.2.2 a q).trans A.1, A.2⟩, r⟩
theorem own_As_kp (F : own_As Z h a N ps) (K : own_Kp k h h') (q : a < k) : own_As Z h' a N ps := by obtain ⟨cl, A, r⟩ := F; exact ⟨cl, ⟨(K.2.2 a q).trans A.1, A.2⟩, r⟩
theorem own_at_push {x : own_Pr} {cl cl' : Cell} {f : own_Pr → Value} (H : ∀ (j : Nat) (y : own_Pr), ps[j]? = some y → cl.slots[j]? = some (f y)) (H1 : cl'.slots[ps.length]? = some (f x)) (H2 : ∀ j, j ≠ ps.length → cl'.slots[j]? = cl.slots[j]?) :
    ∀ (j : Nat) (y : own_Pr), (ps ++ [x])[j]? = some y → cl'.slots[j]? = some (f y) := fun j y hy => by
  by_cases q : j < ps.length
  · rw [List.getElem?_append_left q] at hy
    rw [H2 j (by omega)]
    exact H j y hy
  · have hl := (List.getElem?_eq_some_iff.mp hy).1
    simp at hl
    obtain rfl : j = ps.length := by omega
    have : x = y := by simpa using hy
    subst this
    exact H1
theorem own_Af_push {x : own_Pr} {cl : Cell} (A : Arr Z h a cl .int) (S : cl.slots.size = (Int32.ofNat N).toNatClampNeg) (H : ∀ (j : Nat) (y : own_Pr), ps[j]? = some y → cl.slots[j]? = some (.int y.1)) (W : Wr h h' a i (.int x.1)) (hi : i = ps.length) : own_Af Z h' a N (ps ++ [x]) := by
  subst hi
  obtain ⟨cl', A', S', H1, H2⟩ := own_wrB A W
  exact ⟨cl', A', S'.trans S, own_at_push (f := fun y => .int y.1) H H1 H2⟩
theorem own_As_push {x : own_Pr} {cl : Cell} (A : Arr Z h a cl .long) (S : cl.slots.size = (Int32.ofNat N).toNatClampNeg) (H : ∀ (j : Nat) (y : own_Pr), ps[j]? = some y → cl.slots[j]? = some (.long y.2)) (W : Wr h h' a i (.long x.2)) (hi : i = ps.length) : own_As Z h' a N (ps ++ [x]) := by
  subst hi
  obtain ⟨cl', A', S', H1, H2⟩ := own_wrB A W
  exact ⟨cl', A', S'.trans S, own_at_push (f := fun y => .long y.2) H H1 H2⟩
theorem own_Sl_set {cl : Cell} {w : Int32} (A : Arr Z h a cl .int) (S : cl.slots.size = (Int32.ofNat 32).toNatClampNeg) (H : ∀ j : Nat, j < 32 → cl.slots[j]? = some (.int (sl j))) (W : Wr h h' a i (.int w)) : own_Sl Z h' a (fun j => if j = i then w else sl j) := by
  obtain ⟨cl', A', S', H1, H2⟩ := own_wrB A W
  refine ⟨cl', A', S'.trans S, fun j hj => ?_⟩
  by_cases q : j = i
  · subst q; simp only [if_pos rfl]; exact H1
  · simp only [if_neg q]; rw [H2 j q]; exact H j hj
theorem own_Af_new {kc : ClassId} (A : Arr Z h a (newA kc .int (Int32.ofNat N)) .int) : own_Af Z h a N [] := ⟨_, A, sz_new _ _ _, fun j y hy => by simp at hy⟩
theorem own_As_new {kc : ClassId} (A : Arr Z h a (newA kc .long (Int32.ofNat N)) .long) : own_As Z h a N [] := ⟨_, A, sz_new _ _ _, fun j y hy => by simp at hy⟩
theorem own_Sl_new {kc : ClassId} (A : Arr Z h a (newA kc .int (Int32.ofNat 32)) .int) : own_Sl Z h a (fun _ => 0) := ⟨_, A, sz_new _ _ _, fun j hj => by
  show (Array.replicate (Int32.ofNat 32).toNatClampNeg (defaultValue .int))[j]? = _
  rw [Array.getElem?_replicate, if_pos (by rw [own_clamp (by omega)]; exact hj)]
  rfl⟩
end Arrays
/-- the table: its fields, its arrays, its pairs -/
def own_Tab (Z : State) (h : Heap) (t : Nat) (ps : List own_Pr) : Prop := ∃ (fa sb sc : Nat) (sl : Nat → Int32), Exa Z h t "com/example/window_payoff_solver/windowpayoffsolver/window/PairTable" ∧ Fld Z h t "com/example/window_payoff_solver/windowpayoffsolver/window/PairTable" "firsts" "[I" (.ref fa) ∧ Fld Z h t "com/example/window_payoff_solver/windowpayoffsolver/window/PairTable" "seconds" "[J" (.ref sb) ∧ Fld Z h t "com/example/window_payoff_solver/windowpayoffsolver/window/PairTable" "slots" "[I" (.ref sc) ∧ Fld Z h t "com/example/window_payoff_solver/windowpayoffsolver/window/PairTable" "size" "I" (.int (Int32.ofNat ps.length)) ∧ t < fa ∧ fa < sb ∧ sb < sc ∧ own_Af Z h fa 16 ps ∧ own_As Z h sb 16 ps ∧ own_Sl Z h sc sl ∧ own_Inv ps sl
theorem own_Tab_exa {Z : State} {h : Heap} {t : Addr} {ps : List own_Pr} (T : own_Tab Z h t ps) : Exa Z h t "com/example/window_payoff_solver/windowpayoffsolver/window/PairTable" := by obtain ⟨_, _, _, _, E, -⟩ := T; exact E
def own_pf (k a c : Int32) : Int32 := if k = (0 : Int32) then a else if k = (2 : Int32) then a else c
def own_ps (k : Int32) (b d : Int64) : Int64 := if k = (0 : Int32) then b else if k = (3 : Int32) then b else d
theorem ef_1 (m : MethodId) (x0 : Int32) (x1 : Int32) (x2 : Int32) : entryFrame m #[(.int x0), (.int x1), (.int x2)] 3 = mkF m 0 #[.val (.int x0), .val (.int x1), .val (.int x2)] [] := by first | (simp [entryFrame, mkF, argsToLocals, Value.category]; done) | rfl
set_option maxRecDepth 65536 in
set_option maxHeartbeats 40000000 in
theorem rmPF (l : Launch) (Z : State) (a0 : Array Value) (hw : ∀ d ∈ tables_1, d.before a0 Z = true) (ws : List Jvm.Cond) (k : Int32) (x : Int32) (y : Int32) (h0 : Heap) (n0 : Nat) (Z0 : n0 ≤ h0.size)  :
    MetFree l (⟨"com/example/window_payoff_solver/windowpayoffsolver/window/PairTableIndexPinLaw", "pickFirst", "(III)I"⟩ : MethodName) (head1 (Jvm.Cond.code (⟨"com/example/window_payoff_solver/windowpayoffsolver/window/PairTableIndexPinLaw", "pickFirst", "(III)I"⟩ : MethodName) method_2_code 3 (some .int) :: ws) ({ frames := 0, cells := 0, slots := 0, locals := 0 } : Room)) (fun a U => a = #[(.int k), (.int x), (.int y)] ∧ Z.Warmed39 U.vm ∧ U.heap = h0) (fun _ _ _ _ _ => True) (fun _ U o U' => ∃ v L, o = .returned v ∧ (own_pure (some (.int (own_pf k x y))) h0 n0) v U'.heap L ∧ FrameEnd U o U' L ({ frames := 0, cells := 0, slots := 0, locals := 0 } : Room).cells ({ frames := 0, cells := 0, slots := 0, locals := 0 } : Room).slots) := by
  refine MetFree.of_bodySF (plainFor_of_name pn_0) hisR ?_
  intro p e s m args below meth c s₁ Bd hml0 hP hK
  obtain ⟨rfl, hZ, hh⟩ := hP
  have hx := Bd.exec
  have hby := Bd.bytes
  have hml : c.maxLocals = 3 := hml0
  have hown : s.vm.findClass "com/example/window_payoff_solver/windowpayoffsolver/window/PairTableIndexPinLaw" = some m.cls := findClass_of_methodNamed Bd.named
  have hnm := (name_of_methodNamed Bd.named Bd.method).1
  have hret := Bd.returns
  have hlk : meth.locks = false := Bd.notSynchronized
  have X0 : Stand p l e ({ frames := 0, cells := 0, slots := 0, locals := 0 } : Room) s m #[(.int k), (.int x), (.int y)] below meth c s₁ [] 0 0 := Stand.of_body Bd
  have e0 : s₁.heap = h0 := by rw [← hh, Bd.state]; rfl
  have N0 := Fr.nil n0
  show own_Go p e below (own_P (own_pure (some (.int (own_pf k x y))) h0 n0) ({ frames := 0, cells := 0, slots := 0, locals := 0 } : Room) s) s₁ (entryFrame m #[(.int k), (.int x), (.int y)] 3)
  rw [ef_1 m k x y]
  show own_Go p e below _ s₁ (mkF m 0 #[.val (.int k), .val (.int x), .val (.int y)] [])
  refine own_go (fun _ k => XS.iloadN X0.here hx rfl (hb hby d1_0) rfl  k) ?_
  show own_Go p e below _ s₁ (mkF m 1 #[.val (.int k), .val (.int x), .val (.int y)] [(.int k)])
  by_cases h1 : k = (0 : Int32)
  · refine own_go (fun _ k => XS.ifYes X0.here hx rfl (pc0 := 1) (pc' := 9) rfl (hb hby d1_1) rfl ((if0 _ _).trans (teq h1).1) (by decide) (by decide) k) ?_
    show own_Go p e below _ s₁ (mkF m 9 #[.val (.int k), .val (.int x), .val (.int y)] [])
    refine own_go (fun _ k => XS.iloadN X0.here hx rfl (hb hby d1_9) rfl  k) ?_
    show own_Go p e below _ s₁ (mkF m 10 #[.val (.int k), .val (.int x), .val (.int y)] [(.int x)])
    refine own_go (fun _ k => XS.goto X0.here hx rfl (pc0 := 10) (pc' := 14) rfl (hb hby d1_10) (by decide) (by decide) k) ?_
    show own_Go p e below _ s₁ (mkF m 14 #[.val (.int k), .val (.int x), .val (.int y)] [(.int x)])
    exact own_endI X0 hx hret hlk (hb hby d1_14) (by decide) (by decide) ⟨by rw [own_pf, if_pos h1], N0, e0⟩
  · refine own_go (fun _ k => XS.ifNo X0.here hx rfl (hb hby d1_1) rfl ((if0 _ _).trans (feq h1).1) k) ?_
    show own_Go p e below _ s₁ (mkF m 4 #[.val (.int k), .val (.int x), .val (.int y)] [])
    refine own_go (fun _ k => XS.iloadN X0.here hx rfl (hb hby d1_4) rfl  k) ?_
    show own_Go p e below _ s₁ (mkF m 5 #[.val (.int k), .val (.int x), .val (.int y)] [(.int k)])
    refine own_go (fun _ k => XS.iconst X0.here hx rfl (hb hby d1_5) k) ?_
    show own_Go p e below _ s₁ (mkF m 6 #[.val (.int k), .val (.int x), .val (.int y)] [(.int (2 : Int32)), (.int k)])
    by_cases h2 : k = (2 : Int32)
    · refine own_go (fun _ k => XS.icmpNo X0.here hx rfl (hb hby d1_6) rfl (teq h2).2 k) ?_
      show own_Go p e below _ s₁ (mkF m 9 #[.val (.int k), .val (.int x), .val (.int y)] [])
      refine own_go (fun _ k => XS.iloadN X0.here hx rfl (hb hby d1_9) rfl  k) ?_
      show own_Go p e below _ s₁ (mkF m 10 #[.val (.int k), .val (.int x), .val (.int y)] [(.int x)])
      refine own_go (fun _ k => XS.goto X0.here hx rfl (pc0 := 10) (pc' := 14) rfl (hb hby d1_10) (by decide) (by decide) k) ?_
      show own_Go p e below _ s₁ (mkF m 14 #[.val (.int k), .val (.int x), .val (.int y)] [(.int x)])
      exact own_endI X0 hx hret hlk (hb hby d1_14) (by decide) (by decide) ⟨by rw [own_pf, if_neg h1, if_pos h2], N0, e0⟩
    · refine own_go (fun _ k => XS.icmpYes X0.here hx rfl (pc0 := 6) (pc' := 13) rfl (hb hby d1_6) rfl (feq h2).2 (by decide) (by decide) k) ?_
      show own_Go p e below _ s₁ (mkF m 13 #[.val (.int k), .val (.int x), .val (.int y)] [])
      refine own_go (fun _ k => XS.iloadN X0.here hx rfl (hb hby d1_13) rfl  k) ?_
      show own_Go p e below _ s₁ (mkF m 14 #[.val (.int k), .val (.int x), .val (.int y)] [(.int y)])
      exact own_endI X0 hx hret hlk (hb hby d1_14) (by decide) (by decide) ⟨by rw [own_pf, if_neg h1, if_neg h2], N0, e0⟩
theorem ef_2 (m : MethodId) (x0 : Int32) (x1 : Int64) (x2 : Int64) : entryFrame m #[(.int x0), (.long x1), (.long x2)] 5 = mkF m 0 #[.val (.int x0), .val (.long x1), .second, .val (.long x2), .second] [] := by first | (simp [entryFrame, mkF, argsToLocals, Value.category]; done) | rfl
set_option maxRecDepth 65536 in
set_option maxHeartbeats 40000000 in
theorem rmPS (l : Launch) (Z : State) (a0 : Array Value) (hw : ∀ d ∈ tables_1, d.before a0 Z = true) (ws : List Jvm.Cond) (k : Int32) (x : Int64) (y : Int64) (h0 : Heap) (n0 : Nat) (Z0 : n0 ≤ h0.size)  :
    MetFree l (⟨"com/example/window_payoff_solver/windowpayoffsolver/window/PairTableIndexPinLaw", "pickSecond", "(IJJ)J"⟩ : MethodName) (head1 (Jvm.Cond.code (⟨"com/example/window_payoff_solver/windowpayoffsolver/window/PairTableIndexPinLaw", "pickSecond", "(IJJ)J"⟩ : MethodName) method_3_code 5 (some .long) :: ws) ({ frames := 0, cells := 0, slots := 0, locals := 0 } : Room)) (fun a U => a = #[(.int k), (.long x), (.long y)] ∧ Z.Warmed39 U.vm ∧ U.heap = h0) (fun _ _ _ _ _ => True) (fun _ U o U' => ∃ v L, o = .returned v ∧ (own_pure (some (.long (own_ps k x y))) h0 n0) v U'.heap L ∧ FrameEnd U o U' L ({ frames := 0, cells := 0, slots := 0, locals := 0 } : Room).cells ({ frames := 0, cells := 0, slots := 0, locals := 0 } : Room).slots) := by
  refine MetFree.of_bodySF (plainFor_of_name pn_0) hisR ?_
  intro p e s m args below meth c s₁ Bd hml0 hP hK
  obtain ⟨rfl, hZ, hh⟩ := hP
  have hx := Bd.exec
  have hby := Bd.bytes
  have hml : c.maxLocals = 5 := hml0
  have hown : s.vm.findClass "com/example/window_payoff_solver/windowpayoffsolver/window/PairTableIndexPinLaw" = some m.cls := findClass_of_methodNamed Bd.named
  have hnm := (name_of_methodNamed Bd.named Bd.method).1
  have hret := Bd.returns
  have hlk : meth.locks = false := Bd.notSynchronized
  have X0 : Stand p l e ({ frames := 0, cells := 0, slots := 0, locals := 0 } : Room) s m #[(.int k), (.long x), (.long y)] below meth c s₁ [] 0 0 := Stand.of_body Bd
  have e0 : s₁.heap = h0 := by rw [← hh, Bd.state]; rfl
  have N0 := Fr.nil n0
  show own_Go p e below (own_P (own_pure (some (.long (own_ps k x y))) h0 n0) ({ frames := 0, cells := 0, slots := 0, locals := 0 } : Room) s) s₁ (entryFrame m #[(.int k), (.long x), (.long y)] 5)
  rw [ef_2 m k x y]
  show own_Go p e below _ s₁ (mkF m 0 #[.val (.int k), .val (.long x), .second, .val (.long y), .second] [])
  refine own_go (fun _ k => XS.iloadN X0.here hx rfl (hb hby d2_0) rfl  k) ?_
  show own_Go p e below _ s₁ (mkF m 1 #[.val (.int k), .val (.long x), .second, .val (.long y), .second] [(.int k)])
  by_cases h1 : k = (0 : Int32)
  · refine own_go (fun _ k => XS.ifYes X0.here hx rfl (pc0 := 1) (pc' := 9) rfl (hb hby d2_1) rfl ((if0 _ _).trans (teq h1).1) (by decide) (by decide) k) ?_
    show own_Go p e below _ s₁ (mkF m 9 #[.val (.int k), .val (.long x), .second, .val (.long y), .second] [])
    refine own_go (fun _ k => XS.lloadN X0.here hx rfl (hb hby d2_9) rfl  k) ?_
    show own_Go p e below _ s₁ (mkF m 10 #[.val (.int k), .val (.long x), .second, .val (.long y), .second] [(.long x)])
    refine own_go (fun _ k => XS.goto X0.here hx rfl (pc0 := 10) (pc' := 14) rfl (hb hby d2_10) (by decide) (by decide) k) ?_
    show own_Go p e below _ s₁ (mkF m 14 #[.val (.int k), .val (.long x), .second, .val (.long y), .second] [(.long x)])
    exact own_endJ X0 hx hret hlk (hb hby d2_14) (by decide) (by decide) ⟨by rw [own_ps, if_pos h1], N0, e0⟩
  · refine own_go (fun _ k => XS.ifNo X0.here hx rfl (hb hby d2_1) rfl ((if0 _ _).trans (feq h1).1) k) ?_
    show own_Go p e below _ s₁ (mkF m 4 #[.val (.int k), .val (.long x), .second, .val (.long y), .second] [])
    refine own_go (fun _ k => XS.iloadN X0.here hx rfl (hb hby d2_4) rfl  k) ?_
    show own_Go p e below _ s₁ (mkF m 5 #[.val (.int k), .val (.long x), .second, .val (.long y), .second] [(.int k)])
    refine own_go (fun _ k => XS.iconst X0.here hx rfl (hb hby d2_5) k) ?_
    show own_Go p e below _ s₁ (mkF m 6 #[.val (.int k), .val (.long x), .second, .val (.long y), .second] [(.int (3 : Int32)), (.int k)])
    by_cases h2 : k = (3 : Int32)
    · refine own_go (fun _ k => XS.icmpNo X0.here hx rfl (hb hby d2_6) rfl (teq h2).2 k) ?_
      show own_Go p e below _ s₁ (mkF m 9 #[.val (.int k), .val (.long x), .second, .val (.long y), .second] [])
      refine own_go (fun _ k => XS.lloadN X0.here hx rfl (hb hby d2_9) rfl  k) ?_
      show own_Go p e below _ s₁ (mkF m 10 #[.val (.int k), .val (.long x), .second, .val (.long y), .second] [(.long x)])
      refine own_go (fun _ k => XS.goto X0.here hx rfl (pc0 := 10) (pc' := 14) rfl (hb hby d2_10) (by decide) (by decide) k) ?_
      show own_Go p e below _ s₁ (mkF m 14 #[.val (.int k), .val (.long x), .second, .val (.long y), .second] [(.long x)])
      exact own_endJ X0 hx hret hlk (hb hby d2_14) (by decide) (by decide) ⟨by rw [own_ps, if_neg h1, if_pos h2], N0, e0⟩
    · refine own_go (fun _ k => XS.icmpYes X0.here hx rfl (pc0 := 6) (pc' := 13) rfl (hb hby d2_6) rfl (feq h2).2 (by decide) (by decide) k) ?_
      show own_Go p e below _ s₁ (mkF m 13 #[.val (.int k), .val (.long x), .second, .val (.long y), .second] [])
      refine own_go (fun _ k => XS.lloadN X0.here hx rfl (hb hby d2_13) rfl  k) ?_
      show own_Go p e below _ s₁ (mkF m 14 #[.val (.int k), .val (.long x), .second, .val (.long y), .second] [(.long y)])
      exact own_endJ X0 hx hret hlk (hb hby d2_14) (by decide) (by decide) ⟨by rw [own_ps, if_neg h1, if_neg h2], N0, e0⟩
theorem ef_3 (m : MethodId) (x0 : Addr) (x1 : Addr) (x2 : Int32) (x3 : Int32) : entryFrame m #[(.ref x0), (.ref x1), (.int x2), (.int x3)] 4 = mkF m 0 #[.val (.ref x0), .val (.ref x1), .val (.int x2), .val (.int x3)] [] := by first | (simp [entryFrame, mkF, argsToLocals, Value.category]; done) | rfl
set_option maxRecDepth 65536 in
set_option maxHeartbeats 40000000 in
theorem rmSM (l : Launch) (Z : State) (a0 : Array Value) (hw : ∀ d ∈ tables_1, d.before a0 Z = true) (ws : List Jvm.Cond) (a1 a2 : Nat) (i j : Nat) (ps : List own_Pr) (y z : own_Pr) (h0 : Heap) (n0 : Nat) (Z0 : n0 ≤ h0.size) (hi : i < 4) (hj : j < 4) (A1 : own_Af Z h0 a1 4 ps) (A2 : own_As Z h0 a2 4 ps) (hy : ps[i]? = some y) (hz : ps[j]? = some z) :
    MetFree l (⟨"com/example/window_payoff_solver/windowpayoffsolver/window/PairTableIndexPinLaw", "same", "([I[JII)Z"⟩ : MethodName) (head1 (Jvm.Cond.code (⟨"com/example/window_payoff_solver/windowpayoffsolver/window/PairTableIndexPinLaw", "same", "([I[JII)Z"⟩ : MethodName) method_4_code 4 (some .boolean) :: ws) ({ frames := 0, cells := 0, slots := 0, locals := 0 } : Room)) (fun a U => a = #[(.ref a1), (.ref a2), (.int (Int32.ofNat i)), (.int (Int32.ofNat j))] ∧ Z.Warmed39 U.vm ∧ U.heap = h0) (fun _ _ _ _ _ => True) (fun _ U o U' => ∃ v L, o = .returned v ∧ (own_pure (some (.int (if y = z then 1 else 0))) h0 n0) v U'.heap L ∧ FrameEnd U o U' L ({ frames := 0, cells := 0, slots := 0, locals := 0 } : Room).cells ({ frames := 0, cells := 0, slots := 0, locals := 0 } : Room).slots) := by
  refine MetFree.of_bodySF (plainFor_of_name pn_0) hisR ?_
  intro p e s m args below meth c s₁ Bd hml0 hP hK
  obtain ⟨rfl, hZ, hh⟩ := hP
  have hx := Bd.exec
  have hby := Bd.bytes
  have hml : c.maxLocals = 4 := hml0
  have hown : s.vm.findClass "com/example/window_payoff_solver/windowpayoffsolver/window/PairTableIndexPinLaw" = some m.cls := findClass_of_methodNamed Bd.named
  have hnm := (name_of_methodNamed Bd.named Bd.method).1
  have hret := Bd.returns
  have hlk : meth.locks = false := Bd.notSynchronized
  have X0 : Stand p l e ({ frames := 0, cells := 0, slots := 0, locals := 0 } : Room) s m #[(.ref a1), (.ref a2), (.int (Int32.ofNat i)), (.int (Int32.ofNat j))] below meth c s₁ [] 0 0 := Stand.of_body Bd
  have e0 : s₁.heap = h0 := by rw [← hh, Bd.state]; rfl
  have N0 := Fr.nil n0
  show own_Go p e below (own_P (own_pure (some (.int (if y = z then 1 else 0))) h0 n0) ({ frames := 0, cells := 0, slots := 0, locals := 0 } : Room) s) s₁ (entryFrame m #[(.ref a1), (.ref a2), (.int (Int32.ofNat i)), (.int (Int32.ofNat j))] 4)
  rw [ef_3 m a1 a2 (Int32.ofNat i) (Int32.ofNat j)]
  show own_Go p e below _ s₁ (mkF m 0 #[.val (.ref a1), .val (.ref a2), .val (.int (Int32.ofNat i)), .val (.int (Int32.ofNat j))] [])
  obtain ⟨c1, Ar1, S1, H1⟩ := A1
  obtain ⟨c2, Ar2, S2, H2⟩ := A2
  refine own_go (fun _ k => XS.aloadN X0.here hx rfl (hb hby d3_0) rfl rfl k) ?_
  show own_Go p e below _ s₁ (mkF m 1 #[.val (.ref a1), .val (.ref a2), .val (.int (Int32.ofNat i)), .val (.int (Int32.ofNat j))] [(.ref a1)])
  refine own_go (fun _ k => XS.iloadN X0.here hx rfl (hb hby d3_1) rfl  k) ?_
  show own_Go p e below _ s₁ (mkF m 2 #[.val (.ref a1), .val (.ref a2), .val (.int (Int32.ofNat i)), .val (.int (Int32.ofNat j))] [(.int (Int32.ofNat i)), (.ref a1)])
  refine own_go (fun _ k => X0.iaload hx (j := (Int32.ofNat i)) (v := (.int y.1)) (by rw [e0]; exact Ar1.1) (State.isArrayOf_alike hZ.alike Ar1.2.1) Ar1.2.2 (inb_of S1 ⟨own_nn (by omega), (own_ltI (by omega) (by omega)).mpr (by omega)⟩) (by rw [own_clamp (by omega)]; exact H1 _ _ hy) (g := (mkF m 2 #[.val (.ref a1), .val (.ref a2), .val (.int (Int32.ofNat i)), .val (.int (Int32.ofNat j))] [(.int (Int32.ofNat i)), (.ref a1)])) rfl rfl (hb hby d3_2) _ k) ?_
  show own_Go p e below _ s₁ (mkF m 3 #[.val (.ref a1), .val (.ref a2), .val (.int (Int32.ofNat i)), .val (.int (Int32.ofNat j))] [(.int y.1)])
  refine own_go (fun _ k => XS.aloadN X0.here hx rfl (hb hby d3_3) rfl rfl k) ?_
  show own_Go p e below _ s₁ (mkF m 4 #[.val (.ref a1), .val (.ref a2), .val (.int (Int32.ofNat i)), .val (.int (Int32.ofNat j))] [(.ref a1), (.int y.1)])
  refine own_go (fun _ k => XS.iloadN X0.here hx rfl (hb hby d3_4) rfl  k) ?_
  show own_Go p e below _ s₁ (mkF m 5 #[.val (.ref a1), .val (.ref a2), .val (.int (Int32.ofNat i)), .val (.int (Int32.ofNat j))] [(.int (Int32.ofNat j)), (.ref a1), (.int y.1)])
  refine own_go (fun _ k => X0.iaload hx (j := (Int32.ofNat j)) (v := (.int z.1)) (by rw [e0]; exact Ar1.1) (State.isArrayOf_alike hZ.alike Ar1.2.1) Ar1.2.2 (inb_of S1 ⟨own_nn (by omega), (own_ltI (by omega) (by omega)).mpr (by omega)⟩) (by rw [own_clamp (by omega)]; exact H1 _ _ hz) (g := (mkF m 5 #[.val (.ref a1), .val (.ref a2), .val (.int (Int32.ofNat i)), .val (.int (Int32.ofNat j))] [(.int (Int32.ofNat j)), (.ref a1), (.int y.1)])) rfl rfl (hb hby d3_5) _ k) ?_
  show own_Go p e below _ s₁ (mkF m 6 #[.val (.ref a1), .val (.ref a2), .val (.int (Int32.ofNat i)), .val (.int (Int32.ofNat j))] [(.int z.1), (.int y.1)])
  by_cases h1 : y.1 = z.1
  · refine own_go (fun _ k => XS.icmpNo X0.here hx rfl (hb hby d3_6) rfl (teq h1).2 k) ?_
    show own_Go p e below _ s₁ (mkF m 9 #[.val (.ref a1), .val (.ref a2), .val (.int (Int32.ofNat i)), .val (.int (Int32.ofNat j))] [])
    refine own_go (fun _ k => XS.aloadN X0.here hx rfl (hb hby d3_9) rfl rfl k) ?_
    show own_Go p e below _ s₁ (mkF m 10 #[.val (.ref a1), .val (.ref a2), .val (.int (Int32.ofNat i)), .val (.int (Int32.ofNat j))] [(.ref a2)])
    refine own_go (fun _ k => XS.iloadN X0.here hx rfl (hb hby d3_10) rfl  k) ?_
    show own_Go p e below _ s₁ (mkF m 11 #[.val (.ref a1), .val (.ref a2), .val (.int (Int32.ofNat i)), .val (.int (Int32.ofNat j))] [(.int (Int32.ofNat i)), (.ref a2)])
    refine own_go (fun _ k => X0.laload hx (j := (Int32.ofNat i)) (v := (.long y.2)) (by rw [e0]; exact Ar2.1) (State.isArrayOf_alike hZ.alike Ar2.2.1) Ar2.2.2 (inb_of S2 ⟨own_nn (by omega), (own_ltI (by omega) (by omega)).mpr (by omega)⟩) (by rw [own_clamp (by omega)]; exact H2 _ _ hy) (g := (mkF m 11 #[.val (.ref a1), .val (.ref a2), .val (.int (Int32.ofNat i)), .val (.int (Int32.ofNat j))] [(.int (Int32.ofNat i)), (.ref a2)])) rfl rfl (hb hby d3_11) _ k) ?_
    show own_Go p e below _ s₁ (mkF m 12 #[.val (.ref a1), .val (.ref a2), .val (.int (Int32.ofNat i)), .val (.int (Int32.ofNat j))] [(.long y.2)])
    refine own_go (fun _ k => XS.aloadN X0.here hx rfl (hb hby d3_12) rfl rfl k) ?_
    show own_Go p e below _ s₁ (mkF m 13 #[.val (.ref a1), .val (.ref a2), .val (.int (Int32.ofNat i)), .val (.int (Int32.ofNat j))] [(.ref a2), (.long y.2)])
    refine own_go (fun _ k => XS.iloadN X0.here hx rfl (hb hby d3_13) rfl  k) ?_
    show own_Go p e below _ s₁ (mkF m 14 #[.val (.ref a1), .val (.ref a2), .val (.int (Int32.ofNat i)), .val (.int (Int32.ofNat j))] [(.int (Int32.ofNat j)), (.ref a2), (.long y.2)])
    refine own_go (fun _ k => X0.laload hx (j := (Int32.ofNat j)) (v := (.long z.2)) (by rw [e0]; exact Ar2.1) (State.isArrayOf_alike hZ.alike Ar2.2.1) Ar2.2.2 (inb_of S2 ⟨own_nn (by omega), (own_ltI (by omega) (by omega)).mpr (by omega)⟩) (by rw [own_clamp (by omega)]; exact H2 _ _ hz) (g := (mkF m 14 #[.val (.ref a1), .val (.ref a2), .val (.int (Int32.ofNat i)), .val (.int (Int32.ofNat j))] [(.int (Int32.ofNat j)), (.ref a2), (.long y.2)])) rfl rfl (hb hby d3_14) _ k) ?_
    show own_Go p e below _ s₁ (mkF m 15 #[.val (.ref a1), .val (.ref a2), .val (.int (Int32.ofNat i)), .val (.int (Int32.ofNat j))] [(.long z.2), (.long y.2)])
    refine own_go (fun _ k => XS.lcmp X0.here hx rfl (hb hby d3_15) rfl k) ?_
    show own_Go p e below _ s₁ (mkF m 16 #[.val (.ref a1), .val (.ref a2), .val (.int (Int32.ofNat i)), .val (.int (Int32.ofNat j))] [(.int (lcmpW y.2 z.2))])
    by_cases h2 : y.2 = z.2
    · refine own_go (fun _ k => XS.ifNo X0.here hx rfl (hb hby d3_16) rfl ((if0 _ _).trans (teq ((lw_eq _ _).mpr h2)).2) k) ?_
      show own_Go p e below _ s₁ (mkF m 19 #[.val (.ref a1), .val (.ref a2), .val (.int (Int32.ofNat i)), .val (.int (Int32.ofNat j))] [])
      refine own_go (fun _ k => XS.iconst X0.here hx rfl (hb hby d3_19) k) ?_
      show own_Go p e below _ s₁ (mkF m 20 #[.val (.ref a1), .val (.ref a2), .val (.int (Int32.ofNat i)), .val (.int (Int32.ofNat j))] [(.int (1 : Int32))])
      refine own_go (fun _ k => XS.goto X0.here hx rfl (pc0 := 20) (pc' := 24) rfl (hb hby d3_20) (by decide) (by decide) k) ?_
      show own_Go p e below _ s₁ (mkF m 24 #[.val (.ref a1), .val (.ref a2), .val (.int (Int32.ofNat i)), .val (.int (Int32.ofNat j))] [(.int (1 : Int32))])
      exact own_endZ X0 hx hret hlk (hb hby d3_24) rfl (by decide) (by decide) ⟨by rw [if_pos (Prod.ext h1 h2)], N0, e0⟩
    · refine own_go (fun _ k => XS.ifYes X0.here hx rfl (pc0 := 16) (pc' := 23) rfl (hb hby d3_16) rfl ((if0 _ _).trans (feq ((not_congr (lw_eq _ _)).mpr h2)).2) (by decide) (by decide) k) ?_
      show own_Go p e below _ s₁ (mkF m 23 #[.val (.ref a1), .val (.ref a2), .val (.int (Int32.ofNat i)), .val (.int (Int32.ofNat j))] [])
      refine own_go (fun _ k => XS.iconst X0.here hx rfl (hb hby d3_23) k) ?_
      show own_Go p e below _ s₁ (mkF m 24 #[.val (.ref a1), .val (.ref a2), .val (.int (Int32.ofNat i)), .val (.int (Int32.ofNat j))] [(.int (0 : Int32))])
      exact own_endZ X0 hx hret hlk (hb hby d3_24) rfl (by decide) (by decide) ⟨by rw [if_neg (fun q => h2 (congrArg Prod.snd q))], N0, e0⟩
  · refine own_go (fun _ k => XS.icmpYes X0.here hx rfl (pc0 := 6) (pc' := 23) rfl (hb hby d3_6) rfl (feq h1).2 (by decide) (by decide) k) ?_
    show own_Go p e below _ s₁ (mkF m 23 #[.val (.ref a1), .val (.ref a2), .val (.int (Int32.ofNat i)), .val (.int (Int32.ofNat j))] [])
    refine own_go (fun _ k => XS.iconst X0.here hx rfl (hb hby d3_23) k) ?_
    show own_Go p e below _ s₁ (mkF m 24 #[.val (.ref a1), .val (.ref a2), .val (.int (Int32.ofNat i)), .val (.int (Int32.ofNat j))] [(.int (0 : Int32))])
    exact own_endZ X0 hx hret hlk (hb hby d3_24) rfl (by decide) (by decide) ⟨by rw [if_neg (fun q => h1 (congrArg Prod.fst q))], N0, e0⟩
theorem ef_4 (m : MethodId) (x0 : Addr) : entryFrame m #[(.ref x0)] 1 = mkF m 0 #[.val (.ref x0)] [] := by first | (simp [entryFrame, mkF, argsToLocals, Value.category]; done) | rfl
set_option maxRecDepth 65536 in
set_option maxHeartbeats 40000000 in
theorem rmI (l : Launch) (Z : State) (a0 : Array Value) (hw : ∀ d ∈ tables_1, d.before a0 Z = true) (ws : List Jvm.Cond) (t : Nat) (h0 : Heap) (n0 : Nat) (Z0 : n0 ≤ h0.size) (E : Exa Z h0 t "com/example/window_payoff_solver/windowpayoffsolver/window/PairTable") (F1 : Fld Z h0 t "com/example/window_payoff_solver/windowpayoffsolver/window/PairTable" "firsts" "[I" .null) (F2 : Fld Z h0 t "com/example/window_payoff_solver/windowpayoffsolver/window/PairTable" "seconds" "[J" .null) (F3 : Fld Z h0 t "com/example/window_payoff_solver/windowpayoffsolver/window/PairTable" "slots" "[I" .null) (F4 : Fld Z h0 t "com/example/window_payoff_solver/windowpayoffsolver/window/PairTable" "size" "I" (.int 0)) (g1 : n0 ≤ t) :
    MetFree l (⟨"com/example/window_payoff_solver/windowpayoffsolver/window/PairTable", "<init>", "()V"⟩ : MethodName) (head1 (Jvm.Cond.code (⟨"com/example/window_payoff_solver/windowpayoffsolver/window/PairTable", "<init>", "()V"⟩ : MethodName) prog_81_method_1_code 1 none :: ws) ({ frames := 1, cells := 3, slots := 64, locals := 13 } : Room)) (fun a U => a = #[(.ref t)] ∧ Z.Warmed39 U.vm ∧ U.heap = h0) (fun _ _ _ _ _ => True) (fun _ U o U' => ∃ v L, o = .returned v ∧ (own_R (fun v h L => v = none ∧ Fr n0 L ∧ own_Kp t h0 h ∧ own_Tab Z h t [])) v U'.heap L ∧ FrameEnd U o U' L ({ frames := 1, cells := 3, slots := 64, locals := 13 } : Room).cells ({ frames := 1, cells := 3, slots := 64, locals := 13 } : Room).slots) := by
  refine MetFree.of_bodySF (plainFor_of_name pn_1) hisR ?_
  intro p e s m args below meth c s₁ Bd hml0 hP hK
  obtain ⟨rfl, hZ, hh⟩ := hP
  have hx := Bd.exec
  have hby := Bd.bytes
  have hml : c.maxLocals = 1 := hml0
  have hown : s.vm.findClass "com/example/window_payoff_solver/windowpayoffsolver/window/PairTable" = some m.cls := findClass_of_methodNamed Bd.named
  have hnm := (name_of_methodNamed Bd.named Bd.method).1
  have hret := Bd.returns
  have hlk : meth.locks = false := Bd.notSynchronized
  have X0 : Stand p l e ({ frames := 1, cells := 3, slots := 64, locals := 13 } : Room) s m #[(.ref t)] below meth c s₁ [] 0 0 := Stand.of_body Bd
  have e0 : s₁.heap = h0 := by rw [← hh, Bd.state]; rfl
  have N0 := Fr.nil n0
  show own_Go p e below (own_P (own_R (fun v h L => v = none ∧ Fr n0 L ∧ own_Kp t h0 h ∧ own_Tab Z h t [])) ({ frames := 1, cells := 3, slots := 64, locals := 13 } : Room) s) s₁ (entryFrame m #[(.ref t)] 1)
  rw [ef_4 m t]
  show own_Go p e below _ s₁ (mkF m 0 #[.val (.ref t)] [])
  have K := own_Kp_refl (Nat.le_of_lt E.lt)
  have tl := E.lt
  refine own_go (fun _ k => XS.aloadN X0.here hx rfl (hb hby d4_0) rfl rfl k) ?_
  show own_Go p e below _ s₁ (mkF m 1 #[.val (.ref t)] [(.ref t)])
  obtain ⟨T1, X1, e1, st1⟩ := initO X0 hx hZ hown (hw _ (List.mem_of_getElem? (i := 18) rfl)) (hw _ (List.mem_of_getElem? (i := 19) rfl)) (hw _ (List.mem_of_getElem? (i := 20) rfl)) e0 (g := (mkF m 1 #[.val (.ref t)] [(.ref t)])) rfl (by rw [hml]; rfl) rfl (hb hby d4_1) (by decide) (W := 0) (by show 2 * 0 + _ ≤ _; exact Nat.le_of_eq rfl) (by decide)
  refine own_go st1 ?_
  show own_Go p e below _ T1 (mkF m 4 #[.val (.ref t)] [])
  refine own_go (fun _ k => XS.aloadN X1.here hx rfl (hb hby d4_4) rfl rfl k) ?_
  show own_Go p e below _ T1 (mkF m 5 #[.val (.ref t)] [(.ref t)])
  refine own_go (fun _ k => XS.bipush X1.here hx rfl (hb hby d4_5) k) ?_
  show own_Go p e below _ T1 (mkF m 7 #[.val (.ref t)] [(.int (16 : Int32)), (.ref t)])
  obtain ⟨T2, h2, k2, X2, e2, E2, A2, st2⟩ := newP X1 hx hZ (hw _ (List.mem_of_getElem? (i := 0) rfl)) e1 (g := (mkF m 7 #[.val (.ref t)] [(.int (16 : Int32)), (.ref t)])) rfl (hb hby d4_7) rfl (by decide) (cap := 16) (by decide) (by decide) (by decide) (by decide)
  obtain ⟨b2, g2⟩ : ∃ z, z = h0.size := ⟨_, rfl⟩
  rw [← g2] at A2 st2
  refine own_go st2 ?_
  show own_Go p e below _ T2 (mkF m 9 #[.val (.ref t)] [(.ref b2), (.ref t)])
  have tl2 : t < b2 := by rw [g2]; exact tl
  have F1_2 := F1.ext E2
  have F2_2 := F2.ext E2
  have F3_2 := F3.ext E2
  have F4_2 := F4.ext E2
  have Ex_2 := E.ext E2
  have K_2 := own_Kp_ext K E2
  have V_b2_2 := (own_Af_new (N := 16) A2)
  obtain ⟨T3, h3, X3, e3, W3, st3⟩ := putF X2 hx hZ hown (host := "") (Or.inl (hw _ (List.mem_of_getElem? (i := 21) rfl))) Via.refl e2 F1_2 Ex_2 (Or.inl (hw _ (List.mem_of_getElem? (i := 22) rfl))) (hw _ (List.mem_of_getElem? (i := 13) rfl)) (ty := (.array .int)) (by decide) rfl rfl (g := (mkF m 9 #[.val (.ref t)] [(.ref b2), (.ref t)])) rfl rfl (hb hby d4_9)
  have N3 := Fr.snoc X3 N0 g1
  refine own_go st3 ?_
  show own_Go p e below _ T3 (mkF m 12 #[.val (.ref t)] [])
  have F1_3 := F1_2.same W3
  have F2_3 := F2_2.other W3 (Or.inr (slot_ne (Z := Z) (a0 := a0) (C := "com/example/window_payoff_solver/windowpayoffsolver/window/PairTable") (Or.inl (hw _ (List.mem_of_getElem? (i := 24) rfl))) (Or.inl (hw _ (List.mem_of_getElem? (i := 22) rfl))) (by decide) (t := (.array .long)) (t' := (.array .int)) (by decide) (by decide)))
  have F3_3 := F3_2.other W3 (Or.inr (slot_ne (Z := Z) (a0 := a0) (C := "com/example/window_payoff_solver/windowpayoffsolver/window/PairTable") (Or.inl (hw _ (List.mem_of_getElem? (i := 26) rfl))) (Or.inl (hw _ (List.mem_of_getElem? (i := 22) rfl))) (by decide) (t := (.array .int)) (t' := (.array .int)) (by decide) (by decide)))
  have F4_3 := F4_2.other W3 (Or.inr (slot_ne (Z := Z) (a0 := a0) (C := "com/example/window_payoff_solver/windowpayoffsolver/window/PairTable") (Or.inl (hw _ (List.mem_of_getElem? (i := 43) rfl))) (Or.inl (hw _ (List.mem_of_getElem? (i := 22) rfl))) (by decide) (t := .int) (t' := (.array .int)) (by decide) (by decide)))
  have Ex_3 := Ex_2.wr W3
  have K_3 := own_Kp_wr K_2 W3 (Nat.le_refl _)
  have V_b2_3 := own_Af_other V_b2_2 W3 (by omega)
  refine own_go (fun _ k => XS.aloadN X3.here hx rfl (hb hby d4_12) rfl rfl k) ?_
  show own_Go p e below _ T3 (mkF m 13 #[.val (.ref t)] [(.ref t)])
  refine own_go (fun _ k => XS.bipush X3.here hx rfl (hb hby d4_13) k) ?_
  show own_Go p e below _ T3 (mkF m 15 #[.val (.ref t)] [(.int (16 : Int32)), (.ref t)])
  obtain ⟨T4, h4, k4, X4, e4, E4, A4, st4⟩ := newP X3 hx hZ (hw _ (List.mem_of_getElem? (i := 1) rfl)) e3 (g := (mkF m 15 #[.val (.ref t)] [(.int (16 : Int32)), (.ref t)])) rfl (hb hby d4_15) rfl (by decide) (cap := 16) (by decide) (by decide) (by decide) (by decide)
  obtain ⟨b4, g4⟩ : ∃ z, z = h3.size := ⟨_, rfl⟩
  rw [← g4] at A4 st4
  refine own_go st4 ?_
  show own_Go p e below _ T4 (mkF m 17 #[.val (.ref t)] [(.ref b4), (.ref t)])
  have tl4 : t < b4 := by rw [g4]; exact Ex_3.lt
  have lt_b2_b4 : b2 < b4 := by rw [g4]; exact own_Af_lt V_b2_3
  have F1_4 := F1_3.ext E4
  have F2_4 := F2_3.ext E4
  have F3_4 := F3_3.ext E4
  have F4_4 := F4_3.ext E4
  have Ex_4 := Ex_3.ext E4
  have K_4 := own_Kp_ext K_3 E4
  have V_b2_4 := (own_Af_ext V_b2_3 E4)
  have V_b4_4 := (own_As_new (N := 16) A4)
  obtain ⟨T5, h5, X5, e5, W5, st5⟩ := putF X4 hx hZ hown (host := "") (Or.inl (hw _ (List.mem_of_getElem? (i := 23) rfl))) Via.refl e4 F2_4 Ex_4 (Or.inl (hw _ (List.mem_of_getElem? (i := 24) rfl))) (hw _ (List.mem_of_getElem? (i := 13) rfl)) (ty := (.array .long)) (by decide) rfl rfl (g := (mkF m 17 #[.val (.ref t)] [(.ref b4), (.ref t)])) rfl rfl (hb hby d4_17)
  have N5 := Fr.snoc X5 N3 g1
  refine own_go st5 ?_
  show own_Go p e below _ T5 (mkF m 20 #[.val (.ref t)] [])
  have F1_5 := F1_4.other W5 (Or.inr (slot_ne (Z := Z) (a0 := a0) (C := "com/example/window_payoff_solver/windowpayoffsolver/window/PairTable") (Or.inl (hw _ (List.mem_of_getElem? (i := 22) rfl))) (Or.inl (hw _ (List.mem_of_getElem? (i := 24) rfl))) (by decide) (t := (.array .int)) (t' := (.array .long)) (by decide) (by decide)))
  have F2_5 := F2_4.same W5
  have F3_5 := F3_4.other W5 (Or.inr (slot_ne (Z := Z) (a0 := a0) (C := "com/example/window_payoff_solver/windowpayoffsolver/window/PairTable") (Or.inl (hw _ (List.mem_of_getElem? (i := 26) rfl))) (Or.inl (hw _ (List.mem_of_getElem? (i := 24) rfl))) (by decide) (t := (.array .int)) (t' := (.array .long)) (by decide) (by decide)))
  have F4_5 := F4_4.other W5 (Or.inr (slot_ne (Z := Z) (a0 := a0) (C := "com/example/window_payoff_solver/windowpayoffsolver/window/PairTable") (Or.inl (hw _ (List.mem_of_getElem? (i := 43) rfl))) (Or.inl (hw _ (List.mem_of_getElem? (i := 24) rfl))) (by decide) (t := .int) (t' := (.array .long)) (by decide) (by decide)))
  have Ex_5 := Ex_4.wr W5
  have K_5 := own_Kp_wr K_4 W5 (Nat.le_refl _)
  have V_b2_5 := own_Af_other V_b2_4 W5 (by omega)
  have V_b4_5 := own_As_other V_b4_4 W5 (by omega)
  refine own_go (fun _ k => XS.aloadN X5.here hx rfl (hb hby d4_20) rfl rfl k) ?_
  show own_Go p e below _ T5 (mkF m 21 #[.val (.ref t)] [(.ref t)])
  refine own_go (fun _ k => XS.bipush X5.here hx rfl (hb hby d4_21) k) ?_
  show own_Go p e below _ T5 (mkF m 23 #[.val (.ref t)] [(.int (32 : Int32)), (.ref t)])
  obtain ⟨T6, h6, k6, X6, e6, E6, A6, st6⟩ := newP X5 hx hZ (hw _ (List.mem_of_getElem? (i := 0) rfl)) e5 (g := (mkF m 23 #[.val (.ref t)] [(.int (32 : Int32)), (.ref t)])) rfl (hb hby d4_23) rfl (by decide) (cap := 32) (by decide) (by decide) (by decide) (by decide)
  obtain ⟨b6, g6⟩ : ∃ z, z = h5.size := ⟨_, rfl⟩
  rw [← g6] at A6 st6
  refine own_go st6 ?_
  show own_Go p e below _ T6 (mkF m 25 #[.val (.ref t)] [(.ref b6), (.ref t)])
  have tl6 : t < b6 := by rw [g6]; exact Ex_5.lt
  have lt_b2_b6 : b2 < b6 := by rw [g6]; exact own_Af_lt V_b2_5
  have lt_b4_b6 : b4 < b6 := by rw [g6]; exact own_As_lt V_b4_5
  have F1_6 := F1_5.ext E6
  have F2_6 := F2_5.ext E6
  have F3_6 := F3_5.ext E6
  have F4_6 := F4_5.ext E6
  have Ex_6 := Ex_5.ext E6
  have K_6 := own_Kp_ext K_5 E6
  have V_b2_6 := (own_Af_ext V_b2_5 E6)
  have V_b4_6 := (own_As_ext V_b4_5 E6)
  have V_b6_6 := (own_Sl_new A6)
  obtain ⟨T7, h7, X7, e7, W7, st7⟩ := putF X6 hx hZ hown (host := "") (Or.inl (hw _ (List.mem_of_getElem? (i := 25) rfl))) Via.refl e6 F3_6 Ex_6 (Or.inl (hw _ (List.mem_of_getElem? (i := 26) rfl))) (hw _ (List.mem_of_getElem? (i := 13) rfl)) (ty := (.array .int)) (by decide) rfl rfl (g := (mkF m 25 #[.val (.ref t)] [(.ref b6), (.ref t)])) rfl rfl (hb hby d4_25)
  have N7 := Fr.snoc X7 N5 g1
  refine own_go st7 ?_
  show own_Go p e below _ T7 (mkF m 28 #[.val (.ref t)] [])
  have F1_7 := F1_6.other W7 (Or.inr (slot_ne (Z := Z) (a0 := a0) (C := "com/example/window_payoff_solver/windowpayoffsolver/window/PairTable") (Or.inl (hw _ (List.mem_of_getElem? (i := 22) rfl))) (Or.inl (hw _ (List.mem_of_getElem? (i := 26) rfl))) (by decide) (t := (.array .int)) (t' := (.array .int)) (by decide) (by decide)))
  have F2_7 := F2_6.other W7 (Or.inr (slot_ne (Z := Z) (a0 := a0) (C := "com/example/window_payoff_solver/windowpayoffsolver/window/PairTable") (Or.inl (hw _ (List.mem_of_getElem? (i := 24) rfl))) (Or.inl (hw _ (List.mem_of_getElem? (i := 26) rfl))) (by decide) (t := (.array .long)) (t' := (.array .int)) (by decide) (by decide)))
  have F3_7 := F3_6.same W7
  have F4_7 := F4_6.other W7 (Or.inr (slot_ne (Z := Z) (a0 := a0) (C := "com/example/window_payoff_solver/windowpayoffsolver/window/PairTable") (Or.inl (hw _ (List.mem_of_getElem? (i := 43) rfl))) (Or.inl (hw _ (List.mem_of_getElem? (i := 26) rfl))) (by decide) (t := .int) (t' := (.array .int)) (by decide) (by decide)))
  have Ex_7 := Ex_6.wr W7
  have K_7 := own_Kp_wr K_6 W7 (Nat.le_refl _)
  have V_b2_7 := own_Af_other V_b2_6 W7 (by omega)
  have V_b4_7 := own_As_other V_b4_6 W7 (by omega)
  have V_b6_7 := own_Sl_other V_b6_6 W7 (by omega)
  exact own_endV X7 hx hret hlk (hb hby d4_28) (by decide) (by decide) ⟨rfl, N7, by rw [e7]; exact K_7, by rw [e7]; exact ⟨b2, b4, b6, _, Ex_7, F1_7, F2_7, F3_7, F4_7, by omega, by omega, by omega, V_b2_7, V_b4_7, V_b6_7, own_inv0⟩⟩
theorem ef_8 (m : MethodId) (x0 : Int64) : entryFrame m #[(.long x0)] 2 = mkF m 0 #[.val (.long x0), .second] [] := by first | (simp [entryFrame, mkF, argsToLocals, Value.category]; done) | rfl
set_option maxRecDepth 65536 in
set_option maxHeartbeats 40000000 in
theorem rmH (l : Launch) (Z : State) (a0 : Array Value) (hw : ∀ d ∈ tables_1, d.before a0 Z = true) (ws : List Jvm.Cond) (lv : Int64) (h0 : Heap) (n0 : Nat) (Z0 : n0 ≤ h0.size)  :
    MetFree l (⟨"java/lang/Long", "hashCode", "(J)I"⟩ : MethodName) (head1 (Jvm.Cond.code (⟨"java/lang/Long", "hashCode", "(J)I"⟩ : MethodName) jdk_35_method_36_code 2 (some .int) :: ws) ({ frames := 0, cells := 0, slots := 0, locals := 0 } : Room)) (fun a U => a = #[(.long lv)] ∧ Z.Warmed39 U.vm ∧ U.heap = h0) (fun _ _ _ _ _ => True) (fun _ U o U' => ∃ v L, o = .returned v ∧ (own_pure (some (.int (own_lh lv))) h0 n0) v U'.heap L ∧ FrameEnd U o U' L ({ frames := 0, cells := 0, slots := 0, locals := 0 } : Room).cells ({ frames := 0, cells := 0, slots := 0, locals := 0 } : Room).slots) := by
  refine MetFree.of_bodySF (plainFor_of_name pn_2) hisR ?_
  intro p e s m args below meth c s₁ Bd hml0 hP hK
  obtain ⟨rfl, hZ, hh⟩ := hP
  have hx := Bd.exec
  have hby := Bd.bytes
  have hml : c.maxLocals = 2 := hml0
  have hown : s.vm.findClass "java/lang/Long" = some m.cls := findClass_of_methodNamed Bd.named
  have hnm := (name_of_methodNamed Bd.named Bd.method).1
  have hret := Bd.returns
  have hlk : meth.locks = false := Bd.notSynchronized
  have X0 : Stand p l e ({ frames := 0, cells := 0, slots := 0, locals := 0 } : Room) s m #[(.long lv)] below meth c s₁ [] 0 0 := Stand.of_body Bd
  have e0 : s₁.heap = h0 := by rw [← hh, Bd.state]; rfl
  have N0 := Fr.nil n0
  show own_Go p e below (own_P (own_pure (some (.int (own_lh lv))) h0 n0) ({ frames := 0, cells := 0, slots := 0, locals := 0 } : Room) s) s₁ (entryFrame m #[(.long lv)] 2)
  rw [ef_8 m lv]
  show own_Go p e below _ s₁ (mkF m 0 #[.val (.long lv), .second] [])
  refine own_go (fun _ k => XS.lloadN X0.here hx rfl (hb hby d8_0) rfl  k) ?_
  show own_Go p e below _ s₁ (mkF m 1 #[.val (.long lv), .second] [(.long lv)])
  refine own_go (fun _ k => XS.lloadN X0.here hx rfl (hb hby d8_1) rfl  k) ?_
  show own_Go p e below _ s₁ (mkF m 2 #[.val (.long lv), .second] [(.long lv), (.long lv)])
  refine own_go (fun _ k => XS.bipush X0.here hx rfl (hb hby d8_2) k) ?_
  show own_Go p e below _ s₁ (mkF m 4 #[.val (.long lv), .second] [(.int (32 : Int32)), (.long lv), (.long lv)])
  refine own_go (fun _ k => XS.lushr X0.here hx rfl (hb hby d8_4) rfl k) ?_
  show own_Go p e below _ s₁ (mkF m 5 #[.val (.long lv), .second] [(.long ((lv.toUInt64 >>> ((32 : Int32) &&& 0x3f).toInt64.toUInt64).toInt64)), (.long lv)])
  refine own_go (fun _ k => XS.lxor X0.here hx rfl (hb hby d8_5) rfl k) ?_
  show own_Go p e below _ s₁ (mkF m 6 #[.val (.long lv), .second] [(.long (lv ^^^ ((lv.toUInt64 >>> ((32 : Int32) &&& 0x3f).toInt64.toUInt64).toInt64)))])
  refine own_go (fun _ k => XS.l2i X0.here hx rfl (hb hby d8_6) rfl k) ?_
  show own_Go p e below _ s₁ (mkF m 7 #[.val (.long lv), .second] [(.int ((lv ^^^ ((lv.toUInt64 >>> ((32 : Int32) &&& 0x3f).toInt64.toUInt64).toInt64)).toInt32))])
  exact own_endI X0 hx hret hlk (hb hby d8_7) (by decide) (by decide) ⟨rfl, N0, e0⟩
theorem ef_7 (m : MethodId) (x0 : Addr) (x1 : Int32) (x2 : Int64) : entryFrame m #[(.ref x0), (.int x1), (.long x2)] 5 = mkF m 0 #[.val (.ref x0), .val (.int x1), .val (.long x2), .second, .unset] [] := by first | (simp [entryFrame, mkF, argsToLocals, Value.category]; done) | rfl
set_option maxRecDepth 65536 in
set_option maxHeartbeats 40000000 in
theorem rmS (l : Launch) (Z : State) (a0 : Array Value) (hw : ∀ d ∈ tables_1, d.before a0 Z = true) (ws : List Jvm.Cond) (t : Nat) (f : Int32) (g : Int64) (sc : Nat) (sl : Nat → Int32) (h0 : Heap) (n0 : Nat) (Z0 : n0 ≤ h0.size) (F3 : Fld Z h0 t "com/example/window_payoff_solver/windowpayoffsolver/window/PairTable" "slots" "[I" (.ref sc)) (A3 : own_Sl Z h0 sc sl) :
    MetFree l (⟨"com/example/window_payoff_solver/windowpayoffsolver/window/PairTable", "slot", "(IJ)I"⟩ : MethodName) (head1 (Jvm.Cond.code (⟨"com/example/window_payoff_solver/windowpayoffsolver/window/PairTable", "slot", "(IJ)I"⟩ : MethodName) prog_81_method_6_code 5 (some .int) :: ws) ({ frames := 1, cells := 0, slots := 0, locals := 14 } : Room)) (fun a U => a = #[(.ref t), (.int f), (.long g)] ∧ Z.Warmed39 U.vm ∧ U.heap = h0) (fun _ _ _ _ _ => True) (fun _ U o U' => ∃ v L, o = .returned v ∧ (own_pure (some (.int (own_slot f g))) h0 n0) v U'.heap L ∧ FrameEnd U o U' L ({ frames := 1, cells := 0, slots := 0, locals := 14 } : Room).cells ({ frames := 1, cells := 0, slots := 0, locals := 14 } : Room).slots) := by
  refine MetFree.of_bodySF (plainFor_of_name pn_1) hisR ?_
  intro p e s m args below meth c s₁ Bd hml0 hP hK
  obtain ⟨rfl, hZ, hh⟩ := hP
  have hx := Bd.exec
  have hby := Bd.bytes
  have hml : c.maxLocals = 5 := hml0
  have hown : s.vm.findClass "com/example/window_payoff_solver/windowpayoffsolver/window/PairTable" = some m.cls := findClass_of_methodNamed Bd.named
  have hnm := (name_of_methodNamed Bd.named Bd.method).1
  have hret := Bd.returns
  have hlk : meth.locks = false := Bd.notSynchronized
  have X0 : Stand p l e ({ frames := 1, cells := 0, slots := 0, locals := 14 } : Room) s m #[(.ref t), (.int f), (.long g)] below meth c s₁ [] 0 0 := Stand.of_body Bd
  have e0 : s₁.heap = h0 := by rw [← hh, Bd.state]; rfl
  have N0 := Fr.nil n0
  show own_Go p e below (own_P (own_pure (some (.int (own_slot f g))) h0 n0) ({ frames := 1, cells := 0, slots := 0, locals := 14 } : Room) s) s₁ (entryFrame m #[(.ref t), (.int f), (.long g)] 5)
  rw [ef_7 m t f g]
  show own_Go p e below _ s₁ (mkF m 0 #[.val (.ref t), .val (.int f), .val (.long g), .second, .unset] [])
  obtain ⟨c3, Ar3, S3, H3⟩ := A3
  refine own_go (fun _ k => XS.iloadN X0.here hx rfl (hb hby d7_0) rfl  k) ?_
  show own_Go p e below _ s₁ (mkF m 1 #[.val (.ref t), .val (.int f), .val (.long g), .second, .unset] [(.int f)])
  refine own_go (fun _ k => X0.ldcInt hx hown (mvT hZ (hw _ (List.mem_of_getElem? (i := 36) rfl))) (g := (mkF m 1 #[.val (.ref t), .val (.int f), .val (.long g), .second, .unset] [(.int f)])) rfl (hb hby d7_1) _ k) ?_
  show own_Go p e below _ s₁ (mkF m 3 #[.val (.ref t), .val (.int f), .val (.long g), .second, .unset] [(.int (-1640531527 : Int32)), (.int f)])
  refine own_go (fun _ k => XS.imul X0.here hx rfl (hb hby d7_3) rfl k) ?_
  show own_Go p e below _ s₁ (mkF m 4 #[.val (.ref t), .val (.int f), .val (.long g), .second, .unset] [(.int (f * (-1640531527 : Int32)))])
  refine own_go (fun _ k => XS.lloadN X0.here hx rfl (hb hby d7_4) rfl  k) ?_
  show own_Go p e below _ s₁ (mkF m 5 #[.val (.ref t), .val (.int f), .val (.long g), .second, .unset] [(.long g), (.int (f * (-1640531527 : Int32)))])
  obtain ⟨T8, v8, L8, X8, q8, st8⟩ := own_callS X0 hx hZ hown (y := (⟨"java/lang/Long", "hashCode", "(J)I"⟩ : MethodName)) (hw _ (List.mem_of_getElem? (i := 37) rfl)) (hw _ (List.mem_of_getElem? (i := 38) rfl)) (hw _ (List.mem_of_getElem? (i := 39) rfl)) (hw _ (List.mem_of_getElem? (i := 40) rfl)) (by decide) (rmH l Z a0 hw [] g h0 n0 Z0) (Ls := #[.val (.ref t), .val (.int f), .val (.long g), .second, .unset]) (st := [(.long g), (.int (f * (-1640531527 : Int32)))]) (W := 1) (by decide) (by decide) (by rw [hml]; rfl) (argsL := [(.long g)]) (rest := [(.int (f * (-1640531527 : Int32)))]) (lenOf pd_0 rfl) rfl rfl (Nat.le_of_eq rfl) (hb hby d7_5) e0 (by decide) (by decide)
  obtain ⟨rfl, N8', e8⟩ := q8
  have N8 := Fr.app N0 N8'
  refine own_go st8 ?_
  show own_Go p e below _ T8 (mkF m 8 #[.val (.ref t), .val (.int f), .val (.long g), .second, .unset] [(.int (own_lh g)), (.int (f * (-1640531527 : Int32)))])
  refine own_go (fun _ k => XS.iadd X8.here hx rfl (hb hby d7_8) rfl k) ?_
  show own_Go p e below _ T8 (mkF m 9 #[.val (.ref t), .val (.int f), .val (.long g), .second, .unset] [(.int ((f * (-1640531527 : Int32)) + (own_lh g)))])
  refine own_go (fun _ k => X8.ldcInt hx hown (mvT hZ (hw _ (List.mem_of_getElem? (i := 41) rfl))) (g := (mkF m 9 #[.val (.ref t), .val (.int f), .val (.long g), .second, .unset] [(.int ((f * (-1640531527 : Int32)) + (own_lh g)))])) rfl (hb hby d7_9) _ k) ?_
  show own_Go p e below _ T8 (mkF m 11 #[.val (.ref t), .val (.int f), .val (.long g), .second, .unset] [(.int (-2048144789 : Int32)), (.int ((f * (-1640531527 : Int32)) + (own_lh g)))])
  refine own_go (fun _ k => XS.imul X8.here hx rfl (hb hby d7_11) rfl k) ?_
  show own_Go p e below _ T8 (mkF m 12 #[.val (.ref t), .val (.int f), .val (.long g), .second, .unset] [(.int (((f * (-1640531527 : Int32)) + (own_lh g)) * (-2048144789 : Int32)))])
  refine own_go (fun _ k => XS.istore X8.here hx rfl (hb hby d7_12) rfl (l' := #[.val (.ref t), .val (.int f), .val (.long g), .second, .val (.int (((f * (-1640531527 : Int32)) + (own_lh g)) * (-2048144789 : Int32)))]) rfl k) ?_
  show own_Go p e below _ T8 (mkF m 14 #[.val (.ref t), .val (.int f), .val (.long g), .second, .val (.int (((f * (-1640531527 : Int32)) + (own_lh g)) * (-2048144789 : Int32)))] [])
  refine own_go (fun _ k => XS.iload X8.here hx rfl (hb hby d7_14) rfl  k) ?_
  show own_Go p e below _ T8 (mkF m 16 #[.val (.ref t), .val (.int f), .val (.long g), .second, .val (.int (((f * (-1640531527 : Int32)) + (own_lh g)) * (-2048144789 : Int32)))] [(.int (((f * (-1640531527 : Int32)) + (own_lh g)) * (-2048144789 : Int32)))])
  refine own_go (fun _ k => XS.iload X8.here hx rfl (hb hby d7_16) rfl  k) ?_
  show own_Go p e below _ T8 (mkF m 18 #[.val (.ref t), .val (.int f), .val (.long g), .second, .val (.int (((f * (-1640531527 : Int32)) + (own_lh g)) * (-2048144789 : Int32)))] [(.int (((f * (-1640531527 : Int32)) + (own_lh g)) * (-2048144789 : Int32))), (.int (((f * (-1640531527 : Int32)) + (own_lh g)) * (-2048144789 : Int32)))])
  refine own_go (fun _ k => XS.bipush X8.here hx rfl (hb hby d7_18) k) ?_
  show own_Go p e below _ T8 (mkF m 20 #[.val (.ref t), .val (.int f), .val (.long g), .second, .val (.int (((f * (-1640531527 : Int32)) + (own_lh g)) * (-2048144789 : Int32)))] [(.int (16 : Int32)), (.int (((f * (-1640531527 : Int32)) + (own_lh g)) * (-2048144789 : Int32))), (.int (((f * (-1640531527 : Int32)) + (own_lh g)) * (-2048144789 : Int32)))])
  refine own_go (fun _ k => XS.iushr X8.here hx rfl (hb hby d7_20) rfl k) ?_
  show own_Go p e below _ T8 (mkF m 21 #[.val (.ref t), .val (.int f), .val (.long g), .second, .val (.int (((f * (-1640531527 : Int32)) + (own_lh g)) * (-2048144789 : Int32)))] [(.int (((((f * (-1640531527 : Int32)) + (own_lh g)) * (-2048144789 : Int32)).toUInt32 >>> ((16 : Int32) &&& 31).toUInt32).toInt32)), (.int (((f * (-1640531527 : Int32)) + (own_lh g)) * (-2048144789 : Int32)))])
  refine own_go (fun _ k => XS.ixor X8.here hx rfl (hb hby d7_21) rfl k) ?_
  show own_Go p e below _ T8 (mkF m 22 #[.val (.ref t), .val (.int f), .val (.long g), .second, .val (.int (((f * (-1640531527 : Int32)) + (own_lh g)) * (-2048144789 : Int32)))] [(.int ((((f * (-1640531527 : Int32)) + (own_lh g)) * (-2048144789 : Int32)) ^^^ (((((f * (-1640531527 : Int32)) + (own_lh g)) * (-2048144789 : Int32)).toUInt32 >>> ((16 : Int32) &&& 31).toUInt32).toInt32)))])
  refine own_go (fun _ k => XS.aloadN X8.here hx rfl (hb hby d7_22) rfl rfl k) ?_
  show own_Go p e below _ T8 (mkF m 23 #[.val (.ref t), .val (.int f), .val (.long g), .second, .val (.int (((f * (-1640531527 : Int32)) + (own_lh g)) * (-2048144789 : Int32)))] [(.ref t), (.int ((((f * (-1640531527 : Int32)) + (own_lh g)) * (-2048144789 : Int32)) ^^^ (((((f * (-1640531527 : Int32)) + (own_lh g)) * (-2048144789 : Int32)).toUInt32 >>> ((16 : Int32) &&& 31).toUInt32).toInt32)))])
  obtain ⟨T9, X9, e9, st9⟩ := getF X8 hx hZ hown (host := "") (Or.inl (hw _ (List.mem_of_getElem? (i := 25) rfl))) Via.refl e8 F3 (g := (mkF m 23 #[.val (.ref t), .val (.int f), .val (.long g), .second, .val (.int (((f * (-1640531527 : Int32)) + (own_lh g)) * (-2048144789 : Int32)))] [(.ref t), (.int ((((f * (-1640531527 : Int32)) + (own_lh g)) * (-2048144789 : Int32)) ^^^ (((((f * (-1640531527 : Int32)) + (own_lh g)) * (-2048144789 : Int32)).toUInt32 >>> ((16 : Int32) &&& 31).toUInt32).toInt32)))])) rfl rfl (hb hby d7_23)
  refine own_go st9 ?_
  show own_Go p e below _ T9 (mkF m 26 #[.val (.ref t), .val (.int f), .val (.long g), .second, .val (.int (((f * (-1640531527 : Int32)) + (own_lh g)) * (-2048144789 : Int32)))] [(.ref sc), (.int ((((f * (-1640531527 : Int32)) + (own_lh g)) * (-2048144789 : Int32)) ^^^ (((((f * (-1640531527 : Int32)) + (own_lh g)) * (-2048144789 : Int32)).toUInt32 >>> ((16 : Int32) &&& 31).toUInt32).toInt32)))])
  refine own_go (fun _ k => X9.arraylength hx (by rw [e9]; exact Ar3.1) (State.isArrayOf_alike hZ.alike Ar3.2.1) (g := (mkF m 26 #[.val (.ref t), .val (.int f), .val (.long g), .second, .val (.int (((f * (-1640531527 : Int32)) + (own_lh g)) * (-2048144789 : Int32)))] [(.ref sc), (.int ((((f * (-1640531527 : Int32)) + (own_lh g)) * (-2048144789 : Int32)) ^^^ (((((f * (-1640531527 : Int32)) + (own_lh g)) * (-2048144789 : Int32)).toUInt32 >>> ((16 : Int32) &&& 31).toUInt32).toInt32)))])) rfl rfl (hb hby d7_26) _ k) ?_
  rw [len_of S3 (own_nn (by omega))]
  show own_Go p e below _ T9 (mkF m 27 #[.val (.ref t), .val (.int f), .val (.long g), .second, .val (.int (((f * (-1640531527 : Int32)) + (own_lh g)) * (-2048144789 : Int32)))] [(.int (32 : Int32)), (.int ((((f * (-1640531527 : Int32)) + (own_lh g)) * (-2048144789 : Int32)) ^^^ (((((f * (-1640531527 : Int32)) + (own_lh g)) * (-2048144789 : Int32)).toUInt32 >>> ((16 : Int32) &&& 31).toUInt32).toInt32)))])
  refine own_go (fun _ k => XS.iconst X9.here hx rfl (hb hby d7_27) k) ?_
  show own_Go p e below _ T9 (mkF m 28 #[.val (.ref t), .val (.int f), .val (.long g), .second, .val (.int (((f * (-1640531527 : Int32)) + (own_lh g)) * (-2048144789 : Int32)))] [(.int (1 : Int32)), (.int (32 : Int32)), (.int ((((f * (-1640531527 : Int32)) + (own_lh g)) * (-2048144789 : Int32)) ^^^ (((((f * (-1640531527 : Int32)) + (own_lh g)) * (-2048144789 : Int32)).toUInt32 >>> ((16 : Int32) &&& 31).toUInt32).toInt32)))])
  refine own_go (fun _ k => XS.isub X9.here hx rfl (hb hby d7_28) rfl k) ?_
  show own_Go p e below _ T9 (mkF m 29 #[.val (.ref t), .val (.int f), .val (.long g), .second, .val (.int (((f * (-1640531527 : Int32)) + (own_lh g)) * (-2048144789 : Int32)))] [(.int ((32 : Int32) - (1 : Int32))), (.int ((((f * (-1640531527 : Int32)) + (own_lh g)) * (-2048144789 : Int32)) ^^^ (((((f * (-1640531527 : Int32)) + (own_lh g)) * (-2048144789 : Int32)).toUInt32 >>> ((16 : Int32) &&& 31).toUInt32).toInt32)))])
  refine own_go (fun _ k => XS.iand X9.here hx rfl (hb hby d7_29) rfl k) ?_
  show own_Go p e below _ T9 (mkF m 30 #[.val (.ref t), .val (.int f), .val (.long g), .second, .val (.int (((f * (-1640531527 : Int32)) + (own_lh g)) * (-2048144789 : Int32)))] [(.int (((((f * (-1640531527 : Int32)) + (own_lh g)) * (-2048144789 : Int32)) ^^^ (((((f * (-1640531527 : Int32)) + (own_lh g)) * (-2048144789 : Int32)).toUInt32 >>> ((16 : Int32) &&& 31).toUInt32).toInt32)) &&& ((32 : Int32) - (1 : Int32))))])
  exact own_endI X9 hx hret hlk (hb hby d7_30) (by decide) (by decide) ⟨rfl, N8, e9⟩
theorem ef_9 (m : MethodId) (x0 : Addr) : entryFrame m #[(.ref x0)] 1 = mkF m 0 #[.val (.ref x0)] [] := by first | (simp [entryFrame, mkF, argsToLocals, Value.category]; done) | rfl
set_option maxRecDepth 65536 in
set_option maxHeartbeats 40000000 in
theorem rmZ (l : Launch) (Z : State) (a0 : Array Value) (hw : ∀ d ∈ tables_1, d.before a0 Z = true) (ws : List Jvm.Cond) (t : Nat) (ps : List own_Pr) (h0 : Heap) (n0 : Nat) (Z0 : n0 ≤ h0.size) (Tb : own_Tab Z h0 t ps) :
    MetFree l (⟨"com/example/window_payoff_solver/windowpayoffsolver/window/PairTable", "size", "()I"⟩ : MethodName) (head1 (Jvm.Cond.code (⟨"com/example/window_payoff_solver/windowpayoffsolver/window/PairTable", "size", "()I"⟩ : MethodName) prog_81_method_3_code 1 (some .int) :: ws) ({ frames := 0, cells := 0, slots := 0, locals := 0 } : Room)) (fun a U => a = #[(.ref t)] ∧ Z.Warmed39 U.vm ∧ U.heap = h0) (fun _ _ _ _ _ => True) (fun _ U o U' => ∃ v L, o = .returned v ∧ (own_pure (some (.int (Int32.ofNat ps.length))) h0 n0) v U'.heap L ∧ FrameEnd U o U' L ({ frames := 0, cells := 0, slots := 0, locals := 0 } : Room).cells ({ frames := 0, cells := 0, slots := 0, locals := 0 } : Room).slots) := by
  refine MetFree.of_bodySF (plainFor_of_name pn_1) hisR ?_
  intro p e s m args below meth c s₁ Bd hml0 hP hK
  obtain ⟨rfl, hZ, hh⟩ := hP
  have hx := Bd.exec
  have hby := Bd.bytes
  have hml : c.maxLocals = 1 := hml0
  have hown : s.vm.findClass "com/example/window_payoff_solver/windowpayoffsolver/window/PairTable" = some m.cls := findClass_of_methodNamed Bd.named
  have hnm := (name_of_methodNamed Bd.named Bd.method).1
  have hret := Bd.returns
  have hlk : meth.locks = false := Bd.notSynchronized
  have X0 : Stand p l e ({ frames := 0, cells := 0, slots := 0, locals := 0 } : Room) s m #[(.ref t)] below meth c s₁ [] 0 0 := Stand.of_body Bd
  have e0 : s₁.heap = h0 := by rw [← hh, Bd.state]; rfl
  have N0 := Fr.nil n0
  show own_Go p e below (own_P (own_pure (some (.int (Int32.ofNat ps.length))) h0 n0) ({ frames := 0, cells := 0, slots := 0, locals := 0 } : Room) s) s₁ (entryFrame m #[(.ref t)] 1)
  rw [ef_9 m t]
  show own_Go p e below _ s₁ (mkF m 0 #[.val (.ref t)] [])
  obtain ⟨fa, sb, sc, sl, E, F1, F2, F3, F4, o1, o2, o3, A1, A2, A3, I⟩ := Tb
  refine own_go (fun _ k => XS.aloadN X0.here hx rfl (hb hby d9_0) rfl rfl k) ?_
  show own_Go p e below _ s₁ (mkF m 1 #[.val (.ref t)] [(.ref t)])
  obtain ⟨T10, X10, e10, st10⟩ := getF X0 hx hZ hown (host := "") (Or.inl (hw _ (List.mem_of_getElem? (i := 42) rfl))) Via.refl e0 F4 (g := (mkF m 1 #[.val (.ref t)] [(.ref t)])) rfl rfl (hb hby d9_1)
  refine own_go st10 ?_
  show own_Go p e below _ T10 (mkF m 4 #[.val (.ref t)] [(.int (Int32.ofNat ps.length))])
  exact own_endI X10 hx hret hlk (hb hby d9_4) (by decide) (by decide) ⟨rfl, N0, e10⟩
theorem ef_10 (m : MethodId) (x0 : Addr) (x1 : Int32) : entryFrame m #[(.ref x0), (.int x1)] 2 = mkF m 0 #[.val (.ref x0), .val (.int x1)] [] := by first | (simp [entryFrame, mkF, argsToLocals, Value.category]; done) | rfl
set_option maxRecDepth 65536 in
set_option maxHeartbeats 40000000 in
theorem rm1 (l : Launch) (Z : State) (a0 : Array Value) (hw : ∀ d ∈ tables_1, d.before a0 Z = true) (ws : List Jvm.Cond) (t : Nat) (i : Nat) (ps : List own_Pr) (y : own_Pr) (h0 : Heap) (n0 : Nat) (Z0 : n0 ≤ h0.size) (hi : i < 16) (Tb : own_Tab Z h0 t ps) (hy : ps[i]? = some y) :
    MetFree l (⟨"com/example/window_payoff_solver/windowpayoffsolver/window/PairTable", "first", "(I)I"⟩ : MethodName) (head1 (Jvm.Cond.code (⟨"com/example/window_payoff_solver/windowpayoffsolver/window/PairTable", "first", "(I)I"⟩ : MethodName) prog_81_method_4_code 2 (some .int) :: ws) ({ frames := 0, cells := 0, slots := 0, locals := 0 } : Room)) (fun a U => a = #[(.ref t), (.int (Int32.ofNat i))] ∧ Z.Warmed39 U.vm ∧ U.heap = h0) (fun _ _ _ _ _ => True) (fun _ U o U' => ∃ v L, o = .returned v ∧ (own_pure (some (.int y.1)) h0 n0) v U'.heap L ∧ FrameEnd U o U' L ({ frames := 0, cells := 0, slots := 0, locals := 0 } : Room).cells ({ frames := 0, cells := 0, slots := 0, locals := 0 } : Room).slots) := by
  refine MetFree.of_bodySF (plainFor_of_name pn_1) hisR ?_
  intro p e s m args below meth c s₁ Bd hml0 hP hK
  obtain ⟨rfl, hZ, hh⟩ := hP
  have hx := Bd.exec
  have hby := Bd.bytes
  have hml : c.maxLocals = 2 := hml0
  have hown : s.vm.findClass "com/example/window_payoff_solver/windowpayoffsolver/window/PairTable" = some m.cls := findClass_of_methodNamed Bd.named
  have hnm := (name_of_methodNamed Bd.named Bd.method).1
  have hret := Bd.returns
  have hlk : meth.locks = false := Bd.notSynchronized
  have X0 : Stand p l e ({ frames := 0, cells := 0, slots := 0, locals := 0 } : Room) s m #[(.ref t), (.int (Int32.ofNat i))] below meth c s₁ [] 0 0 := Stand.of_body Bd
  have e0 : s₁.heap = h0 := by rw [← hh, Bd.state]; rfl
  have N0 := Fr.nil n0
  show own_Go p e below (own_P (own_pure (some (.int y.1)) h0 n0) ({ frames := 0, cells := 0, slots := 0, locals := 0 } : Room) s) s₁ (entryFrame m #[(.ref t), (.int (Int32.ofNat i))] 2)
  rw [ef_10 m t (Int32.ofNat i)]
  show own_Go p e below _ s₁ (mkF m 0 #[.val (.ref t), .val (.int (Int32.ofNat i))] [])
  obtain ⟨fa, sb, sc, sl, E, F1, F2, F3, F4, o1, o2, o3, A1, A2, A3, I⟩ := Tb
  obtain ⟨c1, Ar1, S1, H1⟩ := A1
  refine own_go (fun _ k => XS.aloadN X0.here hx rfl (hb hby d10_0) rfl rfl k) ?_
  show own_Go p e below _ s₁ (mkF m 1 #[.val (.ref t), .val (.int (Int32.ofNat i))] [(.ref t)])
  obtain ⟨T11, X11, e11, st11⟩ := getF X0 hx hZ hown (host := "") (Or.inl (hw _ (List.mem_of_getElem? (i := 21) rfl))) Via.refl e0 F1 (g := (mkF m 1 #[.val (.ref t), .val (.int (Int32.ofNat i))] [(.ref t)])) rfl rfl (hb hby d10_1)
  refine own_go st11 ?_
  show own_Go p e below _ T11 (mkF m 4 #[.val (.ref t), .val (.int (Int32.ofNat i))] [(.ref fa)])
  refine own_go (fun _ k => XS.iloadN X11.here hx rfl (hb hby d10_4) rfl  k) ?_
  show own_Go p e below _ T11 (mkF m 5 #[.val (.ref t), .val (.int (Int32.ofNat i))] [(.int (Int32.ofNat i)), (.ref fa)])
  refine own_go (fun _ k => X11.iaload hx (j := (Int32.ofNat i)) (v := (.int y.1)) (by rw [e11]; exact Ar1.1) (State.isArrayOf_alike hZ.alike Ar1.2.1) Ar1.2.2 (inb_of S1 ⟨own_nn (by omega), (own_ltI (by omega) (by omega)).mpr (by omega)⟩) (by rw [own_clamp (by omega)]; exact H1 _ _ hy) (g := (mkF m 5 #[.val (.ref t), .val (.int (Int32.ofNat i))] [(.int (Int32.ofNat i)), (.ref fa)])) rfl rfl (hb hby d10_5) _ k) ?_
  show own_Go p e below _ T11 (mkF m 6 #[.val (.ref t), .val (.int (Int32.ofNat i))] [(.int y.1)])
  exact own_endI X11 hx hret hlk (hb hby d10_6) (by decide) (by decide) ⟨rfl, N0, e11⟩
theorem ef_11 (m : MethodId) (x0 : Addr) (x1 : Int32) : entryFrame m #[(.ref x0), (.int x1)] 2 = mkF m 0 #[.val (.ref x0), .val (.int x1)] [] := by first | (simp [entryFrame, mkF, argsToLocals, Value.category]; done) | rfl
set_option maxRecDepth 65536 in
set_option maxHeartbeats 40000000 in
theorem rm2 (l : Launch) (Z : State) (a0 : Array Value) (hw : ∀ d ∈ tables_1, d.before a0 Z = true) (ws : List Jvm.Cond) (t : Nat) (i : Nat) (ps : List own_Pr) (y : own_Pr) (h0 : Heap) (n0 : Nat) (Z0 : n0 ≤ h0.size) (hi : i < 16) (Tb : own_Tab Z h0 t ps) (hy : ps[i]? = some y) :
    MetFree l (⟨"com/example/window_payoff_solver/windowpayoffsolver/window/PairTable", "second", "(I)J"⟩ : MethodName) (head1 (Jvm.Cond.code (⟨"com/example/window_payoff_solver/windowpayoffsolver/window/PairTable", "second", "(I)J"⟩ : MethodName) prog_81_method_5_code 2 (some .long) :: ws) ({ frames := 0, cells := 0, slots := 0, locals := 0 } : Room)) (fun a U => a = #[(.ref t), (.int (Int32.ofNat i))] ∧ Z.Warmed39 U.vm ∧ U.heap = h0) (fun _ _ _ _ _ => True) (fun _ U o U' => ∃ v L, o = .returned v ∧ (own_pure (some (.long y.2)) h0 n0) v U'.heap L ∧ FrameEnd U o U' L ({ frames := 0, cells := 0, slots := 0, locals := 0 } : Room).cells ({ frames := 0, cells := 0, slots := 0, locals := 0 } : Room).slots) := by
  refine MetFree.of_bodySF (plainFor_of_name pn_1) hisR ?_
  intro p e s m args below meth c s₁ Bd hml0 hP hK
  obtain ⟨rfl, hZ, hh⟩ := hP
  have hx := Bd.exec
  have hby := Bd.bytes
  have hml : c.maxLocals = 2 := hml0
  have hown : s.vm.findClass "com/example/window_payoff_solver/windowpayoffsolver/window/PairTable" = some m.cls := findClass_of_methodNamed Bd.named
  have hnm := (name_of_methodNamed Bd.named Bd.method).1
  have hret := Bd.returns
  have hlk : meth.locks = false := Bd.notSynchronized
  have X0 : Stand p l e ({ frames := 0, cells := 0, slots := 0, locals := 0 } : Room) s m #[(.ref t), (.int (Int32.ofNat i))] below meth c s₁ [] 0 0 := Stand.of_body Bd
  have e0 : s₁.heap = h0 := by rw [← hh, Bd.state]; rfl
  have N0 := Fr.nil n0
  show own_Go p e below (own_P (own_pure (some (.long y.2)) h0 n0) ({ frames := 0, cells := 0, slots := 0, locals := 0 } : Room) s) s₁ (entryFrame m #[(.ref t), (.int (Int32.ofNat i))] 2)
  rw [ef_11 m t (Int32.ofNat i)]
  show own_Go p e below _ s₁ (mkF m 0 #[.val (.ref t), .val (.int (Int32.ofNat i))] [])
  obtain ⟨fa, sb, sc, sl, E, F1, F2, F3, F4, o1, o2, o3, A1, A2, A3, I⟩ := Tb
  obtain ⟨c1, Ar1, S1, H1⟩ := A2
  refine own_go (fun _ k => XS.aloadN X0.here hx rfl (hb hby d11_0) rfl rfl k) ?_
  show own_Go p e below _ s₁ (mkF m 1 #[.val (.ref t), .val (.int (Int32.ofNat i))] [(.ref t)])
  obtain ⟨T12, X12, e12, st12⟩ := getF X0 hx hZ hown (host := "") (Or.inl (hw _ (List.mem_of_getElem? (i := 23) rfl))) Via.refl e0 F2 (g := (mkF m 1 #[.val (.ref t), .val (.int (Int32.ofNat i))] [(.ref t)])) rfl rfl (hb hby d11_1)
  refine own_go st12 ?_
  show own_Go p e below _ T12 (mkF m 4 #[.val (.ref t), .val (.int (Int32.ofNat i))] [(.ref sb)])
  refine own_go (fun _ k => XS.iloadN X12.here hx rfl (hb hby d11_4) rfl  k) ?_
  show own_Go p e below _ T12 (mkF m 5 #[.val (.ref t), .val (.int (Int32.ofNat i))] [(.int (Int32.ofNat i)), (.ref sb)])
  refine own_go (fun _ k => X12.laload hx (j := (Int32.ofNat i)) (v := (.long y.2)) (by rw [e12]; exact Ar1.1) (State.isArrayOf_alike hZ.alike Ar1.2.1) Ar1.2.2 (inb_of S1 ⟨own_nn (by omega), (own_ltI (by omega) (by omega)).mpr (by omega)⟩) (by rw [own_clamp (by omega)]; exact H1 _ _ hy) (g := (mkF m 5 #[.val (.ref t), .val (.int (Int32.ofNat i))] [(.int (Int32.ofNat i)), (.ref sb)])) rfl rfl (hb hby d11_5) _ k) ?_
  show own_Go p e below _ T12 (mkF m 6 #[.val (.ref t), .val (.int (Int32.ofNat i))] [(.long y.2)])
  exact own_endJ X12 hx hret hlk (hb hby d11_6) (by decide) (by decide) ⟨rfl, N0, e12⟩
theorem own_os5 {v0 v1 v2 v4 : Value} {s5 : Slot} {v : Int32} (h : One s5) : storeLocals #[.val v0, .val v1, .val v2, .second, .val v4, s5] 5 (.int v) = some #[.val v0, .val v1, .val v2, .second, .val v4, .val (.int v)] := by
  rcases h with rfl | ⟨w, rfl, hw⟩
  · rfl
  · cases w <;> first | rfl | (simp [Value.category] at hw)
set_option maxRecDepth 65536 in
set_option maxHeartbeats 40000000 in
theorem own_x55 {p : Program} {l : Launch} {e : Env} {R : Room} {s : State} {m : MethodId} {args : Array Value} {below : List Frame} {meth : Method} {c : Code} {locs : List Loc} {cells slots : Nat} {Z : State} {a0 : Array Value} {h0 : Heap} {P : Outcome → State → Prop} (t : Nat) (f : Int32) (g : Int64) {T0 : State} (d : Nat) (s5 : Slot) (X0 : Stand p l e R s m args below meth c T0 locs cells slots) (hx : p.tables.exec = Jvm.exec) (hZ : Z.Warmed39 s.vm) (hw : ∀ d ∈ tables_1, d.before a0 Z = true) (hby : c.code = prog_81_method_2_code) (hml : c.maxLocals = 6) (hown : s.vm.findClass "com/example/window_payoff_solver/windowpayoffsolver/window/PairTable" = some m.cls) (e0 : T0.heap = h0) (sc : Nat) (sl : Nat → Int32) (F3 : Fld Z h0 t "com/example/window_payoff_solver/windowpayoffsolver/window/PairTable" "slots" "[I" (.ref sc)) (A3 : own_Sl Z h0 sc sl)
    (hnext : ∀ T : State, Stand p l e R s m args below meth c T locs cells slots → T.heap = h0 → own_Go p e below P T (mkF m 8 #[.val (.ref t), .val (.int f), .val (.long g), .second, .val (.int (Int32.ofNat ((own_H (f, g) + d + 1) % 32))), s5] [])) : own_Go p e below P T0 (mkF m 55 #[.val (.ref t), .val (.int f), .val (.long g), .second, .val (.int (Int32.ofNat ((own_H (f, g) + d) % 32))), s5] []) := by
  obtain ⟨c3, Ar3, S3, H3⟩ := A3
  refine own_go (fun _ k => XS.iload X0.here hx rfl (hb hby d6_55) rfl  k) ?_
  show own_Go p e below _ T0 (mkF m 57 #[.val (.ref t), .val (.int f), .val (.long g), .second, .val (.int (Int32.ofNat ((own_H (f, g) + d) % 32))), s5] [(.int (Int32.ofNat ((own_H (f, g) + d) % 32)))])
  refine own_go (fun _ k => XS.iconst X0.here hx rfl (hb hby d6_57) k) ?_
  show own_Go p e below _ T0 (mkF m 58 #[.val (.ref t), .val (.int f), .val (.long g), .second, .val (.int (Int32.ofNat ((own_H (f, g) + d) % 32))), s5] [(.int (1 : Int32)), (.int (Int32.ofNat ((own_H (f, g) + d) % 32)))])
  refine own_go (fun _ k => XS.iadd X0.here hx rfl (hb hby d6_58) rfl k) ?_
  show own_Go p e below _ T0 (mkF m 59 #[.val (.ref t), .val (.int f), .val (.long g), .second, .val (.int (Int32.ofNat ((own_H (f, g) + d) % 32))), s5] [(.int ((Int32.ofNat ((own_H (f, g) + d) % 32)) + (1 : Int32)))])
  refine own_go (fun _ k => XS.aloadN X0.here hx rfl (hb hby d6_59) rfl rfl k) ?_
  show own_Go p e below _ T0 (mkF m 60 #[.val (.ref t), .val (.int f), .val (.long g), .second, .val (.int (Int32.ofNat ((own_H (f, g) + d) % 32))), s5] [(.ref t), (.int ((Int32.ofNat ((own_H (f, g) + d) % 32)) + (1 : Int32)))])
  obtain ⟨T13, X13, e13, st13⟩ := getF X0 hx hZ hown (host := "") (Or.inl (hw _ (List.mem_of_getElem? (i := 25) rfl))) Via.refl e0 F3 (g := (mkF m 60 #[.val (.ref t), .val (.int f), .val (.long g), .second, .val (.int (Int32.ofNat ((own_H (f, g) + d) % 32))), s5] [(.ref t), (.int ((Int32.ofNat ((own_H (f, g) + d) % 32)) + (1 : Int32)))])) rfl rfl (hb hby d6_60)
  refine own_go st13 ?_
  show own_Go p e below _ T13 (mkF m 63 #[.val (.ref t), .val (.int f), .val (.long g), .second, .val (.int (Int32.ofNat ((own_H (f, g) + d) % 32))), s5] [(.ref sc), (.int ((Int32.ofNat ((own_H (f, g) + d) % 32)) + (1 : Int32)))])
  refine own_go (fun _ k => X13.arraylength hx (by rw [e13]; exact Ar3.1) (State.isArrayOf_alike hZ.alike Ar3.2.1) (g := (mkF m 63 #[.val (.ref t), .val (.int f), .val (.long g), .second, .val (.int (Int32.ofNat ((own_H (f, g) + d) % 32))), s5] [(.ref sc), (.int ((Int32.ofNat ((own_H (f, g) + d) % 32)) + (1 : Int32)))])) rfl rfl (hb hby d6_63) _ k) ?_
  rw [len_of S3 (own_nn (by omega))]
  show own_Go p e below _ T13 (mkF m 64 #[.val (.ref t), .val (.int f), .val (.long g), .second, .val (.int (Int32.ofNat ((own_H (f, g) + d) % 32))), s5] [(.int (32 : Int32)), (.int ((Int32.ofNat ((own_H (f, g) + d) % 32)) + (1 : Int32)))])
  refine own_go (fun _ k => XS.iconst X13.here hx rfl (hb hby d6_64) k) ?_
  show own_Go p e below _ T13 (mkF m 65 #[.val (.ref t), .val (.int f), .val (.long g), .second, .val (.int (Int32.ofNat ((own_H (f, g) + d) % 32))), s5] [(.int (1 : Int32)), (.int (32 : Int32)), (.int ((Int32.ofNat ((own_H (f, g) + d) % 32)) + (1 : Int32)))])
  refine own_go (fun _ k => XS.isub X13.here hx rfl (hb hby d6_65) rfl k) ?_
  show own_Go p e below _ T13 (mkF m 66 #[.val (.ref t), .val (.int f), .val (.long g), .second, .val (.int (Int32.ofNat ((own_H (f, g) + d) % 32))), s5] [(.int ((32 : Int32) - (1 : Int32))), (.int ((Int32.ofNat ((own_H (f, g) + d) % 32)) + (1 : Int32)))])
  refine own_go (fun _ k => XS.iand X13.here hx rfl (hb hby d6_66) rfl k) ?_
  show own_Go p e below _ T13 (mkF m 67 #[.val (.ref t), .val (.int f), .val (.long g), .second, .val (.int (Int32.ofNat ((own_H (f, g) + d) % 32))), s5] [(.int (((Int32.ofNat ((own_H (f, g) + d) % 32)) + (1 : Int32)) &&& ((32 : Int32) - (1 : Int32))))])
  rw [own_next]
  show own_Go p e below _ T13 (mkF m 67 #[.val (.ref t), .val (.int f), .val (.long g), .second, .val (.int (Int32.ofNat ((own_H (f, g) + d) % 32))), s5] [(.int (Int32.ofNat ((own_H (f, g) + d + 1) % 32)))])
  refine own_go (fun _ k => XS.istore X13.here hx rfl (hb hby d6_67) rfl (l' := #[.val (.ref t), .val (.int f), .val (.long g), .second, .val (.int (Int32.ofNat ((own_H (f, g) + d + 1) % 32))), s5]) rfl k) ?_
  show own_Go p e below _ T13 (mkF m 69 #[.val (.ref t), .val (.int f), .val (.long g), .second, .val (.int (Int32.ofNat ((own_H (f, g) + d + 1) % 32))), s5] [])
  refine own_go (fun _ k => XS.goto X13.here hx rfl (pc0 := 69) (pc' := 8) rfl (hb hby d6_69) (by decide) (by decide) k) ?_
  show own_Go p e below _ T13 (mkF m 8 #[.val (.ref t), .val (.int f), .val (.long g), .second, .val (.int (Int32.ofNat ((own_H (f, g) + d + 1) % 32))), s5] [])
  exact hnext _ X13 e13
set_option maxRecDepth 65536 in
set_option maxHeartbeats 40000000 in
theorem own_xloop {p : Program} {l : Launch} {e : Env} {R : Room} {s : State} {m : MethodId} {args : Array Value} {below : List Frame} {meth : Method} {c : Code} {locs : List Loc} {cells slots : Nat} {Z : State} {a0 : Array Value} {h0 : Heap} {P : Outcome → State → Prop} (t : Nat) (f : Int32) (g : Int64) (hx : p.tables.exec = Jvm.exec) (hZ : Z.Warmed39 s.vm) (hw : ∀ d ∈ tables_1, d.before a0 Z = true) (hby : c.code = prog_81_method_2_code) (hml : c.maxLocals = 6) (hown : s.vm.findClass "com/example/window_payoff_solver/windowpayoffsolver/window/PairTable" = some m.cls) (fa sb sc : Nat) (sl : Nat → Int32) (ps : List own_Pr) (F1 : Fld Z h0 t "com/example/window_payoff_solver/windowpayoffsolver/window/PairTable" "firsts" "[I" (.ref fa)) (F2 : Fld Z h0 t "com/example/window_payoff_solver/windowpayoffsolver/window/PairTable" "seconds" "[J" (.ref sb)) (F3 : Fld Z h0 t "com/example/window_payoff_solver/windowpayoffsolver/window/PairTable" "slots" "[I" (.ref sc)) (hn : ps.length ≤ 3) (A1 : own_Af Z h0 fa 16 ps) (A2 : own_As Z h0 sb 16 ps) (A3 : own_Sl Z h0 sc sl) (I : own_Inv ps sl)
    (hend : ∀ (T : State) (d : Nat) (s5 : Slot), Stand p l e R s m args below meth c T locs cells slots → T.heap = h0 → d < 32 → sl ((own_H (f, g) + d) % 32) = 0 → own_Miss ps sl (f, g) d → own_Go p e below P T (mkF m 72 #[.val (.ref t), .val (.int f), .val (.long g), .second, .val (.int (Int32.ofNat ((own_H (f, g) + d) % 32))), s5] []))
    (hhit : ∀ (T : State) (d i : Nat), Stand p l e R s m args below meth c T locs cells slots → T.heap = h0 → ps[i]? = some (f, g) → own_Go p e below P T (mkF m 52 #[.val (.ref t), .val (.int f), .val (.long g), .second, .val (.int (Int32.ofNat ((own_H (f, g) + d) % 32))), .val (.int (Int32.ofNat i))] [])) :
    ∀ (k d : Nat) (T0 : State) (s5 : Slot), d + k = 32 → Stand p l e R s m args below meth c T0 locs cells slots → T0.heap = h0 → One s5 → own_Miss ps sl (f, g) d → own_Go p e below P T0 (mkF m 8 #[.val (.ref t), .val (.int f), .val (.long g), .second, .val (.int (Int32.ofNat ((own_H (f, g) + d) % 32))), s5] []) := by
  intro k
  induction k with
  | zero =>
    intro d T0 s5 hd X0 e0 h5 hm
    exact (own_full I (by omega) (own_slotH (f, g)).1 (fun d' hd' => (hm d' (by omega)).1)).elim
  | succ k ih =>
    intro d T0 s5 hd X0 e0 h5 hm
    have A1' := A1
    have A2' := A2
    have A3' := A3
    obtain ⟨c1, Ar1, S1, H1⟩ := A1'
    obtain ⟨c2, Ar2, S2, H2⟩ := A2'
    obtain ⟨c3, Ar3, S3, H3⟩ := A3'
    have hpos : ((own_H (f, g) + d) % 32) < 32 := Nat.mod_lt _ (by omega)
    show own_Go p e below _ T0 (mkF m 8 #[.val (.ref t), .val (.int f), .val (.long g), .second, .val (.int (Int32.ofNat ((own_H (f, g) + d) % 32))), s5] [])
    refine own_go (fun _ k => XS.aloadN X0.here hx rfl (hb hby d6_8) rfl rfl k) ?_
    show own_Go p e below _ T0 (mkF m 9 #[.val (.ref t), .val (.int f), .val (.long g), .second, .val (.int (Int32.ofNat ((own_H (f, g) + d) % 32))), s5] [(.ref t)])
    obtain ⟨T14, X14, e14, st14⟩ := getF X0 hx hZ hown (host := "") (Or.inl (hw _ (List.mem_of_getElem? (i := 25) rfl))) Via.refl e0 F3 (g := (mkF m 9 #[.val (.ref t), .val (.int f), .val (.long g), .second, .val (.int (Int32.ofNat ((own_H (f, g) + d) % 32))), s5] [(.ref t)])) rfl rfl (hb hby d6_9)
    refine own_go st14 ?_
    show own_Go p e below _ T14 (mkF m 12 #[.val (.ref t), .val (.int f), .val (.long g), .second, .val (.int (Int32.ofNat ((own_H (f, g) + d) % 32))), s5] [(.ref sc)])
    refine own_go (fun _ k => XS.iload X14.here hx rfl (hb hby d6_12) rfl  k) ?_
    show own_Go p e below _ T14 (mkF m 14 #[.val (.ref t), .val (.int f), .val (.long g), .second, .val (.int (Int32.ofNat ((own_H (f, g) + d) % 32))), s5] [(.int (Int32.ofNat ((own_H (f, g) + d) % 32))), (.ref sc)])
    refine own_go (fun _ k => X14.iaload hx (j := (Int32.ofNat ((own_H (f, g) + d) % 32))) (v := (.int (sl ((own_H (f, g) + d) % 32)))) (by rw [e14]; exact Ar3.1) (State.isArrayOf_alike hZ.alike Ar3.2.1) Ar3.2.2 (inb_of S3 ⟨own_nn (by omega), (own_ltI (by omega) (by omega)).mpr (by omega)⟩) (by rw [own_clamp (by omega)]; exact H3 _ hpos) (g := (mkF m 14 #[.val (.ref t), .val (.int f), .val (.long g), .second, .val (.int (Int32.ofNat ((own_H (f, g) + d) % 32))), s5] [(.int (Int32.ofNat ((own_H (f, g) + d) % 32))), (.ref sc)])) rfl rfl (hb hby d6_14) _ k) ?_
    show own_Go p e below _ T14 (mkF m 15 #[.val (.ref t), .val (.int f), .val (.long g), .second, .val (.int (Int32.ofNat ((own_H (f, g) + d) % 32))), s5] [(.int (sl ((own_H (f, g) + d) % 32)))])
    by_cases hz : (sl ((own_H (f, g) + d) % 32)) = (0 : Int32)
    · refine own_go (fun _ k => XS.ifYes X14.here hx rfl (pc0 := 15) (pc' := 72) rfl (hb hby d6_15) rfl ((if0 _ _).trans (teq hz).1) (by decide) (by decide) k) ?_
      show own_Go p e below _ T14 (mkF m 72 #[.val (.ref t), .val (.int f), .val (.long g), .second, .val (.int (Int32.ofNat ((own_H (f, g) + d) % 32))), s5] [])
      exact hend _ d s5 X14 e14 (by omega) hz hm
    · refine own_go (fun _ k => XS.ifNo X14.here hx rfl (hb hby d6_15) rfl ((if0 _ _).trans (feq hz).1) k) ?_
      show own_Go p e below _ T14 (mkF m 18 #[.val (.ref t), .val (.int f), .val (.long g), .second, .val (.int (Int32.ofNat ((own_H (f, g) + d) % 32))), s5] [])
      obtain ⟨i, hi, hs⟩ : ∃ i, i < ps.length ∧ sl ((own_H (f, g) + d) % 32) = Int32.ofNat (i + 1) := (I.1 _ hpos).resolve_left hz
      obtain ⟨y, hy⟩ : ∃ y, ps[i]? = some y := ⟨_, List.getElem?_eq_getElem hi⟩
      refine own_go (fun _ k => XS.aloadN X14.here hx rfl (hb hby d6_18) rfl rfl k) ?_
      show own_Go p e below _ T14 (mkF m 19 #[.val (.ref t), .val (.int f), .val (.long g), .second, .val (.int (Int32.ofNat ((own_H (f, g) + d) % 32))), s5] [(.ref t)])
      obtain ⟨T15, X15, e15, st15⟩ := getF X14 hx hZ hown (host := "") (Or.inl (hw _ (List.mem_of_getElem? (i := 25) rfl))) Via.refl e14 F3 (g := (mkF m 19 #[.val (.ref t), .val (.int f), .val (.long g), .second, .val (.int (Int32.ofNat ((own_H (f, g) + d) % 32))), s5] [(.ref t)])) rfl rfl (hb hby d6_19)
      refine own_go st15 ?_
      show own_Go p e below _ T15 (mkF m 22 #[.val (.ref t), .val (.int f), .val (.long g), .second, .val (.int (Int32.ofNat ((own_H (f, g) + d) % 32))), s5] [(.ref sc)])
      refine own_go (fun _ k => XS.iload X15.here hx rfl (hb hby d6_22) rfl  k) ?_
      show own_Go p e below _ T15 (mkF m 24 #[.val (.ref t), .val (.int f), .val (.long g), .second, .val (.int (Int32.ofNat ((own_H (f, g) + d) % 32))), s5] [(.int (Int32.ofNat ((own_H (f, g) + d) % 32))), (.ref sc)])
      refine own_go (fun _ k => X15.iaload hx (j := (Int32.ofNat ((own_H (f, g) + d) % 32))) (v := (.int (Int32.ofNat (i + 1)))) (by rw [e15]; exact Ar3.1) (State.isArrayOf_alike hZ.alike Ar3.2.1) Ar3.2.2 (inb_of S3 ⟨own_nn (by omega), (own_ltI (by omega) (by omega)).mpr (by omega)⟩) (by rw [own_clamp (by omega), ← hs]; exact H3 _ hpos) (g := (mkF m 24 #[.val (.ref t), .val (.int f), .val (.long g), .second, .val (.int (Int32.ofNat ((own_H (f, g) + d) % 32))), s5] [(.int (Int32.ofNat ((own_H (f, g) + d) % 32))), (.ref sc)])) rfl rfl (hb hby d6_24) _ k) ?_
      show own_Go p e below _ T15 (mkF m 25 #[.val (.ref t), .val (.int f), .val (.long g), .second, .val (.int (Int32.ofNat ((own_H (f, g) + d) % 32))), s5] [(.int (Int32.ofNat (i + 1)))])
      refine own_go (fun _ k => XS.iconst X15.here hx rfl (hb hby d6_25) k) ?_
      show own_Go p e below _ T15 (mkF m 26 #[.val (.ref t), .val (.int f), .val (.long g), .second, .val (.int (Int32.ofNat ((own_H (f, g) + d) % 32))), s5] [(.int (1 : Int32)), (.int (Int32.ofNat (i + 1)))])
      refine own_go (fun _ k => XS.isub X15.here hx rfl (hb hby d6_26) rfl k) ?_
      show own_Go p e below _ T15 (mkF m 27 #[.val (.ref t), .val (.int f), .val (.long g), .second, .val (.int (Int32.ofNat ((own_H (f, g) + d) % 32))), s5] [(.int ((Int32.ofNat (i + 1)) - (1 : Int32)))])
      rw [own_dec]
      show own_Go p e below _ T15 (mkF m 27 #[.val (.ref t), .val (.int f), .val (.long g), .second, .val (.int (Int32.ofNat ((own_H (f, g) + d) % 32))), s5] [(.int (Int32.ofNat i))])
      refine own_go (fun _ k => XS.istore X15.here hx rfl (hb hby d6_27) rfl (l' := #[.val (.ref t), .val (.int f), .val (.long g), .second, .val (.int (Int32.ofNat ((own_H (f, g) + d) % 32))), .val (.int (Int32.ofNat i))]) (own_os5 h5) k) ?_
      show own_Go p e below _ T15 (mkF m 29 #[.val (.ref t), .val (.int f), .val (.long g), .second, .val (.int (Int32.ofNat ((own_H (f, g) + d) % 32))), .val (.int (Int32.ofNat i))] [])
      refine own_go (fun _ k => XS.aloadN X15.here hx rfl (hb hby d6_29) rfl rfl k) ?_
      show own_Go p e below _ T15 (mkF m 30 #[.val (.ref t), .val (.int f), .val (.long g), .second, .val (.int (Int32.ofNat ((own_H (f, g) + d) % 32))), .val (.int (Int32.ofNat i))] [(.ref t)])
      obtain ⟨T16, X16, e16, st16⟩ := getF X15 hx hZ hown (host := "") (Or.inl (hw _ (List.mem_of_getElem? (i := 21) rfl))) Via.refl e15 F1 (g := (mkF m 30 #[.val (.ref t), .val (.int f), .val (.long g), .second, .val (.int (Int32.ofNat ((own_H (f, g) + d) % 32))), .val (.int (Int32.ofNat i))] [(.ref t)])) rfl rfl (hb hby d6_30)
      refine own_go st16 ?_
      show own_Go p e below _ T16 (mkF m 33 #[.val (.ref t), .val (.int f), .val (.long g), .second, .val (.int (Int32.ofNat ((own_H (f, g) + d) % 32))), .val (.int (Int32.ofNat i))] [(.ref fa)])
      refine own_go (fun _ k => XS.iload X16.here hx rfl (hb hby d6_33) rfl  k) ?_
      show own_Go p e below _ T16 (mkF m 35 #[.val (.ref t), .val (.int f), .val (.long g), .second, .val (.int (Int32.ofNat ((own_H (f, g) + d) % 32))), .val (.int (Int32.ofNat i))] [(.int (Int32.ofNat i)), (.ref fa)])
      refine own_go (fun _ k => X16.iaload hx (j := (Int32.ofNat i)) (v := (.int y.1)) (by rw [e16]; exact Ar1.1) (State.isArrayOf_alike hZ.alike Ar1.2.1) Ar1.2.2 (inb_of S1 ⟨own_nn (by omega), (own_ltI (by omega) (by omega)).mpr (by omega)⟩) (by rw [own_clamp (by omega)]; exact H1 _ _ hy) (g := (mkF m 35 #[.val (.ref t), .val (.int f), .val (.long g), .second, .val (.int (Int32.ofNat ((own_H (f, g) + d) % 32))), .val (.int (Int32.ofNat i))] [(.int (Int32.ofNat i)), (.ref fa)])) rfl rfl (hb hby d6_35) _ k) ?_
      show own_Go p e below _ T16 (mkF m 36 #[.val (.ref t), .val (.int f), .val (.long g), .second, .val (.int (Int32.ofNat ((own_H (f, g) + d) % 32))), .val (.int (Int32.ofNat i))] [(.int y.1)])
      refine own_go (fun _ k => XS.iloadN X16.here hx rfl (hb hby d6_36) rfl  k) ?_
      show own_Go p e below _ T16 (mkF m 37 #[.val (.ref t), .val (.int f), .val (.long g), .second, .val (.int (Int32.ofNat ((own_H (f, g) + d) % 32))), .val (.int (Int32.ofNat i))] [(.int f), (.int y.1)])
      by_cases h1 : y.1 = f
      · refine own_go (fun _ k => XS.icmpNo X16.here hx rfl (hb hby d6_37) rfl (teq h1).2 k) ?_
        show own_Go p e below _ T16 (mkF m 40 #[.val (.ref t), .val (.int f), .val (.long g), .second, .val (.int (Int32.ofNat ((own_H (f, g) + d) % 32))), .val (.int (Int32.ofNat i))] [])
        refine own_go (fun _ k => XS.aloadN X16.here hx rfl (hb hby d6_40) rfl rfl k) ?_
        show own_Go p e below _ T16 (mkF m 41 #[.val (.ref t), .val (.int f), .val (.long g), .second, .val (.int (Int32.ofNat ((own_H (f, g) + d) % 32))), .val (.int (Int32.ofNat i))] [(.ref t)])
        obtain ⟨T17, X17, e17, st17⟩ := getF X16 hx hZ hown (host := "") (Or.inl (hw _ (List.mem_of_getElem? (i := 23) rfl))) Via.refl e16 F2 (g := (mkF m 41 #[.val (.ref t), .val (.int f), .val (.long g), .second, .val (.int (Int32.ofNat ((own_H (f, g) + d) % 32))), .val (.int (Int32.ofNat i))] [(.ref t)])) rfl rfl (hb hby d6_41)
        refine own_go st17 ?_
        show own_Go p e below _ T17 (mkF m 44 #[.val (.ref t), .val (.int f), .val (.long g), .second, .val (.int (Int32.ofNat ((own_H (f, g) + d) % 32))), .val (.int (Int32.ofNat i))] [(.ref sb)])
        refine own_go (fun _ k => XS.iload X17.here hx rfl (hb hby d6_44) rfl  k) ?_
        show own_Go p e below _ T17 (mkF m 46 #[.val (.ref t), .val (.int f), .val (.long g), .second, .val (.int (Int32.ofNat ((own_H (f, g) + d) % 32))), .val (.int (Int32.ofNat i))] [(.int (Int32.ofNat i)), (.ref sb)])
        refine own_go (fun _ k => X17.laload hx (j := (Int32.ofNat i)) (v := (.long y.2)) (by rw [e17]; exact Ar2.1) (State.isArrayOf_alike hZ.alike Ar2.2.1) Ar2.2.2 (inb_of S2 ⟨own_nn (by omega), (own_ltI (by omega) (by omega)).mpr (by omega)⟩) (by rw [own_clamp (by omega)]; exact H2 _ _ hy) (g := (mkF m 46 #[.val (.ref t), .val (.int f), .val (.long g), .second, .val (.int (Int32.ofNat ((own_H (f, g) + d) % 32))), .val (.int (Int32.ofNat i))] [(.int (Int32.ofNat i)), (.ref sb)])) rfl rfl (hb hby d6_46) _ k) ?_
        show own_Go p e below _ T17 (mkF m 47 #[.val (.ref t), .val (.int f), .val (.long g), .second, .val (.int (Int32.ofNat ((own_H (f, g) + d) % 32))), .val (.int (Int32.ofNat i))] [(.long y.2)])
        refine own_go (fun _ k => XS.lloadN X17.here hx rfl (hb hby d6_47) rfl  k) ?_
        show own_Go p e below _ T17 (mkF m 48 #[.val (.ref t), .val (.int f), .val (.long g), .second, .val (.int (Int32.ofNat ((own_H (f, g) + d) % 32))), .val (.int (Int32.ofNat i))] [(.long g), (.long y.2)])
        refine own_go (fun _ k => XS.lcmp X17.here hx rfl (hb hby d6_48) rfl k) ?_
        show own_Go p e below _ T17 (mkF m 49 #[.val (.ref t), .val (.int f), .val (.long g), .second, .val (.int (Int32.ofNat ((own_H (f, g) + d) % 32))), .val (.int (Int32.ofNat i))] [(.int (lcmpW y.2 g))])
        by_cases h2 : y.2 = g
        · refine own_go (fun _ k => XS.ifNo X17.here hx rfl (hb hby d6_49) rfl ((if0 _ _).trans (teq ((lw_eq _ _).mpr h2)).2) k) ?_
          show own_Go p e below _ T17 (mkF m 52 #[.val (.ref t), .val (.int f), .val (.long g), .second, .val (.int (Int32.ofNat ((own_H (f, g) + d) % 32))), .val (.int (Int32.ofNat i))] [])
          exact hhit _ d i X17 e17 (by rw [hy]; exact congrArg some (Prod.ext h1 h2))
        · refine own_go (fun _ k => XS.ifYes X17.here hx rfl (pc0 := 49) (pc' := 55) rfl (hb hby d6_49) rfl ((if0 _ _).trans (feq ((not_congr (lw_eq _ _)).mpr h2)).2) (by decide) (by decide) k) ?_
          show own_Go p e below _ T17 (mkF m 55 #[.val (.ref t), .val (.int f), .val (.long g), .second, .val (.int (Int32.ofNat ((own_H (f, g) + d) % 32))), .val (.int (Int32.ofNat i))] [])
          have hne : y ≠ (f, g) := fun q => h2 (congrArg Prod.snd q)
          have hm' : own_Miss ps sl (f, g) (d + 1) := by
            intro d' hd'
            by_cases q : d' = d
            · subst q
              refine ⟨hz, fun i' y' h1' h2' => ?_⟩
              have hi' := (List.getElem?_eq_some_iff.mp h2').1
              have := own_inj (by omega) (by omega) (hs.symm.trans h1')
              obtain rfl : i = i' := by omega
              rw [hy] at h2'
              cases h2'
              exact hne
            · exact hm d' (by omega)
          exact own_x55 t f g d (.val (.int (Int32.ofNat i))) X17 hx hZ hw hby hml hown e17 sc sl F3 A3 (fun T X e => ih (d + 1) T _ (by omega) X e (One.val rfl) hm')
      · refine own_go (fun _ k => XS.icmpYes X16.here hx rfl (pc0 := 37) (pc' := 55) rfl (hb hby d6_37) rfl (feq h1).2 (by decide) (by decide) k) ?_
        show own_Go p e below _ T16 (mkF m 55 #[.val (.ref t), .val (.int f), .val (.long g), .second, .val (.int (Int32.ofNat ((own_H (f, g) + d) % 32))), .val (.int (Int32.ofNat i))] [])
        have hne : y ≠ (f, g) := fun q => h1 (congrArg Prod.fst q)
        have hm' : own_Miss ps sl (f, g) (d + 1) := by
          intro d' hd'
          by_cases q : d' = d
          · subst q
            refine ⟨hz, fun i' y' h1' h2' => ?_⟩
            have hi' := (List.getElem?_eq_some_iff.mp h2').1
            have := own_inj (by omega) (by omega) (hs.symm.trans h1')
            obtain rfl : i = i' := by omega
            rw [hy] at h2'
            cases h2'
            exact hne
          · exact hm d' (by omega)
        exact own_x55 t f g d (.val (.int (Int32.ofNat i))) X16 hx hZ hw hby hml hown e16 sc sl F3 A3 (fun T X e => ih (d + 1) T _ (by omega) X e (One.val rfl) hm')
set_option maxRecDepth 65536 in
set_option maxHeartbeats 40000000 in
theorem own_x72 {p : Program} {l : Launch} {e : Env} {s : State} {m : MethodId} {args : Array Value} {below : List Frame} {meth : Method} {c : Code} {locs : List Loc} {Z : State} {a0 : Array Value} {h0 : Heap} {n0 : Nat} (t : Nat) (f : Int32) (g : Int64) {T0 : State} (d : Nat) (s5 : Slot) (X0 : Stand p l e ({ frames := 2, cells := 0, slots := 0, locals := 30 } : Room) s m args below meth c T0 locs 0 0) (hx : p.tables.exec = Jvm.exec) (hZ : Z.Warmed39 s.vm) (hw : ∀ d ∈ tables_1, d.before a0 Z = true) (hby : c.code = prog_81_method_2_code) (hml : c.maxLocals = 6) (hown : s.vm.findClass "com/example/window_payoff_solver/windowpayoffsolver/window/PairTable" = some m.cls) (hret : meth.sig.returnType = some .int) (hlk : meth.locks = false) (e0 : T0.heap = h0) (N0 : Fr n0 locs) (g1 : n0 ≤ t)
    (fa sb sc : Nat) (sl : Nat → Int32) (ps : List own_Pr) (F1 : Fld Z h0 t "com/example/window_payoff_solver/windowpayoffsolver/window/PairTable" "firsts" "[I" (.ref fa)) (F2 : Fld Z h0 t "com/example/window_payoff_solver/windowpayoffsolver/window/PairTable" "seconds" "[J" (.ref sb)) (F3 : Fld Z h0 t "com/example/window_payoff_solver/windowpayoffsolver/window/PairTable" "slots" "[I" (.ref sc)) (hn : ps.length ≤ 3) (E : Exa Z h0 t "com/example/window_payoff_solver/windowpayoffsolver/window/PairTable") (F4 : Fld Z h0 t "com/example/window_payoff_solver/windowpayoffsolver/window/PairTable" "size" "I" (.int (Int32.ofNat ps.length))) (o1 : t < fa) (o2 : fa < sb) (o3 : sb < sc) (A1 : own_Af Z h0 fa 16 ps) (A2 : own_As Z h0 sb 16 ps) (A3 : own_Sl Z h0 sc sl) (I : own_Inv ps sl) (hd : d < 32) (hz : sl ((own_H (f, g) + d) % 32) = 0) (hm : own_Miss ps sl (f, g) d) :
    own_Go p e below (own_P (fun v h L => ∃ r ps', v = some (.int (Int32.ofNat r)) ∧ own_Ix ps (f, g) r ps' ∧ Fr n0 L ∧ own_Kp t h0 h ∧ own_Tab Z h t ps') ({ frames := 2, cells := 0, slots := 0, locals := 30 } : Room) s) T0 (mkF m 72 #[.val (.ref t), .val (.int f), .val (.long g), .second, .val (.int (Int32.ofNat ((own_H (f, g) + d) % 32))), s5] []) := by
  have hpos : ((own_H (f, g) + d) % 32) < 32 := Nat.mod_lt _ (by omega)
  have hnI := own_nat (N := ps.length) (by omega)
  have K := own_Kp_refl (k := t) (Nat.le_of_lt E.lt)
  have hno := own_notin I hz hm (by omega)
  refine own_go (fun _ k => XS.aloadN X0.here hx rfl (hb hby d6_72) rfl rfl k) ?_
  show own_Go p e below _ T0 (mkF m 73 #[.val (.ref t), .val (.int f), .val (.long g), .second, .val (.int (Int32.ofNat ((own_H (f, g) + d) % 32))), s5] [(.ref t)])
  obtain ⟨T18, X18, e18, st18⟩ := getF X0 hx hZ hown (host := "") (Or.inl (hw _ (List.mem_of_getElem? (i := 42) rfl))) Via.refl e0 F4 (g := (mkF m 73 #[.val (.ref t), .val (.int f), .val (.long g), .second, .val (.int (Int32.ofNat ((own_H (f, g) + d) % 32))), s5] [(.ref t)])) rfl rfl (hb hby d6_73)
  refine own_go st18 ?_
  show own_Go p e below _ T18 (mkF m 76 #[.val (.ref t), .val (.int f), .val (.long g), .second, .val (.int (Int32.ofNat ((own_H (f, g) + d) % 32))), s5] [(.int (Int32.ofNat ps.length))])
  refine own_go (fun _ k => X18.ldcInt hx hown (mvT hZ (hw _ (List.mem_of_getElem? (i := 44) rfl))) (g := (mkF m 76 #[.val (.ref t), .val (.int f), .val (.long g), .second, .val (.int (Int32.ofNat ((own_H (f, g) + d) % 32))), s5] [(.int (Int32.ofNat ps.length))])) rfl (hb hby d6_76) _ k) ?_
  show own_Go p e below _ T18 (mkF m 78 #[.val (.ref t), .val (.int f), .val (.long g), .second, .val (.int (Int32.ofNat ((own_H (f, g) + d) % 32))), s5] [(.int (536870912 : Int32)), (.int (Int32.ofNat ps.length))])
  have hb1 : ¬ Int32.ofNat ps.length = (536870912 : Int32) := fun q => by
    have := congrArg Int32.toInt q
    rw [hnI] at this
    have e : (536870912 : Int32).toInt = 536870912 := rfl
    omega
  refine own_go (fun _ k => XS.icmpYes X18.here hx rfl (pc0 := 78) (pc' := 83) rfl (hb hby d6_78) rfl (feq hb1).2 (by decide) (by decide) k) ?_
  show own_Go p e below _ T18 (mkF m 83 #[.val (.ref t), .val (.int f), .val (.long g), .second, .val (.int (Int32.ofNat ((own_H (f, g) + d) % 32))), s5] [])
  refine own_go (fun _ k => XS.aloadN X18.here hx rfl (hb hby d6_83) rfl rfl k) ?_
  show own_Go p e below _ T18 (mkF m 84 #[.val (.ref t), .val (.int f), .val (.long g), .second, .val (.int (Int32.ofNat ((own_H (f, g) + d) % 32))), s5] [(.ref t)])
  obtain ⟨T19, X19, e19, st19⟩ := getF X18 hx hZ hown (host := "") (Or.inl (hw _ (List.mem_of_getElem? (i := 42) rfl))) Via.refl e18 F4 (g := (mkF m 84 #[.val (.ref t), .val (.int f), .val (.long g), .second, .val (.int (Int32.ofNat ((own_H (f, g) + d) % 32))), s5] [(.ref t)])) rfl rfl (hb hby d6_84)
  refine own_go st19 ?_
  show own_Go p e below _ T19 (mkF m 87 #[.val (.ref t), .val (.int f), .val (.long g), .second, .val (.int (Int32.ofNat ((own_H (f, g) + d) % 32))), s5] [(.int (Int32.ofNat ps.length))])
  refine own_go (fun _ k => XS.aloadN X19.here hx rfl (hb hby d6_87) rfl rfl k) ?_
  show own_Go p e below _ T19 (mkF m 88 #[.val (.ref t), .val (.int f), .val (.long g), .second, .val (.int (Int32.ofNat ((own_H (f, g) + d) % 32))), s5] [(.ref t), (.int (Int32.ofNat ps.length))])
  obtain ⟨T20, X20, e20, st20⟩ := getF X19 hx hZ hown (host := "") (Or.inl (hw _ (List.mem_of_getElem? (i := 21) rfl))) Via.refl e19 F1 (g := (mkF m 88 #[.val (.ref t), .val (.int f), .val (.long g), .second, .val (.int (Int32.ofNat ((own_H (f, g) + d) % 32))), s5] [(.ref t), (.int (Int32.ofNat ps.length))])) rfl rfl (hb hby d6_88)
  refine own_go st20 ?_
  show own_Go p e below _ T20 (mkF m 91 #[.val (.ref t), .val (.int f), .val (.long g), .second, .val (.int (Int32.ofNat ((own_H (f, g) + d) % 32))), s5] [(.ref fa), (.int (Int32.ofNat ps.length))])
  obtain ⟨c1, Ar1, S1, H1⟩ := id A1
  refine own_go (fun _ k => X20.arraylength hx (by rw [e20]; exact Ar1.1) (State.isArrayOf_alike hZ.alike Ar1.2.1) (g := (mkF m 91 #[.val (.ref t), .val (.int f), .val (.long g), .second, .val (.int (Int32.ofNat ((own_H (f, g) + d) % 32))), s5] [(.ref fa), (.int (Int32.ofNat ps.length))])) rfl rfl (hb hby d6_91) _ k) ?_
  rw [len_of S1 (own_nn (by omega))]
  show own_Go p e below _ T20 (mkF m 92 #[.val (.ref t), .val (.int f), .val (.long g), .second, .val (.int (Int32.ofNat ((own_H (f, g) + d) % 32))), s5] [(.int (Int32.ofNat 16)), (.int (Int32.ofNat ps.length))])
  have hb2 : ¬ Int32.ofNat ps.length = Int32.ofNat 16 := fun q => by
    have := own_inj (by omega) (by omega) q
    omega
  refine own_go (fun _ k => XS.icmpYes X20.here hx rfl (pc0 := 92) (pc' := 129) rfl (hb hby d6_92) rfl (feq hb2).2 (by decide) (by decide) k) ?_
  show own_Go p e below _ T20 (mkF m 129 #[.val (.ref t), .val (.int f), .val (.long g), .second, .val (.int (Int32.ofNat ((own_H (f, g) + d) % 32))), s5] [])
  refine own_go (fun _ k => XS.aloadN X20.here hx rfl (hb hby d6_129) rfl rfl k) ?_
  show own_Go p e below _ T20 (mkF m 130 #[.val (.ref t), .val (.int f), .val (.long g), .second, .val (.int (Int32.ofNat ((own_H (f, g) + d) % 32))), s5] [(.ref t)])
  obtain ⟨T21, X21, e21, st21⟩ := getF X20 hx hZ hown (host := "") (Or.inl (hw _ (List.mem_of_getElem? (i := 21) rfl))) Via.refl e20 F1 (g := (mkF m 130 #[.val (.ref t), .val (.int f), .val (.long g), .second, .val (.int (Int32.ofNat ((own_H (f, g) + d) % 32))), s5] [(.ref t)])) rfl rfl (hb hby d6_130)
  refine own_go st21 ?_
  show own_Go p e below _ T21 (mkF m 133 #[.val (.ref t), .val (.int f), .val (.long g), .second, .val (.int (Int32.ofNat ((own_H (f, g) + d) % 32))), s5] [(.ref fa)])
  refine own_go (fun _ k => XS.aloadN X21.here hx rfl (hb hby d6_133) rfl rfl k) ?_
  show own_Go p e below _ T21 (mkF m 134 #[.val (.ref t), .val (.int f), .val (.long g), .second, .val (.int (Int32.ofNat ((own_H (f, g) + d) % 32))), s5] [(.ref t), (.ref fa)])
  obtain ⟨T22, X22, e22, st22⟩ := getF X21 hx hZ hown (host := "") (Or.inl (hw _ (List.mem_of_getElem? (i := 42) rfl))) Via.refl e21 F4 (g := (mkF m 134 #[.val (.ref t), .val (.int f), .val (.long g), .second, .val (.int (Int32.ofNat ((own_H (f, g) + d) % 32))), s5] [(.ref t), (.ref fa)])) rfl rfl (hb hby d6_134)
  refine own_go st22 ?_
  show own_Go p e below _ T22 (mkF m 137 #[.val (.ref t), .val (.int f), .val (.long g), .second, .val (.int (Int32.ofNat ((own_H (f, g) + d) % 32))), s5] [(.int (Int32.ofNat ps.length)), (.ref fa)])
  refine own_go (fun _ k => XS.iloadN X22.here hx rfl (hb hby d6_137) rfl  k) ?_
  show own_Go p e below _ T22 (mkF m 138 #[.val (.ref t), .val (.int f), .val (.long g), .second, .val (.int (Int32.ofNat ((own_H (f, g) + d) % 32))), s5] [(.int f), (.int (Int32.ofNat ps.length)), (.ref fa)])
  obtain ⟨T23, h23, X23, e23, W23, st23⟩ := stI X22 hx hZ e22 Ar1 (j := (Int32.ofNat ps.length)) (inb_of S1 ⟨own_nn (by omega), (own_ltI (by omega) (by omega)).mpr (by omega)⟩) (g := (mkF m 138 #[.val (.ref t), .val (.int f), .val (.long g), .second, .val (.int (Int32.ofNat ((own_H (f, g) + d) % 32))), s5] [(.int f), (.int (Int32.ofNat ps.length)), (.ref fa)])) rfl rfl (hb hby d6_138)
  have N23 := Fr.snoc X23 N0 (by omega)
  refine own_go st23 ?_
  show own_Go p e below _ T23 (mkF m 139 #[.val (.ref t), .val (.int f), .val (.long g), .second, .val (.int (Int32.ofNat ((own_H (f, g) + d) % 32))), s5] [])
  have Vfa_23 := own_Af_push (x := (f, g)) Ar1 S1 H1 W23 (own_clamp (by omega))
  have F1_23 := F1.other W23 (Or.inl (show @Ne Nat t fa by omega))
  have F2_23 := F2.other W23 (Or.inl (show @Ne Nat t fa by omega))
  have F3_23 := F3.other W23 (Or.inl (show @Ne Nat t fa by omega))
  have F4_23 := F4.other W23 (Or.inl (show @Ne Nat t fa by omega))
  have Ex_23 := E.wr W23
  have K_23 := own_Kp_wr K W23 (by omega)
  have Vsb_23 := own_As_other A2 W23 (by omega)
  have Vsc_23 := own_Sl_other A3 W23 (by omega)
  refine own_go (fun _ k => XS.aloadN X23.here hx rfl (hb hby d6_139) rfl rfl k) ?_
  show own_Go p e below _ T23 (mkF m 140 #[.val (.ref t), .val (.int f), .val (.long g), .second, .val (.int (Int32.ofNat ((own_H (f, g) + d) % 32))), s5] [(.ref t)])
  obtain ⟨T24, X24, e24, st24⟩ := getF X23 hx hZ hown (host := "") (Or.inl (hw _ (List.mem_of_getElem? (i := 23) rfl))) Via.refl e23 F2_23 (g := (mkF m 140 #[.val (.ref t), .val (.int f), .val (.long g), .second, .val (.int (Int32.ofNat ((own_H (f, g) + d) % 32))), s5] [(.ref t)])) rfl rfl (hb hby d6_140)
  refine own_go st24 ?_
  show own_Go p e below _ T24 (mkF m 143 #[.val (.ref t), .val (.int f), .val (.long g), .second, .val (.int (Int32.ofNat ((own_H (f, g) + d) % 32))), s5] [(.ref sb)])
  refine own_go (fun _ k => XS.aloadN X24.here hx rfl (hb hby d6_143) rfl rfl k) ?_
  show own_Go p e below _ T24 (mkF m 144 #[.val (.ref t), .val (.int f), .val (.long g), .second, .val (.int (Int32.ofNat ((own_H (f, g) + d) % 32))), s5] [(.ref t), (.ref sb)])
  obtain ⟨T25, X25, e25, st25⟩ := getF X24 hx hZ hown (host := "") (Or.inl (hw _ (List.mem_of_getElem? (i := 42) rfl))) Via.refl e24 F4_23 (g := (mkF m 144 #[.val (.ref t), .val (.int f), .val (.long g), .second, .val (.int (Int32.ofNat ((own_H (f, g) + d) % 32))), s5] [(.ref t), (.ref sb)])) rfl rfl (hb hby d6_144)
  refine own_go st25 ?_
  show own_Go p e below _ T25 (mkF m 147 #[.val (.ref t), .val (.int f), .val (.long g), .second, .val (.int (Int32.ofNat ((own_H (f, g) + d) % 32))), s5] [(.int (Int32.ofNat ps.length)), (.ref sb)])
  refine own_go (fun _ k => XS.lloadN X25.here hx rfl (hb hby d6_147) rfl  k) ?_
  show own_Go p e below _ T25 (mkF m 148 #[.val (.ref t), .val (.int f), .val (.long g), .second, .val (.int (Int32.ofNat ((own_H (f, g) + d) % 32))), s5] [(.long g), (.int (Int32.ofNat ps.length)), (.ref sb)])
  obtain ⟨c2, Ar2, S2, H2⟩ := Vsb_23
  obtain ⟨T26, h26, X26, e26, W26, st26⟩ := stJ X25 hx hZ e25 Ar2 (j := (Int32.ofNat ps.length)) (inb_of S2 ⟨own_nn (by omega), (own_ltI (by omega) (by omega)).mpr (by omega)⟩) (g := (mkF m 148 #[.val (.ref t), .val (.int f), .val (.long g), .second, .val (.int (Int32.ofNat ((own_H (f, g) + d) % 32))), s5] [(.long g), (.int (Int32.ofNat ps.length)), (.ref sb)])) rfl rfl (hb hby d6_148)
  have N26 := Fr.snoc X26 N23 (by omega)
  refine own_go st26 ?_
  show own_Go p e below _ T26 (mkF m 149 #[.val (.ref t), .val (.int f), .val (.long g), .second, .val (.int (Int32.ofNat ((own_H (f, g) + d) % 32))), s5] [])
  have Vsb_26 := own_As_push (x := (f, g)) Ar2 S2 H2 W26 (own_clamp (by omega))
  have F1_26 := F1_23.other W26 (Or.inl (show @Ne Nat t sb by omega))
  have F2_26 := F2_23.other W26 (Or.inl (show @Ne Nat t sb by omega))
  have F3_26 := F3_23.other W26 (Or.inl (show @Ne Nat t sb by omega))
  have F4_26 := F4_23.other W26 (Or.inl (show @Ne Nat t sb by omega))
  have Ex_26 := Ex_23.wr W26
  have K_26 := own_Kp_wr K_23 W26 (by omega)
  have Vfa_26 := own_Af_other Vfa_23 W26 (by omega)
  have Vsc_26 := own_Sl_other Vsc_23 W26 (by omega)
  refine own_go (fun _ k => XS.aloadN X26.here hx rfl (hb hby d6_149) rfl rfl k) ?_
  show own_Go p e below _ T26 (mkF m 150 #[.val (.ref t), .val (.int f), .val (.long g), .second, .val (.int (Int32.ofNat ((own_H (f, g) + d) % 32))), s5] [(.ref t)])
  obtain ⟨T27, X27, e27, st27⟩ := getF X26 hx hZ hown (host := "") (Or.inl (hw _ (List.mem_of_getElem? (i := 25) rfl))) Via.refl e26 F3_26 (g := (mkF m 150 #[.val (.ref t), .val (.int f), .val (.long g), .second, .val (.int (Int32.ofNat ((own_H (f, g) + d) % 32))), s5] [(.ref t)])) rfl rfl (hb hby d6_150)
  refine own_go st27 ?_
  show own_Go p e below _ T27 (mkF m 153 #[.val (.ref t), .val (.int f), .val (.long g), .second, .val (.int (Int32.ofNat ((own_H (f, g) + d) % 32))), s5] [(.ref sc)])
  refine own_go (fun _ k => XS.iload X27.here hx rfl (hb hby d6_153) rfl  k) ?_
  show own_Go p e below _ T27 (mkF m 155 #[.val (.ref t), .val (.int f), .val (.long g), .second, .val (.int (Int32.ofNat ((own_H (f, g) + d) % 32))), s5] [(.int (Int32.ofNat ((own_H (f, g) + d) % 32))), (.ref sc)])
  refine own_go (fun _ k => XS.aloadN X27.here hx rfl (hb hby d6_155) rfl rfl k) ?_
  show own_Go p e below _ T27 (mkF m 156 #[.val (.ref t), .val (.int f), .val (.long g), .second, .val (.int (Int32.ofNat ((own_H (f, g) + d) % 32))), s5] [(.ref t), (.int (Int32.ofNat ((own_H (f, g) + d) % 32))), (.ref sc)])
  obtain ⟨T28, X28, e28, st28⟩ := getF X27 hx hZ hown (host := "") (Or.inl (hw _ (List.mem_of_getElem? (i := 42) rfl))) Via.refl e27 F4_26 (g := (mkF m 156 #[.val (.ref t), .val (.int f), .val (.long g), .second, .val (.int (Int32.ofNat ((own_H (f, g) + d) % 32))), s5] [(.ref t), (.int (Int32.ofNat ((own_H (f, g) + d) % 32))), (.ref sc)])) rfl rfl (hb hby d6_156)
  refine own_go st28 ?_
  show own_Go p e below _ T28 (mkF m 159 #[.val (.ref t), .val (.int f), .val (.long g), .second, .val (.int (Int32.ofNat ((own_H (f, g) + d) % 32))), s5] [(.int (Int32.ofNat ps.length)), (.int (Int32.ofNat ((own_H (f, g) + d) % 32))), (.ref sc)])
  refine own_go (fun _ k => XS.iconst X28.here hx rfl (hb hby d6_159) k) ?_
  show own_Go p e below _ T28 (mkF m 160 #[.val (.ref t), .val (.int f), .val (.long g), .second, .val (.int (Int32.ofNat ((own_H (f, g) + d) % 32))), s5] [(.int (1 : Int32)), (.int (Int32.ofNat ps.length)), (.int (Int32.ofNat ((own_H (f, g) + d) % 32))), (.ref sc)])
  refine own_go (fun _ k => XS.iadd X28.here hx rfl (hb hby d6_160) rfl k) ?_
  show own_Go p e below _ T28 (mkF m 161 #[.val (.ref t), .val (.int f), .val (.long g), .second, .val (.int (Int32.ofNat ((own_H (f, g) + d) % 32))), s5] [(.int ((Int32.ofNat ps.length) + (1 : Int32))), (.int (Int32.ofNat ((own_H (f, g) + d) % 32))), (.ref sc)])
  obtain ⟨c3, Ar3, S3, H3⟩ := Vsc_26
  obtain ⟨T29, h29, X29, e29, W29, st29⟩ := stI X28 hx hZ e28 Ar3 (j := (Int32.ofNat ((own_H (f, g) + d) % 32))) (inb_of S3 ⟨own_nn (by omega), (own_ltI (by omega) (by omega)).mpr (by omega)⟩) (g := (mkF m 161 #[.val (.ref t), .val (.int f), .val (.long g), .second, .val (.int (Int32.ofNat ((own_H (f, g) + d) % 32))), s5] [(.int ((Int32.ofNat ps.length) + (1 : Int32))), (.int (Int32.ofNat ((own_H (f, g) + d) % 32))), (.ref sc)])) rfl rfl (hb hby d6_161)
  have N29 := Fr.snoc X29 N26 (by omega)
  refine own_go st29 ?_
  show own_Go p e below _ T29 (mkF m 162 #[.val (.ref t), .val (.int f), .val (.long g), .second, .val (.int (Int32.ofNat ((own_H (f, g) + d) % 32))), s5] [])
  rw [own_clamp (by omega), own_inc] at W29
  have Vsc_29 := own_Sl_set Ar3 S3 H3 W29
  have F1_29 := F1_26.other W29 (Or.inl (show @Ne Nat t sc by omega))
  have F2_29 := F2_26.other W29 (Or.inl (show @Ne Nat t sc by omega))
  have F3_29 := F3_26.other W29 (Or.inl (show @Ne Nat t sc by omega))
  have F4_29 := F4_26.other W29 (Or.inl (show @Ne Nat t sc by omega))
  have Ex_29 := Ex_26.wr W29
  have K_29 := own_Kp_wr K_26 W29 (by omega)
  have Vfa_29 := own_Af_other Vfa_26 W29 (by omega)
  have Vsb_29 := own_As_other Vsb_26 W29 (by omega)
  refine own_go (fun _ k => XS.aloadN X29.here hx rfl (hb hby d6_162) rfl rfl k) ?_
  show own_Go p e below _ T29 (mkF m 163 #[.val (.ref t), .val (.int f), .val (.long g), .second, .val (.int (Int32.ofNat ((own_H (f, g) + d) % 32))), s5] [(.ref t)])
  refine own_go (fun _ k => XS.dup X29.here hx rfl (hb hby d6_163) rfl rfl k) ?_
  show own_Go p e below _ T29 (mkF m 164 #[.val (.ref t), .val (.int f), .val (.long g), .second, .val (.int (Int32.ofNat ((own_H (f, g) + d) % 32))), s5] [(.ref t), (.ref t)])
  obtain ⟨T30, X30, e30, st30⟩ := getF X29 hx hZ hown (host := "") (Or.inl (hw _ (List.mem_of_getElem? (i := 42) rfl))) Via.refl e29 F4_29 (g := (mkF m 164 #[.val (.ref t), .val (.int f), .val (.long g), .second, .val (.int (Int32.ofNat ((own_H (f, g) + d) % 32))), s5] [(.ref t), (.ref t)])) rfl rfl (hb hby d6_164)
  refine own_go st30 ?_
  show own_Go p e below _ T30 (mkF m 167 #[.val (.ref t), .val (.int f), .val (.long g), .second, .val (.int (Int32.ofNat ((own_H (f, g) + d) % 32))), s5] [(.int (Int32.ofNat ps.length)), (.ref t)])
  refine own_go (fun _ k => XS.iconst X30.here hx rfl (hb hby d6_167) k) ?_
  show own_Go p e below _ T30 (mkF m 168 #[.val (.ref t), .val (.int f), .val (.long g), .second, .val (.int (Int32.ofNat ((own_H (f, g) + d) % 32))), s5] [(.int (1 : Int32)), (.int (Int32.ofNat ps.length)), (.ref t)])
  refine own_go (fun _ k => XS.iadd X30.here hx rfl (hb hby d6_168) rfl k) ?_
  show own_Go p e below _ T30 (mkF m 169 #[.val (.ref t), .val (.int f), .val (.long g), .second, .val (.int (Int32.ofNat ((own_H (f, g) + d) % 32))), s5] [(.int ((Int32.ofNat ps.length) + (1 : Int32))), (.ref t)])
  obtain ⟨T31, h31, X31, e31, W31, st31⟩ := putF X30 hx hZ hown (host := "") (Or.inl (hw _ (List.mem_of_getElem? (i := 42) rfl))) Via.refl e30 F4_29 Ex_29 (Or.inl (hw _ (List.mem_of_getElem? (i := 43) rfl))) (hw _ (List.mem_of_getElem? (i := 13) rfl)) (ty := .int) (by decide) rfl rfl (g := (mkF m 169 #[.val (.ref t), .val (.int f), .val (.long g), .second, .val (.int (Int32.ofNat ((own_H (f, g) + d) % 32))), s5] [(.int ((Int32.ofNat ps.length) + (1 : Int32))), (.ref t)])) rfl rfl (hb hby d6_169)
  have N31 := Fr.snoc X31 N29 g1
  refine own_go st31 ?_
  show own_Go p e below _ T31 (mkF m 172 #[.val (.ref t), .val (.int f), .val (.long g), .second, .val (.int (Int32.ofNat ((own_H (f, g) + d) % 32))), s5] [])
  have F1_31 := F1_29.other W31 (Or.inr (slot_ne (Z := Z) (a0 := a0) (C := "com/example/window_payoff_solver/windowpayoffsolver/window/PairTable") (Or.inl (hw _ (List.mem_of_getElem? (i := 22) rfl))) (Or.inl (hw _ (List.mem_of_getElem? (i := 43) rfl))) (by decide) (t := (.array .int)) (t' := .int) (by decide) (by decide)))
  have F2_31 := F2_29.other W31 (Or.inr (slot_ne (Z := Z) (a0 := a0) (C := "com/example/window_payoff_solver/windowpayoffsolver/window/PairTable") (Or.inl (hw _ (List.mem_of_getElem? (i := 24) rfl))) (Or.inl (hw _ (List.mem_of_getElem? (i := 43) rfl))) (by decide) (t := (.array .long)) (t' := .int) (by decide) (by decide)))
  have F3_31 := F3_29.other W31 (Or.inr (slot_ne (Z := Z) (a0 := a0) (C := "com/example/window_payoff_solver/windowpayoffsolver/window/PairTable") (Or.inl (hw _ (List.mem_of_getElem? (i := 26) rfl))) (Or.inl (hw _ (List.mem_of_getElem? (i := 43) rfl))) (by decide) (t := (.array .int)) (t' := .int) (by decide) (by decide)))
  have F4_31 := F4_29.same W31
  have Ex_31 := Ex_29.wr W31
  have K_31 := own_Kp_wr K_29 W31 (by omega)
  have Vfa_31 := own_Af_other Vfa_29 W31 (by omega)
  have Vsb_31 := own_As_other Vsb_29 W31 (by omega)
  have Vsc_31 := own_Sl_other Vsc_29 W31 (by omega)
  refine own_go (fun _ k => XS.iconst X31.here hx rfl (hb hby d6_172) k) ?_
  show own_Go p e below _ T31 (mkF m 173 #[.val (.ref t), .val (.int f), .val (.long g), .second, .val (.int (Int32.ofNat ((own_H (f, g) + d) % 32))), s5] [(.int (2 : Int32))])
  refine own_go (fun _ k => XS.aloadN X31.here hx rfl (hb hby d6_173) rfl rfl k) ?_
  show own_Go p e below _ T31 (mkF m 174 #[.val (.ref t), .val (.int f), .val (.long g), .second, .val (.int (Int32.ofNat ((own_H (f, g) + d) % 32))), s5] [(.ref t), (.int (2 : Int32))])
  obtain ⟨T32, X32, e32, st32⟩ := getF X31 hx hZ hown (host := "") (Or.inl (hw _ (List.mem_of_getElem? (i := 42) rfl))) Via.refl e31 F4_31 (g := (mkF m 174 #[.val (.ref t), .val (.int f), .val (.long g), .second, .val (.int (Int32.ofNat ((own_H (f, g) + d) % 32))), s5] [(.ref t), (.int (2 : Int32))])) rfl rfl (hb hby d6_174)
  refine own_go st32 ?_
  show own_Go p e below _ T32 (mkF m 177 #[.val (.ref t), .val (.int f), .val (.long g), .second, .val (.int (Int32.ofNat ((own_H (f, g) + d) % 32))), s5] [(.int (Int32.ofNat ps.length + (1 : Int32))), (.int (2 : Int32))])
  refine own_go (fun _ k => XS.imul X32.here hx rfl (hb hby d6_177) rfl k) ?_
  show own_Go p e below _ T32 (mkF m 178 #[.val (.ref t), .val (.int f), .val (.long g), .second, .val (.int (Int32.ofNat ((own_H (f, g) + d) % 32))), s5] [(.int ((2 : Int32) * (Int32.ofNat ps.length + (1 : Int32))))])
  refine own_go (fun _ k => XS.aloadN X32.here hx rfl (hb hby d6_178) rfl rfl k) ?_
  show own_Go p e below _ T32 (mkF m 179 #[.val (.ref t), .val (.int f), .val (.long g), .second, .val (.int (Int32.ofNat ((own_H (f, g) + d) % 32))), s5] [(.ref t), (.int ((2 : Int32) * (Int32.ofNat ps.length + (1 : Int32))))])
  obtain ⟨T33, X33, e33, st33⟩ := getF X32 hx hZ hown (host := "") (Or.inl (hw _ (List.mem_of_getElem? (i := 25) rfl))) Via.refl e32 F3_31 (g := (mkF m 179 #[.val (.ref t), .val (.int f), .val (.long g), .second, .val (.int (Int32.ofNat ((own_H (f, g) + d) % 32))), s5] [(.ref t), (.int ((2 : Int32) * (Int32.ofNat ps.length + (1 : Int32))))])) rfl rfl (hb hby d6_179)
  refine own_go st33 ?_
  show own_Go p e below _ T33 (mkF m 182 #[.val (.ref t), .val (.int f), .val (.long g), .second, .val (.int (Int32.ofNat ((own_H (f, g) + d) % 32))), s5] [(.ref sc), (.int ((2 : Int32) * (Int32.ofNat ps.length + (1 : Int32))))])
  obtain ⟨c4, Ar4, S4, H4⟩ := id Vsc_31
  refine own_go (fun _ k => X33.arraylength hx (by rw [e33]; exact Ar4.1) (State.isArrayOf_alike hZ.alike Ar4.2.1) (g := (mkF m 182 #[.val (.ref t), .val (.int f), .val (.long g), .second, .val (.int (Int32.ofNat ((own_H (f, g) + d) % 32))), s5] [(.ref sc), (.int ((2 : Int32) * (Int32.ofNat ps.length + (1 : Int32))))])) rfl rfl (hb hby d6_182) _ k) ?_
  rw [len_of S4 (own_nn (by omega))]
  show own_Go p e below _ T33 (mkF m 183 #[.val (.ref t), .val (.int f), .val (.long g), .second, .val (.int (Int32.ofNat ((own_H (f, g) + d) % 32))), s5] [(.int (Int32.ofNat 32)), (.int ((2 : Int32) * (Int32.ofNat ps.length + (1 : Int32))))])
  have hle : ¬ (Int32.ofNat 32) < ((2 : Int32) * (Int32.ofNat ps.length + (1 : Int32))) := by
    rw [own_inc, show (2 : Int32) * Int32.ofNat (ps.length + 1) = Int32.ofNat (2 * (ps.length + 1)) from (Int32.ofNat_mul 2 _).symm, own_ltI (by omega) (by omega)]
    omega
  refine own_go (fun _ k => XS.icmpYes X33.here hx rfl (pc0 := 183) (pc' := 190) rfl (hb hby d6_183) rfl (flt hle).2.2.2 (by decide) (by decide) k) ?_
  show own_Go p e below _ T33 (mkF m 190 #[.val (.ref t), .val (.int f), .val (.long g), .second, .val (.int (Int32.ofNat ((own_H (f, g) + d) % 32))), s5] [])
  refine own_go (fun _ k => XS.aloadN X33.here hx rfl (hb hby d6_190) rfl rfl k) ?_
  show own_Go p e below _ T33 (mkF m 191 #[.val (.ref t), .val (.int f), .val (.long g), .second, .val (.int (Int32.ofNat ((own_H (f, g) + d) % 32))), s5] [(.ref t)])
  obtain ⟨T34, X34, e34, st34⟩ := getF X33 hx hZ hown (host := "") (Or.inl (hw _ (List.mem_of_getElem? (i := 42) rfl))) Via.refl e33 F4_31 (g := (mkF m 191 #[.val (.ref t), .val (.int f), .val (.long g), .second, .val (.int (Int32.ofNat ((own_H (f, g) + d) % 32))), s5] [(.ref t)])) rfl rfl (hb hby d6_191)
  refine own_go st34 ?_
  show own_Go p e below _ T34 (mkF m 194 #[.val (.ref t), .val (.int f), .val (.long g), .second, .val (.int (Int32.ofNat ((own_H (f, g) + d) % 32))), s5] [(.int (Int32.ofNat ps.length + (1 : Int32)))])
  refine own_go (fun _ k => XS.iconst X34.here hx rfl (hb hby d6_194) k) ?_
  show own_Go p e below _ T34 (mkF m 195 #[.val (.ref t), .val (.int f), .val (.long g), .second, .val (.int (Int32.ofNat ((own_H (f, g) + d) % 32))), s5] [(.int (1 : Int32)), (.int (Int32.ofNat ps.length + (1 : Int32)))])
  refine own_go (fun _ k => XS.isub X34.here hx rfl (hb hby d6_195) rfl k) ?_
  show own_Go p e below _ T34 (mkF m 196 #[.val (.ref t), .val (.int f), .val (.long g), .second, .val (.int (Int32.ofNat ((own_H (f, g) + d) % 32))), s5] [(.int ((Int32.ofNat ps.length + (1 : Int32)) - (1 : Int32)))])
  rw [Int32.add_sub_cancel]
  show own_Go p e below _ T34 (mkF m 196 #[.val (.ref t), .val (.int f), .val (.long g), .second, .val (.int (Int32.ofNat ((own_H (f, g) + d) % 32))), s5] [(.int (Int32.ofNat ps.length))])
  have Fz := F4_31
  rw [own_inc, show ps.length + 1 = (ps ++ [(f, g)]).length by simp] at Fz
  exact own_endI X34 hx hret hlk (hb hby d6_196) (by decide) (by decide) ⟨ps.length, ps ++ [(f, g)], rfl, Or.inr ⟨hno, rfl, rfl⟩, N31, by rw [e34]; exact K_31, by rw [e34]; exact ⟨fa, sb, sc, _, Ex_31, F1_31, F2_31, F3_31, Fz, o1, o2, o3, Vfa_31, Vsb_31, Vsc_31, own_ins I hd hz hm (by omega)⟩⟩
theorem ef_6 (m : MethodId) (x0 : Addr) (x1 : Int32) (x2 : Int64) : entryFrame m #[(.ref x0), (.int x1), (.long x2)] 6 = mkF m 0 #[.val (.ref x0), .val (.int x1), .val (.long x2), .second, .unset, .unset] [] := by first | (simp [entryFrame, mkF, argsToLocals, Value.category]; done) | rfl
set_option maxRecDepth 65536 in
set_option maxHeartbeats 40000000 in
theorem rmX (l : Launch) (Z : State) (a0 : Array Value) (hw : ∀ d ∈ tables_1, d.before a0 Z = true) (ws : List Jvm.Cond) (t : Nat) (f : Int32) (g : Int64) (ps : List own_Pr) (h0 : Heap) (n0 : Nat) (Z0 : n0 ≤ h0.size) (hn : ps.length ≤ 3) (Tb : own_Tab Z h0 t ps) (g1 : n0 ≤ t) :
    MetFree l (⟨"com/example/window_payoff_solver/windowpayoffsolver/window/PairTable", "index", "(IJ)I"⟩ : MethodName) (head1 (Jvm.Cond.code (⟨"com/example/window_payoff_solver/windowpayoffsolver/window/PairTable", "index", "(IJ)I"⟩ : MethodName) prog_81_method_2_code 6 (some .int) :: ws) ({ frames := 2, cells := 0, slots := 0, locals := 30 } : Room)) (fun a U => a = #[(.ref t), (.int f), (.long g)] ∧ Z.Warmed39 U.vm ∧ U.heap = h0) (fun _ _ _ _ _ => True) (fun _ U o U' => ∃ v L, o = .returned v ∧ (own_R (fun v h L => ∃ r ps', v = some (.int (Int32.ofNat r)) ∧ own_Ix ps (f, g) r ps' ∧ Fr n0 L ∧ own_Kp t h0 h ∧ own_Tab Z h t ps')) v U'.heap L ∧ FrameEnd U o U' L ({ frames := 2, cells := 0, slots := 0, locals := 30 } : Room).cells ({ frames := 2, cells := 0, slots := 0, locals := 30 } : Room).slots) := by
  refine MetFree.of_bodySF (plainFor_of_name pn_1) hisR ?_
  intro p e s m args below meth c s₁ Bd hml0 hP hK
  obtain ⟨rfl, hZ, hh⟩ := hP
  have hx := Bd.exec
  have hby := Bd.bytes
  have hml : c.maxLocals = 6 := hml0
  have hown : s.vm.findClass "com/example/window_payoff_solver/windowpayoffsolver/window/PairTable" = some m.cls := findClass_of_methodNamed Bd.named
  have hnm := (name_of_methodNamed Bd.named Bd.method).1
  have hret := Bd.returns
  have hlk : meth.locks = false := Bd.notSynchronized
  have X0 : Stand p l e ({ frames := 2, cells := 0, slots := 0, locals := 30 } : Room) s m #[(.ref t), (.int f), (.long g)] below meth c s₁ [] 0 0 := Stand.of_body Bd
  have e0 : s₁.heap = h0 := by rw [← hh, Bd.state]; rfl
  have N0 := Fr.nil n0
  show own_Go p e below (own_P (own_R (fun v h L => ∃ r ps', v = some (.int (Int32.ofNat r)) ∧ own_Ix ps (f, g) r ps' ∧ Fr n0 L ∧ own_Kp t h0 h ∧ own_Tab Z h t ps')) ({ frames := 2, cells := 0, slots := 0, locals := 30 } : Room) s) s₁ (entryFrame m #[(.ref t), (.int f), (.long g)] 6)
  rw [ef_6 m t f g]
  show own_Go p e below _ s₁ (mkF m 0 #[.val (.ref t), .val (.int f), .val (.long g), .second, .unset, .unset] [])
  have Tb' := Tb
  obtain ⟨fa, sb, sc, sl, E, F1, F2, F3, F4, o1, o2, o3, A1, A2, A3, I⟩ := Tb
  refine own_go (fun _ k => XS.aloadN X0.here hx rfl (hb hby d6_0) rfl rfl k) ?_
  show own_Go p e below _ s₁ (mkF m 1 #[.val (.ref t), .val (.int f), .val (.long g), .second, .unset, .unset] [(.ref t)])
  refine own_go (fun _ k => XS.iloadN X0.here hx rfl (hb hby d6_1) rfl  k) ?_
  show own_Go p e below _ s₁ (mkF m 2 #[.val (.ref t), .val (.int f), .val (.long g), .second, .unset, .unset] [(.int f), (.ref t)])
  refine own_go (fun _ k => XS.lloadN X0.here hx rfl (hb hby d6_2) rfl  k) ?_
  show own_Go p e below _ s₁ (mkF m 3 #[.val (.ref t), .val (.int f), .val (.long g), .second, .unset, .unset] [(.long g), (.int f), (.ref t)])
  obtain ⟨T35, v35, L35, X35, q35, st35⟩ := own_callP X0 hx hZ hown (y := (⟨"com/example/window_payoff_solver/windowpayoffsolver/window/PairTable", "slot", "(IJ)I"⟩ : MethodName)) (hw _ (List.mem_of_getElem? (i := 32) rfl)) (hw _ (List.mem_of_getElem? (i := 34) rfl)) (hw _ (List.mem_of_getElem? (i := 30) rfl)) rfl (hw _ (List.mem_of_getElem? (i := 33) rfl)) (hw _ (List.mem_of_getElem? (i := 14) rfl)) (hw _ (List.mem_of_getElem? (i := 35) rfl)) (by decide) (rmS l Z a0 hw [] t f g sc sl h0 n0 Z0 F3 A3) (a := t) E (Ls := #[.val (.ref t), .val (.int f), .val (.long g), .second, .unset, .unset]) (st := [(.long g), (.int f), (.ref t)]) (W := 0) (by decide) (by decide) (by rw [hml]; rfl) (argsL := [(.int f), (.long g)]) (rest := []) (lenOf pd_1 rfl) rfl rfl (Nat.le_of_eq rfl) (hb hby d6_3) e0 (by decide) (by decide)
  obtain ⟨rfl, N35', e35⟩ := q35
  have N35 := Fr.app N0 N35'
  refine own_go st35 ?_
  show own_Go p e below _ T35 (mkF m 6 #[.val (.ref t), .val (.int f), .val (.long g), .second, .unset, .unset] [(.int (own_slot f g))])
  rw [show own_slot f g = Int32.ofNat ((own_H (f, g) + 0) % 32) from (own_slotH (f, g)).2]
  show own_Go p e below _ T35 (mkF m 6 #[.val (.ref t), .val (.int f), .val (.long g), .second, .unset, .unset] [(.int (Int32.ofNat ((own_H (f, g) + 0) % 32)))])
  refine own_go (fun _ k => XS.istore X35.here hx rfl (hb hby d6_6) rfl (l' := #[.val (.ref t), .val (.int f), .val (.long g), .second, .val (.int (Int32.ofNat ((own_H (f, g) + 0) % 32))), .unset]) rfl k) ?_
  show own_Go p e below _ T35 (mkF m 8 #[.val (.ref t), .val (.int f), .val (.long g), .second, .val (.int (Int32.ofNat ((own_H (f, g) + 0) % 32))), .unset] [])
  refine own_xloop t f g hx hZ hw hby hml hown fa sb sc sl ps F1 F2 F3 hn A1 A2 A3 I (fun T d s5 X e' hd hz hm => own_x72 t f g d s5 X hx hZ hw hby hml hown hret hlk e' N35 g1 fa sb sc sl ps F1 F2 F3 hn E F4 o1 o2 o3 A1 A2 A3 I hd hz hm) (fun T d i X e' hi => ?_) 32 0 _ _ rfl X35 e35 One.u (fun d' hd' => absurd hd' (Nat.not_lt_zero _))
  show own_Go p e below _ T (mkF m 52 #[.val (.ref t), .val (.int f), .val (.long g), .second, .val (.int (Int32.ofNat ((own_H (f, g) + d) % 32))), .val (.int (Int32.ofNat i))] [])
  refine own_go (fun _ k => XS.iload X.here hx rfl (hb hby d6_52) rfl  k) ?_
  show own_Go p e below _ T (mkF m 54 #[.val (.ref t), .val (.int f), .val (.long g), .second, .val (.int (Int32.ofNat ((own_H (f, g) + d) % 32))), .val (.int (Int32.ofNat i))] [(.int (Int32.ofNat i))])
  exact own_endI X hx hret hlk (hb hby d6_54) (by decide) (by decide) ⟨i, ps, rfl, Or.inl ⟨hi, rfl⟩, N35, by rw [e']; exact own_Kp_refl (Nat.le_of_lt E.lt), by rw [e']; exact Tb'⟩
set_option maxRecDepth 65536 in
set_option maxHeartbeats 40000000 in
theorem own_t352 {p : Program} {l : Launch} {e : Env} {s : State} {m : MethodId} {args : Array Value} {below : List Frame} {meth : Method} {c : Code} {T0 : State} {locs : List Loc} {Z : State} {a0 : Array Value} {h0 : Heap} {n0 : Nat} (s0 s1 s2 s3 s4 s5 s6 s7 s8 s9 s12 s13 : Slot) (a10 a11 a14 a15 : Nat) (x0 x1 x2 x3 : own_Pr) (r1 r2 r3 : Nat) (ps1 ps2 ps3 ps4 : List own_Pr) (X0 : Stand p l e room_1 s m args below meth c T0 locs 4 16)
    (hx : p.tables.exec = Jvm.exec) (hZ : Z.Warmed39 s.vm) (hw : ∀ d ∈ tables_1, d.before a0 Z = true) (hby : c.code = code) (hml : c.maxLocals = 27) (hown : s.vm.findClass "com/example/window_payoff_solver/windowpayoffsolver/window/PairTableIndexPinLaw" = some m.cls) (hret : meth.sig.returnType = some .boolean) (hlk : meth.locks = false) (e0 : T0.heap = h0) (Z0 : n0 ≤ h0.size) (N0 : Fr n0 locs) (g14 : n0 ≤ a14) (g15 : n0 ≤ a15) (o1 : a10 < a11) (o2 : a11 < a14) (o3 : a14 < a15) (B1 : own_Af Z h0 a10 4 [x0, x1, x2, x3]) (B2 : own_As Z h0 a11 4 [x0, x1, x2, x3]) (B3 : own_Af Z h0 a14 4 ps4) (B4 : own_As Z h0 a15 4 ps4) (J0 : own_Ix [] x0 0 ps1) (J1 : own_Ix ps1 x1 r1 ps2) (J2 : own_Ix ps2 x2 r2 ps3) (J3 : own_Ix ps3 x3 r3 ps4) :
    own_Go p e below (own_P (own_R (fun v _ L => v = some (.int 1) ∧ Fr n0 L)) room_1 s) T0 (mkF m 352 #[s0, s1, s2, s3, s4, s5, s6, s7, s8, s9, .val (.ref a10), .val (.ref a11), s12, s13, .val (.ref a14), .val (.ref a15), .val (.int (Int32.ofNat ps4.length)), .val (.int (Int32.ofNat 0)), .val (.int (Int32.ofNat r1)), .val (.int (Int32.ofNat r2)), .val (.int (Int32.ofNat r3)), .unset, .unset, .unset, .unset, .unset, .unset] []) := by
  have D0 : own_Dis [] := fun i j x h => by simp at h
  have D1 := own_disIx D0 J0
  have D2 := own_disIx D1 J1
  have D3 := own_disIx D2 J2
  have l1 := own_lenIx J0
  have l2 := own_lenIx J1
  have l3 := own_lenIx J2
  have l4 := own_lenIx J3
  have l0 : ([] : List own_Pr).length = 0 := rfl
  obtain ⟨nl, hnl⟩ : ∃ nl, ps4.length = nl + 1 := by
    have := (List.getElem?_eq_some_iff.mp (own_atIx J3)).1
    exact ⟨ps4.length - 1, by omega⟩
  obtain ⟨y, hy⟩ : ∃ y, ps4[nl]? = some y := ⟨_, List.getElem?_eq_getElem (by omega)⟩
  rw [hnl]
  show own_Go p e below _ T0 (mkF m 352 #[s0, s1, s2, s3, s4, s5, s6, s7, s8, s9, .val (.ref a10), .val (.ref a11), s12, s13, .val (.ref a14), .val (.ref a15), .val (.int (Int32.ofNat (nl + 1))), .val (.int (Int32.ofNat 0)), .val (.int (Int32.ofNat r1)), .val (.int (Int32.ofNat r2)), .val (.int (Int32.ofNat r3)), .unset, .unset, .unset, .unset, .unset, .unset] [])
  obtain ⟨T36, h36, X36, e36, E36, A36, D36, -, st36⟩ := newO X0 hx hZ hown (hw _ (List.mem_of_getElem? (i := 12) rfl)) (hw _ (List.mem_of_getElem? (i := 13) rfl)) (hw _ (List.mem_of_getElem? (i := 14) rfl)) e0 (g := (mkF m 352 #[s0, s1, s2, s3, s4, s5, s6, s7, s8, s9, .val (.ref a10), .val (.ref a11), s12, s13, .val (.ref a14), .val (.ref a15), .val (.int (Int32.ofNat (nl + 1))), .val (.int (Int32.ofNat 0)), .val (.int (Int32.ofNat r1)), .val (.int (Int32.ofNat r2)), .val (.int (Int32.ofNat r3)), .unset, .unset, .unset, .unset, .unset, .unset] [])) rfl (hb hby at_352) (by decide) (by decide)
  obtain ⟨b36, g36⟩ : ∃ z, z = h0.size := ⟨_, rfl⟩
  rw [← g36] at A36 D36 st36
  refine own_go st36 ?_
  show own_Go p e below _ T36 (mkF m 355 #[s0, s1, s2, s3, s4, s5, s6, s7, s8, s9, .val (.ref a10), .val (.ref a11), s12, s13, .val (.ref a14), .val (.ref a15), .val (.int (Int32.ofNat (nl + 1))), .val (.int (Int32.ofNat 0)), .val (.int (Int32.ofNat r1)), .val (.int (Int32.ofNat r2)), .val (.int (Int32.ofNat r3)), .unset, .unset, .unset, .unset, .unset, .unset] [(.ref b36)])
  have g_t : n0 ≤ b36 := Nat.le_trans Z0 (Nat.le_of_eq g36.symm)
  have t10 : a10 < b36 := by rw [g36]; exact own_Af_lt B1
  have t11 : a11 < b36 := by rw [g36]; exact own_As_lt B2
  have t14 : a14 < b36 := by rw [g36]; exact own_Af_lt B3
  have t15 : a15 < b36 := by rw [g36]; exact own_As_lt B4
  have Zk := Nat.le_trans Z0 E36.1
  have F1 : Fld Z h36 b36 "com/example/window_payoff_solver/windowpayoffsolver/window/PairTable" "firsts" "[I" .null := D36 (Or.inl (hw _ (List.mem_of_getElem? (i := 22) rfl))) (ty := (.array .int)) (by decide)
  have F2 : Fld Z h36 b36 "com/example/window_payoff_solver/windowpayoffsolver/window/PairTable" "seconds" "[J" .null := D36 (Or.inl (hw _ (List.mem_of_getElem? (i := 24) rfl))) (ty := (.array .long)) (by decide)
  have F3 : Fld Z h36 b36 "com/example/window_payoff_solver/windowpayoffsolver/window/PairTable" "slots" "[I" .null := D36 (Or.inl (hw _ (List.mem_of_getElem? (i := 26) rfl))) (ty := (.array .int)) (by decide)
  have F4 : Fld Z h36 b36 "com/example/window_payoff_solver/windowpayoffsolver/window/PairTable" "size" "I" (.int 0) := D36 (Or.inl (hw _ (List.mem_of_getElem? (i := 43) rfl))) (ty := .int) (by decide)
  have B1_36 := own_Af_ext B1 E36
  have B2_36 := own_As_ext B2 E36
  have B3_36 := own_Af_ext B3 E36
  have B4_36 := own_As_ext B4 E36
  refine own_go (fun _ k => XS.dup X36.here hx rfl (hb hby at_355) rfl rfl k) ?_
  show own_Go p e below _ T36 (mkF m 356 #[s0, s1, s2, s3, s4, s5, s6, s7, s8, s9, .val (.ref a10), .val (.ref a11), s12, s13, .val (.ref a14), .val (.ref a15), .val (.int (Int32.ofNat (nl + 1))), .val (.int (Int32.ofNat 0)), .val (.int (Int32.ofNat r1)), .val (.int (Int32.ofNat r2)), .val (.int (Int32.ofNat r3)), .unset, .unset, .unset, .unset, .unset, .unset] [(.ref b36), (.ref b36)])
  obtain ⟨T37, v37, L37, X37, q37, st37⟩ := own_callC X36 hx hZ (y := (⟨"com/example/window_payoff_solver/windowpayoffsolver/window/PairTable", "<init>", "()V"⟩ : MethodName)) rfl hown (hw _ (List.mem_of_getElem? (i := 15) rfl)) (hw _ (List.mem_of_getElem? (i := 16) rfl)) (hw _ (List.mem_of_getElem? (i := 14) rfl)) (hw _ (List.mem_of_getElem? (i := 17) rfl)) (by decide) (rmI l Z a0 hw [] b36 h36 n0 Zk A36 F1 F2 F3 F4 g_t) (Ls := #[s0, s1, s2, s3, s4, s5, s6, s7, s8, s9, .val (.ref a10), .val (.ref a11), s12, s13, .val (.ref a14), .val (.ref a15), .val (.int (Int32.ofNat (nl + 1))), .val (.int (Int32.ofNat 0)), .val (.int (Int32.ofNat r1)), .val (.int (Int32.ofNat r2)), .val (.int (Int32.ofNat r3)), .unset, .unset, .unset, .unset, .unset, .unset]) (st := [(.ref b36), (.ref b36)]) (a := b36) (W := 1) (by decide) (by decide) (by rw [hml]; rfl) (argsL := []) (rest := [(.ref b36)]) (lenOf pd_2 rfl) rfl rfl (Nat.le_of_eq rfl) (hb hby at_356) e36 (by decide) (by decide)
  obtain ⟨rfl, N37', K37, Tb37⟩ := q37
  have N37 := Fr.app N0 N37'
  refine own_go st37 ?_
  show own_Go p e below _ T37 (mkF m 359 #[s0, s1, s2, s3, s4, s5, s6, s7, s8, s9, .val (.ref a10), .val (.ref a11), s12, s13, .val (.ref a14), .val (.ref a15), .val (.int (Int32.ofNat (nl + 1))), .val (.int (Int32.ofNat 0)), .val (.int (Int32.ofNat r1)), .val (.int (Int32.ofNat r2)), .val (.int (Int32.ofNat r3)), .unset, .unset, .unset, .unset, .unset, .unset] [(.ref b36)])
  have B1_37 := own_Af_kp B1_36 K37 t10
  have B2_37 := own_As_kp B2_36 K37 t11
  have B3_37 := own_Af_kp B3_36 K37 t14
  have B4_37 := own_As_kp B4_36 K37 t15
  have Z_37 := Nat.le_trans Zk K37.2.1
  refine own_go (fun _ k => XS.astore X37.here hx rfl (hb hby at_359) rfl rfl (l' := #[s0, s1, s2, s3, s4, s5, s6, s7, s8, s9, .val (.ref a10), .val (.ref a11), s12, s13, .val (.ref a14), .val (.ref a15), .val (.int (Int32.ofNat (nl + 1))), .val (.int (Int32.ofNat 0)), .val (.int (Int32.ofNat r1)), .val (.int (Int32.ofNat r2)), .val (.int (Int32.ofNat r3)), .val (.ref b36), .unset, .unset, .unset, .unset, .unset]) rfl k) ?_
  show own_Go p e below _ T37 (mkF m 361 #[s0, s1, s2, s3, s4, s5, s6, s7, s8, s9, .val (.ref a10), .val (.ref a11), s12, s13, .val (.ref a14), .val (.ref a15), .val (.int (Int32.ofNat (nl + 1))), .val (.int (Int32.ofNat 0)), .val (.int (Int32.ofNat r1)), .val (.int (Int32.ofNat r2)), .val (.int (Int32.ofNat r3)), .val (.ref b36), .unset, .unset, .unset, .unset, .unset] [])
  refine own_go (fun _ k => XS.aload X37.here hx rfl (hb hby at_361) rfl rfl k) ?_
  show own_Go p e below _ T37 (mkF m 363 #[s0, s1, s2, s3, s4, s5, s6, s7, s8, s9, .val (.ref a10), .val (.ref a11), s12, s13, .val (.ref a14), .val (.ref a15), .val (.int (Int32.ofNat (nl + 1))), .val (.int (Int32.ofNat 0)), .val (.int (Int32.ofNat r1)), .val (.int (Int32.ofNat r2)), .val (.int (Int32.ofNat r3)), .val (.ref b36), .unset, .unset, .unset, .unset, .unset] [(.ref b36)])
  refine own_go (fun _ k => XS.aload X37.here hx rfl (hb hby at_363) rfl rfl k) ?_
  show own_Go p e below _ T37 (mkF m 365 #[s0, s1, s2, s3, s4, s5, s6, s7, s8, s9, .val (.ref a10), .val (.ref a11), s12, s13, .val (.ref a14), .val (.ref a15), .val (.int (Int32.ofNat (nl + 1))), .val (.int (Int32.ofNat 0)), .val (.int (Int32.ofNat r1)), .val (.int (Int32.ofNat r2)), .val (.int (Int32.ofNat r3)), .val (.ref b36), .unset, .unset, .unset, .unset, .unset] [(.ref a10), (.ref b36)])
  refine own_go (fun _ k => XS.iconst X37.here hx rfl (hb hby at_365) k) ?_
  show own_Go p e below _ T37 (mkF m 366 #[s0, s1, s2, s3, s4, s5, s6, s7, s8, s9, .val (.ref a10), .val (.ref a11), s12, s13, .val (.ref a14), .val (.ref a15), .val (.int (Int32.ofNat (nl + 1))), .val (.int (Int32.ofNat 0)), .val (.int (Int32.ofNat r1)), .val (.int (Int32.ofNat r2)), .val (.int (Int32.ofNat r3)), .val (.ref b36), .unset, .unset, .unset, .unset, .unset] [(.int (0 : Int32)), (.ref a10), (.ref b36)])
  obtain ⟨c_38, Ar_38, S_38, H_38⟩ := id B1_37
  refine own_go (fun _ k => X37.iaload hx (j := (0 : Int32)) (v := (.int x0.1)) Ar_38.1 (State.isArrayOf_alike hZ.alike Ar_38.2.1) Ar_38.2.2 (inb_of S_38 ⟨by decide, by decide⟩) (H_38 0 _ rfl) (g := (mkF m 366 #[s0, s1, s2, s3, s4, s5, s6, s7, s8, s9, .val (.ref a10), .val (.ref a11), s12, s13, .val (.ref a14), .val (.ref a15), .val (.int (Int32.ofNat (nl + 1))), .val (.int (Int32.ofNat 0)), .val (.int (Int32.ofNat r1)), .val (.int (Int32.ofNat r2)), .val (.int (Int32.ofNat r3)), .val (.ref b36), .unset, .unset, .unset, .unset, .unset] [(.int (0 : Int32)), (.ref a10), (.ref b36)])) rfl rfl (hb hby at_366) _ k) ?_
  show own_Go p e below _ T37 (mkF m 367 #[s0, s1, s2, s3, s4, s5, s6, s7, s8, s9, .val (.ref a10), .val (.ref a11), s12, s13, .val (.ref a14), .val (.ref a15), .val (.int (Int32.ofNat (nl + 1))), .val (.int (Int32.ofNat 0)), .val (.int (Int32.ofNat r1)), .val (.int (Int32.ofNat r2)), .val (.int (Int32.ofNat r3)), .val (.ref b36), .unset, .unset, .unset, .unset, .unset] [(.int x0.1), (.ref b36)])
  refine own_go (fun _ k => XS.aload X37.here hx rfl (hb hby at_367) rfl rfl k) ?_
  show own_Go p e below _ T37 (mkF m 369 #[s0, s1, s2, s3, s4, s5, s6, s7, s8, s9, .val (.ref a10), .val (.ref a11), s12, s13, .val (.ref a14), .val (.ref a15), .val (.int (Int32.ofNat (nl + 1))), .val (.int (Int32.ofNat 0)), .val (.int (Int32.ofNat r1)), .val (.int (Int32.ofNat r2)), .val (.int (Int32.ofNat r3)), .val (.ref b36), .unset, .unset, .unset, .unset, .unset] [(.ref a11), (.int x0.1), (.ref b36)])
  refine own_go (fun _ k => XS.iconst X37.here hx rfl (hb hby at_369) k) ?_
  show own_Go p e below _ T37 (mkF m 370 #[s0, s1, s2, s3, s4, s5, s6, s7, s8, s9, .val (.ref a10), .val (.ref a11), s12, s13, .val (.ref a14), .val (.ref a15), .val (.int (Int32.ofNat (nl + 1))), .val (.int (Int32.ofNat 0)), .val (.int (Int32.ofNat r1)), .val (.int (Int32.ofNat r2)), .val (.int (Int32.ofNat r3)), .val (.ref b36), .unset, .unset, .unset, .unset, .unset] [(.int (0 : Int32)), (.ref a11), (.int x0.1), (.ref b36)])
  obtain ⟨c_39, Ar_39, S_39, H_39⟩ := id B2_37
  refine own_go (fun _ k => X37.laload hx (j := (0 : Int32)) (v := (.long x0.2)) Ar_39.1 (State.isArrayOf_alike hZ.alike Ar_39.2.1) Ar_39.2.2 (inb_of S_39 ⟨by decide, by decide⟩) (H_39 0 _ rfl) (g := (mkF m 370 #[s0, s1, s2, s3, s4, s5, s6, s7, s8, s9, .val (.ref a10), .val (.ref a11), s12, s13, .val (.ref a14), .val (.ref a15), .val (.int (Int32.ofNat (nl + 1))), .val (.int (Int32.ofNat 0)), .val (.int (Int32.ofNat r1)), .val (.int (Int32.ofNat r2)), .val (.int (Int32.ofNat r3)), .val (.ref b36), .unset, .unset, .unset, .unset, .unset] [(.int (0 : Int32)), (.ref a11), (.int x0.1), (.ref b36)])) rfl rfl (hb hby at_370) _ k) ?_
  show own_Go p e below _ T37 (mkF m 371 #[s0, s1, s2, s3, s4, s5, s6, s7, s8, s9, .val (.ref a10), .val (.ref a11), s12, s13, .val (.ref a14), .val (.ref a15), .val (.int (Int32.ofNat (nl + 1))), .val (.int (Int32.ofNat 0)), .val (.int (Int32.ofNat r1)), .val (.int (Int32.ofNat r2)), .val (.int (Int32.ofNat r3)), .val (.ref b36), .unset, .unset, .unset, .unset, .unset] [(.long x0.2), (.int x0.1), (.ref b36)])
  obtain ⟨T40, v40, L40, X40, q40, st40⟩ := own_callV X37 hx hZ hown (y := (⟨"com/example/window_payoff_solver/windowpayoffsolver/window/PairTable", "index", "(IJ)I"⟩ : MethodName)) (hw _ (List.mem_of_getElem? (i := 27) rfl)) (hw _ (List.mem_of_getElem? (i := 28) rfl)) (hw _ (List.mem_of_getElem? (i := 30) rfl)) (hw _ (List.mem_of_getElem? (i := 29) rfl)) (hw _ (List.mem_of_getElem? (i := 14) rfl)) (hw _ (List.mem_of_getElem? (i := 31) rfl)) (by decide) (rmX l Z a0 hw [] b36 x0.1 x0.2 [] T37.heap n0 Z_37 (by omega) Tb37 g_t) (a := b36) (own_Tab_exa Tb37) (Ls := #[s0, s1, s2, s3, s4, s5, s6, s7, s8, s9, .val (.ref a10), .val (.ref a11), s12, s13, .val (.ref a14), .val (.ref a15), .val (.int (Int32.ofNat (nl + 1))), .val (.int (Int32.ofNat 0)), .val (.int (Int32.ofNat r1)), .val (.int (Int32.ofNat r2)), .val (.int (Int32.ofNat r3)), .val (.ref b36), .unset, .unset, .unset, .unset, .unset]) (st := [(.long x0.2), (.int x0.1), (.ref b36)]) (W := 0) (by decide) (by decide) (by rw [hml]; rfl) (argsL := [(.int x0.1), (.long x0.2)]) (rest := []) (lenOf pd_1 rfl) rfl rfl (Nat.le_of_eq rfl) (hb hby at_371) rfl (by decide) (by decide)
  obtain ⟨r_40, ps_40, rfl, J_40, N40', K40, Tb40⟩ := q40
  obtain ⟨rfl, rfl⟩ := own_det D0 J0 J_40
  have N40 := Fr.app N37 N40'
  refine own_go st40 ?_
  show own_Go p e below _ T40 (mkF m 374 #[s0, s1, s2, s3, s4, s5, s6, s7, s8, s9, .val (.ref a10), .val (.ref a11), s12, s13, .val (.ref a14), .val (.ref a15), .val (.int (Int32.ofNat (nl + 1))), .val (.int (Int32.ofNat 0)), .val (.int (Int32.ofNat r1)), .val (.int (Int32.ofNat r2)), .val (.int (Int32.ofNat r3)), .val (.ref b36), .unset, .unset, .unset, .unset, .unset] [(.int (Int32.ofNat 0))])
  have B1_40 := own_Af_kp B1_37 K40 t10
  have B2_40 := own_As_kp B2_37 K40 t11
  have B3_40 := own_Af_kp B3_37 K40 t14
  have B4_40 := own_As_kp B4_37 K40 t15
  have Z_40 := Nat.le_trans Z_37 K40.2.1
  refine own_go (fun _ k => XS.istore X40.here hx rfl (hb hby at_374) rfl (l' := #[s0, s1, s2, s3, s4, s5, s6, s7, s8, s9, .val (.ref a10), .val (.ref a11), s12, s13, .val (.ref a14), .val (.ref a15), .val (.int (Int32.ofNat (nl + 1))), .val (.int (Int32.ofNat 0)), .val (.int (Int32.ofNat r1)), .val (.int (Int32.ofNat r2)), .val (.int (Int32.ofNat r3)), .val (.ref b36), .val (.int (Int32.ofNat 0)), .unset, .unset, .unset, .unset]) rfl k) ?_
  show own_Go p e below _ T40 (mkF m 376 #[s0, s1, s2, s3, s4, s5, s6, s7, s8, s9, .val (.ref a10), .val (.ref a11), s12, s13, .val (.ref a14), .val (.ref a15), .val (.int (Int32.ofNat (nl + 1))), .val (.int (Int32.ofNat 0)), .val (.int (Int32.ofNat r1)), .val (.int (Int32.ofNat r2)), .val (.int (Int32.ofNat r3)), .val (.ref b36), .val (.int (Int32.ofNat 0)), .unset, .unset, .unset, .unset] [])
  refine own_go (fun _ k => XS.aload X40.here hx rfl (hb hby at_376) rfl rfl k) ?_
  show own_Go p e below _ T40 (mkF m 378 #[s0, s1, s2, s3, s4, s5, s6, s7, s8, s9, .val (.ref a10), .val (.ref a11), s12, s13, .val (.ref a14), .val (.ref a15), .val (.int (Int32.ofNat (nl + 1))), .val (.int (Int32.ofNat 0)), .val (.int (Int32.ofNat r1)), .val (.int (Int32.ofNat r2)), .val (.int (Int32.ofNat r3)), .val (.ref b36), .val (.int (Int32.ofNat 0)), .unset, .unset, .unset, .unset] [(.ref b36)])
  refine own_go (fun _ k => XS.aload X40.here hx rfl (hb hby at_378) rfl rfl k) ?_
  show own_Go p e below _ T40 (mkF m 380 #[s0, s1, s2, s3, s4, s5, s6, s7, s8, s9, .val (.ref a10), .val (.ref a11), s12, s13, .val (.ref a14), .val (.ref a15), .val (.int (Int32.ofNat (nl + 1))), .val (.int (Int32.ofNat 0)), .val (.int (Int32.ofNat r1)), .val (.int (Int32.ofNat r2)), .val (.int (Int32.ofNat r3)), .val (.ref b36), .val (.int (Int32.ofNat 0)), .unset, .unset, .unset, .unset] [(.ref a10), (.ref b36)])
  refine own_go (fun _ k => XS.iconst X40.here hx rfl (hb hby at_380) k) ?_
  show own_Go p e below _ T40 (mkF m 381 #[s0, s1, s2, s3, s4, s5, s6, s7, s8, s9, .val (.ref a10), .val (.ref a11), s12, s13, .val (.ref a14), .val (.ref a15), .val (.int (Int32.ofNat (nl + 1))), .val (.int (Int32.ofNat 0)), .val (.int (Int32.ofNat r1)), .val (.int (Int32.ofNat r2)), .val (.int (Int32.ofNat r3)), .val (.ref b36), .val (.int (Int32.ofNat 0)), .unset, .unset, .unset, .unset] [(.int (1 : Int32)), (.ref a10), (.ref b36)])
  obtain ⟨c_41, Ar_41, S_41, H_41⟩ := id B1_40
  refine own_go (fun _ k => X40.iaload hx (j := (1 : Int32)) (v := (.int x1.1)) Ar_41.1 (State.isArrayOf_alike hZ.alike Ar_41.2.1) Ar_41.2.2 (inb_of S_41 ⟨by decide, by decide⟩) (H_41 1 _ rfl) (g := (mkF m 381 #[s0, s1, s2, s3, s4, s5, s6, s7, s8, s9, .val (.ref a10), .val (.ref a11), s12, s13, .val (.ref a14), .val (.ref a15), .val (.int (Int32.ofNat (nl + 1))), .val (.int (Int32.ofNat 0)), .val (.int (Int32.ofNat r1)), .val (.int (Int32.ofNat r2)), .val (.int (Int32.ofNat r3)), .val (.ref b36), .val (.int (Int32.ofNat 0)), .unset, .unset, .unset, .unset] [(.int (1 : Int32)), (.ref a10), (.ref b36)])) rfl rfl (hb hby at_381) _ k) ?_
  show own_Go p e below _ T40 (mkF m 382 #[s0, s1, s2, s3, s4, s5, s6, s7, s8, s9, .val (.ref a10), .val (.ref a11), s12, s13, .val (.ref a14), .val (.ref a15), .val (.int (Int32.ofNat (nl + 1))), .val (.int (Int32.ofNat 0)), .val (.int (Int32.ofNat r1)), .val (.int (Int32.ofNat r2)), .val (.int (Int32.ofNat r3)), .val (.ref b36), .val (.int (Int32.ofNat 0)), .unset, .unset, .unset, .unset] [(.int x1.1), (.ref b36)])
  refine own_go (fun _ k => XS.aload X40.here hx rfl (hb hby at_382) rfl rfl k) ?_
  show own_Go p e below _ T40 (mkF m 384 #[s0, s1, s2, s3, s4, s5, s6, s7, s8, s9, .val (.ref a10), .val (.ref a11), s12, s13, .val (.ref a14), .val (.ref a15), .val (.int (Int32.ofNat (nl + 1))), .val (.int (Int32.ofNat 0)), .val (.int (Int32.ofNat r1)), .val (.int (Int32.ofNat r2)), .val (.int (Int32.ofNat r3)), .val (.ref b36), .val (.int (Int32.ofNat 0)), .unset, .unset, .unset, .unset] [(.ref a11), (.int x1.1), (.ref b36)])
  refine own_go (fun _ k => XS.iconst X40.here hx rfl (hb hby at_384) k) ?_
  show own_Go p e below _ T40 (mkF m 385 #[s0, s1, s2, s3, s4, s5, s6, s7, s8, s9, .val (.ref a10), .val (.ref a11), s12, s13, .val (.ref a14), .val (.ref a15), .val (.int (Int32.ofNat (nl + 1))), .val (.int (Int32.ofNat 0)), .val (.int (Int32.ofNat r1)), .val (.int (Int32.ofNat r2)), .val (.int (Int32.ofNat r3)), .val (.ref b36), .val (.int (Int32.ofNat 0)), .unset, .unset, .unset, .unset] [(.int (1 : Int32)), (.ref a11), (.int x1.1), (.ref b36)])
  obtain ⟨c_42, Ar_42, S_42, H_42⟩ := id B2_40
  refine own_go (fun _ k => X40.laload hx (j := (1 : Int32)) (v := (.long x1.2)) Ar_42.1 (State.isArrayOf_alike hZ.alike Ar_42.2.1) Ar_42.2.2 (inb_of S_42 ⟨by decide, by decide⟩) (H_42 1 _ rfl) (g := (mkF m 385 #[s0, s1, s2, s3, s4, s5, s6, s7, s8, s9, .val (.ref a10), .val (.ref a11), s12, s13, .val (.ref a14), .val (.ref a15), .val (.int (Int32.ofNat (nl + 1))), .val (.int (Int32.ofNat 0)), .val (.int (Int32.ofNat r1)), .val (.int (Int32.ofNat r2)), .val (.int (Int32.ofNat r3)), .val (.ref b36), .val (.int (Int32.ofNat 0)), .unset, .unset, .unset, .unset] [(.int (1 : Int32)), (.ref a11), (.int x1.1), (.ref b36)])) rfl rfl (hb hby at_385) _ k) ?_
  show own_Go p e below _ T40 (mkF m 386 #[s0, s1, s2, s3, s4, s5, s6, s7, s8, s9, .val (.ref a10), .val (.ref a11), s12, s13, .val (.ref a14), .val (.ref a15), .val (.int (Int32.ofNat (nl + 1))), .val (.int (Int32.ofNat 0)), .val (.int (Int32.ofNat r1)), .val (.int (Int32.ofNat r2)), .val (.int (Int32.ofNat r3)), .val (.ref b36), .val (.int (Int32.ofNat 0)), .unset, .unset, .unset, .unset] [(.long x1.2), (.int x1.1), (.ref b36)])
  obtain ⟨T43, v43, L43, X43, q43, st43⟩ := own_callV X40 hx hZ hown (y := (⟨"com/example/window_payoff_solver/windowpayoffsolver/window/PairTable", "index", "(IJ)I"⟩ : MethodName)) (hw _ (List.mem_of_getElem? (i := 27) rfl)) (hw _ (List.mem_of_getElem? (i := 28) rfl)) (hw _ (List.mem_of_getElem? (i := 30) rfl)) (hw _ (List.mem_of_getElem? (i := 29) rfl)) (hw _ (List.mem_of_getElem? (i := 14) rfl)) (hw _ (List.mem_of_getElem? (i := 31) rfl)) (by decide) (rmX l Z a0 hw [] b36 x1.1 x1.2 ps1 T40.heap n0 Z_40 (by omega) Tb40 g_t) (a := b36) (own_Tab_exa Tb40) (Ls := #[s0, s1, s2, s3, s4, s5, s6, s7, s8, s9, .val (.ref a10), .val (.ref a11), s12, s13, .val (.ref a14), .val (.ref a15), .val (.int (Int32.ofNat (nl + 1))), .val (.int (Int32.ofNat 0)), .val (.int (Int32.ofNat r1)), .val (.int (Int32.ofNat r2)), .val (.int (Int32.ofNat r3)), .val (.ref b36), .val (.int (Int32.ofNat 0)), .unset, .unset, .unset, .unset]) (st := [(.long x1.2), (.int x1.1), (.ref b36)]) (W := 0) (by decide) (by decide) (by rw [hml]; rfl) (argsL := [(.int x1.1), (.long x1.2)]) (rest := []) (lenOf pd_1 rfl) rfl rfl (Nat.le_of_eq rfl) (hb hby at_386) rfl (by decide) (by decide)
  obtain ⟨r_43, ps_43, rfl, J_43, N43', K43, Tb43⟩ := q43
  obtain ⟨rfl, rfl⟩ := own_det D1 J1 J_43
  have N43 := Fr.app N40 N43'
  refine own_go st43 ?_
  show own_Go p e below _ T43 (mkF m 389 #[s0, s1, s2, s3, s4, s5, s6, s7, s8, s9, .val (.ref a10), .val (.ref a11), s12, s13, .val (.ref a14), .val (.ref a15), .val (.int (Int32.ofNat (nl + 1))), .val (.int (Int32.ofNat 0)), .val (.int (Int32.ofNat r1)), .val (.int (Int32.ofNat r2)), .val (.int (Int32.ofNat r3)), .val (.ref b36), .val (.int (Int32.ofNat 0)), .unset, .unset, .unset, .unset] [(.int (Int32.ofNat r1))])
  have B1_43 := own_Af_kp B1_40 K43 t10
  have B2_43 := own_As_kp B2_40 K43 t11
  have B3_43 := own_Af_kp B3_40 K43 t14
  have B4_43 := own_As_kp B4_40 K43 t15
  have Z_43 := Nat.le_trans Z_40 K43.2.1
  refine own_go (fun _ k => XS.istore X43.here hx rfl (hb hby at_389) rfl (l' := #[s0, s1, s2, s3, s4, s5, s6, s7, s8, s9, .val (.ref a10), .val (.ref a11), s12, s13, .val (.ref a14), .val (.ref a15), .val (.int (Int32.ofNat (nl + 1))), .val (.int (Int32.ofNat 0)), .val (.int (Int32.ofNat r1)), .val (.int (Int32.ofNat r2)), .val (.int (Int32.ofNat r3)), .val (.ref b36), .val (.int (Int32.ofNat 0)), .val (.int (Int32.ofNat r1)), .unset, .unset, .unset]) rfl k) ?_
  show own_Go p e below _ T43 (mkF m 391 #[s0, s1, s2, s3, s4, s5, s6, s7, s8, s9, .val (.ref a10), .val (.ref a11), s12, s13, .val (.ref a14), .val (.ref a15), .val (.int (Int32.ofNat (nl + 1))), .val (.int (Int32.ofNat 0)), .val (.int (Int32.ofNat r1)), .val (.int (Int32.ofNat r2)), .val (.int (Int32.ofNat r3)), .val (.ref b36), .val (.int (Int32.ofNat 0)), .val (.int (Int32.ofNat r1)), .unset, .unset, .unset] [])
  refine own_go (fun _ k => XS.aload X43.here hx rfl (hb hby at_391) rfl rfl k) ?_
  show own_Go p e below _ T43 (mkF m 393 #[s0, s1, s2, s3, s4, s5, s6, s7, s8, s9, .val (.ref a10), .val (.ref a11), s12, s13, .val (.ref a14), .val (.ref a15), .val (.int (Int32.ofNat (nl + 1))), .val (.int (Int32.ofNat 0)), .val (.int (Int32.ofNat r1)), .val (.int (Int32.ofNat r2)), .val (.int (Int32.ofNat r3)), .val (.ref b36), .val (.int (Int32.ofNat 0)), .val (.int (Int32.ofNat r1)), .unset, .unset, .unset] [(.ref b36)])
  refine own_go (fun _ k => XS.aload X43.here hx rfl (hb hby at_393) rfl rfl k) ?_
  show own_Go p e below _ T43 (mkF m 395 #[s0, s1, s2, s3, s4, s5, s6, s7, s8, s9, .val (.ref a10), .val (.ref a11), s12, s13, .val (.ref a14), .val (.ref a15), .val (.int (Int32.ofNat (nl + 1))), .val (.int (Int32.ofNat 0)), .val (.int (Int32.ofNat r1)), .val (.int (Int32.ofNat r2)), .val (.int (Int32.ofNat r3)), .val (.ref b36), .val (.int (Int32.ofNat 0)), .val (.int (Int32.ofNat r1)), .unset, .unset, .unset] [(.ref a10), (.ref b36)])
  refine own_go (fun _ k => XS.iconst X43.here hx rfl (hb hby at_395) k) ?_
  show own_Go p e below _ T43 (mkF m 396 #[s0, s1, s2, s3, s4, s5, s6, s7, s8, s9, .val (.ref a10), .val (.ref a11), s12, s13, .val (.ref a14), .val (.ref a15), .val (.int (Int32.ofNat (nl + 1))), .val (.int (Int32.ofNat 0)), .val (.int (Int32.ofNat r1)), .val (.int (Int32.ofNat r2)), .val (.int (Int32.ofNat r3)), .val (.ref b36), .val (.int (Int32.ofNat 0)), .val (.int (Int32.ofNat r1)), .unset, .unset, .unset] [(.int (2 : Int32)), (.ref a10), (.ref b36)])
  obtain ⟨c_44, Ar_44, S_44, H_44⟩ := id B1_43
  refine own_go (fun _ k => X43.iaload hx (j := (2 : Int32)) (v := (.int x2.1)) Ar_44.1 (State.isArrayOf_alike hZ.alike Ar_44.2.1) Ar_44.2.2 (inb_of S_44 ⟨by decide, by decide⟩) (H_44 2 _ rfl) (g := (mkF m 396 #[s0, s1, s2, s3, s4, s5, s6, s7, s8, s9, .val (.ref a10), .val (.ref a11), s12, s13, .val (.ref a14), .val (.ref a15), .val (.int (Int32.ofNat (nl + 1))), .val (.int (Int32.ofNat 0)), .val (.int (Int32.ofNat r1)), .val (.int (Int32.ofNat r2)), .val (.int (Int32.ofNat r3)), .val (.ref b36), .val (.int (Int32.ofNat 0)), .val (.int (Int32.ofNat r1)), .unset, .unset, .unset] [(.int (2 : Int32)), (.ref a10), (.ref b36)])) rfl rfl (hb hby at_396) _ k) ?_
  show own_Go p e below _ T43 (mkF m 397 #[s0, s1, s2, s3, s4, s5, s6, s7, s8, s9, .val (.ref a10), .val (.ref a11), s12, s13, .val (.ref a14), .val (.ref a15), .val (.int (Int32.ofNat (nl + 1))), .val (.int (Int32.ofNat 0)), .val (.int (Int32.ofNat r1)), .val (.int (Int32.ofNat r2)), .val (.int (Int32.ofNat r3)), .val (.ref b36), .val (.int (Int32.ofNat 0)), .val (.int (Int32.ofNat r1)), .unset, .unset, .unset] [(.int x2.1), (.ref b36)])
  refine own_go (fun _ k => XS.aload X43.here hx rfl (hb hby at_397) rfl rfl k) ?_
  show own_Go p e below _ T43 (mkF m 399 #[s0, s1, s2, s3, s4, s5, s6, s7, s8, s9, .val (.ref a10), .val (.ref a11), s12, s13, .val (.ref a14), .val (.ref a15), .val (.int (Int32.ofNat (nl + 1))), .val (.int (Int32.ofNat 0)), .val (.int (Int32.ofNat r1)), .val (.int (Int32.ofNat r2)), .val (.int (Int32.ofNat r3)), .val (.ref b36), .val (.int (Int32.ofNat 0)), .val (.int (Int32.ofNat r1)), .unset, .unset, .unset] [(.ref a11), (.int x2.1), (.ref b36)])
  refine own_go (fun _ k => XS.iconst X43.here hx rfl (hb hby at_399) k) ?_
  show own_Go p e below _ T43 (mkF m 400 #[s0, s1, s2, s3, s4, s5, s6, s7, s8, s9, .val (.ref a10), .val (.ref a11), s12, s13, .val (.ref a14), .val (.ref a15), .val (.int (Int32.ofNat (nl + 1))), .val (.int (Int32.ofNat 0)), .val (.int (Int32.ofNat r1)), .val (.int (Int32.ofNat r2)), .val (.int (Int32.ofNat r3)), .val (.ref b36), .val (.int (Int32.ofNat 0)), .val (.int (Int32.ofNat r1)), .unset, .unset, .unset] [(.int (2 : Int32)), (.ref a11), (.int x2.1), (.ref b36)])
  obtain ⟨c_45, Ar_45, S_45, H_45⟩ := id B2_43
  refine own_go (fun _ k => X43.laload hx (j := (2 : Int32)) (v := (.long x2.2)) Ar_45.1 (State.isArrayOf_alike hZ.alike Ar_45.2.1) Ar_45.2.2 (inb_of S_45 ⟨by decide, by decide⟩) (H_45 2 _ rfl) (g := (mkF m 400 #[s0, s1, s2, s3, s4, s5, s6, s7, s8, s9, .val (.ref a10), .val (.ref a11), s12, s13, .val (.ref a14), .val (.ref a15), .val (.int (Int32.ofNat (nl + 1))), .val (.int (Int32.ofNat 0)), .val (.int (Int32.ofNat r1)), .val (.int (Int32.ofNat r2)), .val (.int (Int32.ofNat r3)), .val (.ref b36), .val (.int (Int32.ofNat 0)), .val (.int (Int32.ofNat r1)), .unset, .unset, .unset] [(.int (2 : Int32)), (.ref a11), (.int x2.1), (.ref b36)])) rfl rfl (hb hby at_400) _ k) ?_
  show own_Go p e below _ T43 (mkF m 401 #[s0, s1, s2, s3, s4, s5, s6, s7, s8, s9, .val (.ref a10), .val (.ref a11), s12, s13, .val (.ref a14), .val (.ref a15), .val (.int (Int32.ofNat (nl + 1))), .val (.int (Int32.ofNat 0)), .val (.int (Int32.ofNat r1)), .val (.int (Int32.ofNat r2)), .val (.int (Int32.ofNat r3)), .val (.ref b36), .val (.int (Int32.ofNat 0)), .val (.int (Int32.ofNat r1)), .unset, .unset, .unset] [(.long x2.2), (.int x2.1), (.ref b36)])
  obtain ⟨T46, v46, L46, X46, q46, st46⟩ := own_callV X43 hx hZ hown (y := (⟨"com/example/window_payoff_solver/windowpayoffsolver/window/PairTable", "index", "(IJ)I"⟩ : MethodName)) (hw _ (List.mem_of_getElem? (i := 27) rfl)) (hw _ (List.mem_of_getElem? (i := 28) rfl)) (hw _ (List.mem_of_getElem? (i := 30) rfl)) (hw _ (List.mem_of_getElem? (i := 29) rfl)) (hw _ (List.mem_of_getElem? (i := 14) rfl)) (hw _ (List.mem_of_getElem? (i := 31) rfl)) (by decide) (rmX l Z a0 hw [] b36 x2.1 x2.2 ps2 T43.heap n0 Z_43 (by omega) Tb43 g_t) (a := b36) (own_Tab_exa Tb43) (Ls := #[s0, s1, s2, s3, s4, s5, s6, s7, s8, s9, .val (.ref a10), .val (.ref a11), s12, s13, .val (.ref a14), .val (.ref a15), .val (.int (Int32.ofNat (nl + 1))), .val (.int (Int32.ofNat 0)), .val (.int (Int32.ofNat r1)), .val (.int (Int32.ofNat r2)), .val (.int (Int32.ofNat r3)), .val (.ref b36), .val (.int (Int32.ofNat 0)), .val (.int (Int32.ofNat r1)), .unset, .unset, .unset]) (st := [(.long x2.2), (.int x2.1), (.ref b36)]) (W := 0) (by decide) (by decide) (by rw [hml]; rfl) (argsL := [(.int x2.1), (.long x2.2)]) (rest := []) (lenOf pd_1 rfl) rfl rfl (Nat.le_of_eq rfl) (hb hby at_401) rfl (by decide) (by decide)
  obtain ⟨r_46, ps_46, rfl, J_46, N46', K46, Tb46⟩ := q46
  obtain ⟨rfl, rfl⟩ := own_det D2 J2 J_46
  have N46 := Fr.app N43 N46'
  refine own_go st46 ?_
  show own_Go p e below _ T46 (mkF m 404 #[s0, s1, s2, s3, s4, s5, s6, s7, s8, s9, .val (.ref a10), .val (.ref a11), s12, s13, .val (.ref a14), .val (.ref a15), .val (.int (Int32.ofNat (nl + 1))), .val (.int (Int32.ofNat 0)), .val (.int (Int32.ofNat r1)), .val (.int (Int32.ofNat r2)), .val (.int (Int32.ofNat r3)), .val (.ref b36), .val (.int (Int32.ofNat 0)), .val (.int (Int32.ofNat r1)), .unset, .unset, .unset] [(.int (Int32.ofNat r2))])
  have B1_46 := own_Af_kp B1_43 K46 t10
  have B2_46 := own_As_kp B2_43 K46 t11
  have B3_46 := own_Af_kp B3_43 K46 t14
  have B4_46 := own_As_kp B4_43 K46 t15
  have Z_46 := Nat.le_trans Z_43 K46.2.1
  refine own_go (fun _ k => XS.istore X46.here hx rfl (hb hby at_404) rfl (l' := #[s0, s1, s2, s3, s4, s5, s6, s7, s8, s9, .val (.ref a10), .val (.ref a11), s12, s13, .val (.ref a14), .val (.ref a15), .val (.int (Int32.ofNat (nl + 1))), .val (.int (Int32.ofNat 0)), .val (.int (Int32.ofNat r1)), .val (.int (Int32.ofNat r2)), .val (.int (Int32.ofNat r3)), .val (.ref b36), .val (.int (Int32.ofNat 0)), .val (.int (Int32.ofNat r1)), .val (.int (Int32.ofNat r2)), .unset, .unset]) rfl k) ?_
  show own_Go p e below _ T46 (mkF m 406 #[s0, s1, s2, s3, s4, s5, s6, s7, s8, s9, .val (.ref a10), .val (.ref a11), s12, s13, .val (.ref a14), .val (.ref a15), .val (.int (Int32.ofNat (nl + 1))), .val (.int (Int32.ofNat 0)), .val (.int (Int32.ofNat r1)), .val (.int (Int32.ofNat r2)), .val (.int (Int32.ofNat r3)), .val (.ref b36), .val (.int (Int32.ofNat 0)), .val (.int (Int32.ofNat r1)), .val (.int (Int32.ofNat r2)), .unset, .unset] [])
  refine own_go (fun _ k => XS.aload X46.here hx rfl (hb hby at_406) rfl rfl k) ?_
  show own_Go p e below _ T46 (mkF m 408 #[s0, s1, s2, s3, s4, s5, s6, s7, s8, s9, .val (.ref a10), .val (.ref a11), s12, s13, .val (.ref a14), .val (.ref a15), .val (.int (Int32.ofNat (nl + 1))), .val (.int (Int32.ofNat 0)), .val (.int (Int32.ofNat r1)), .val (.int (Int32.ofNat r2)), .val (.int (Int32.ofNat r3)), .val (.ref b36), .val (.int (Int32.ofNat 0)), .val (.int (Int32.ofNat r1)), .val (.int (Int32.ofNat r2)), .unset, .unset] [(.ref b36)])
  refine own_go (fun _ k => XS.aload X46.here hx rfl (hb hby at_408) rfl rfl k) ?_
  show own_Go p e below _ T46 (mkF m 410 #[s0, s1, s2, s3, s4, s5, s6, s7, s8, s9, .val (.ref a10), .val (.ref a11), s12, s13, .val (.ref a14), .val (.ref a15), .val (.int (Int32.ofNat (nl + 1))), .val (.int (Int32.ofNat 0)), .val (.int (Int32.ofNat r1)), .val (.int (Int32.ofNat r2)), .val (.int (Int32.ofNat r3)), .val (.ref b36), .val (.int (Int32.ofNat 0)), .val (.int (Int32.ofNat r1)), .val (.int (Int32.ofNat r2)), .unset, .unset] [(.ref a10), (.ref b36)])
  refine own_go (fun _ k => XS.iconst X46.here hx rfl (hb hby at_410) k) ?_
  show own_Go p e below _ T46 (mkF m 411 #[s0, s1, s2, s3, s4, s5, s6, s7, s8, s9, .val (.ref a10), .val (.ref a11), s12, s13, .val (.ref a14), .val (.ref a15), .val (.int (Int32.ofNat (nl + 1))), .val (.int (Int32.ofNat 0)), .val (.int (Int32.ofNat r1)), .val (.int (Int32.ofNat r2)), .val (.int (Int32.ofNat r3)), .val (.ref b36), .val (.int (Int32.ofNat 0)), .val (.int (Int32.ofNat r1)), .val (.int (Int32.ofNat r2)), .unset, .unset] [(.int (3 : Int32)), (.ref a10), (.ref b36)])
  obtain ⟨c_47, Ar_47, S_47, H_47⟩ := id B1_46
  refine own_go (fun _ k => X46.iaload hx (j := (3 : Int32)) (v := (.int x3.1)) Ar_47.1 (State.isArrayOf_alike hZ.alike Ar_47.2.1) Ar_47.2.2 (inb_of S_47 ⟨by decide, by decide⟩) (H_47 3 _ rfl) (g := (mkF m 411 #[s0, s1, s2, s3, s4, s5, s6, s7, s8, s9, .val (.ref a10), .val (.ref a11), s12, s13, .val (.ref a14), .val (.ref a15), .val (.int (Int32.ofNat (nl + 1))), .val (.int (Int32.ofNat 0)), .val (.int (Int32.ofNat r1)), .val (.int (Int32.ofNat r2)), .val (.int (Int32.ofNat r3)), .val (.ref b36), .val (.int (Int32.ofNat 0)), .val (.int (Int32.ofNat r1)), .val (.int (Int32.ofNat r2)), .unset, .unset] [(.int (3 : Int32)), (.ref a10), (.ref b36)])) rfl rfl (hb hby at_411) _ k) ?_
  show own_Go p e below _ T46 (mkF m 412 #[s0, s1, s2, s3, s4, s5, s6, s7, s8, s9, .val (.ref a10), .val (.ref a11), s12, s13, .val (.ref a14), .val (.ref a15), .val (.int (Int32.ofNat (nl + 1))), .val (.int (Int32.ofNat 0)), .val (.int (Int32.ofNat r1)), .val (.int (Int32.ofNat r2)), .val (.int (Int32.ofNat r3)), .val (.ref b36), .val (.int (Int32.ofNat 0)), .val (.int (Int32.ofNat r1)), .val (.int (Int32.ofNat r2)), .unset, .unset] [(.int x3.1), (.ref b36)])
  refine own_go (fun _ k => XS.aload X46.here hx rfl (hb hby at_412) rfl rfl k) ?_
  show own_Go p e below _ T46 (mkF m 414 #[s0, s1, s2, s3, s4, s5, s6, s7, s8, s9, .val (.ref a10), .val (.ref a11), s12, s13, .val (.ref a14), .val (.ref a15), .val (.int (Int32.ofNat (nl + 1))), .val (.int (Int32.ofNat 0)), .val (.int (Int32.ofNat r1)), .val (.int (Int32.ofNat r2)), .val (.int (Int32.ofNat r3)), .val (.ref b36), .val (.int (Int32.ofNat 0)), .val (.int (Int32.ofNat r1)), .val (.int (Int32.ofNat r2)), .unset, .unset] [(.ref a11), (.int x3.1), (.ref b36)])
  refine own_go (fun _ k => XS.iconst X46.here hx rfl (hb hby at_414) k) ?_
  show own_Go p e below _ T46 (mkF m 415 #[s0, s1, s2, s3, s4, s5, s6, s7, s8, s9, .val (.ref a10), .val (.ref a11), s12, s13, .val (.ref a14), .val (.ref a15), .val (.int (Int32.ofNat (nl + 1))), .val (.int (Int32.ofNat 0)), .val (.int (Int32.ofNat r1)), .val (.int (Int32.ofNat r2)), .val (.int (Int32.ofNat r3)), .val (.ref b36), .val (.int (Int32.ofNat 0)), .val (.int (Int32.ofNat r1)), .val (.int (Int32.ofNat r2)), .unset, .unset] [(.int (3 : Int32)), (.ref a11), (.int x3.1), (.ref b36)])
  obtain ⟨c_48, Ar_48, S_48, H_48⟩ := id B2_46
  refine own_go (fun _ k => X46.laload hx (j := (3 : Int32)) (v := (.long x3.2)) Ar_48.1 (State.isArrayOf_alike hZ.alike Ar_48.2.1) Ar_48.2.2 (inb_of S_48 ⟨by decide, by decide⟩) (H_48 3 _ rfl) (g := (mkF m 415 #[s0, s1, s2, s3, s4, s5, s6, s7, s8, s9, .val (.ref a10), .val (.ref a11), s12, s13, .val (.ref a14), .val (.ref a15), .val (.int (Int32.ofNat (nl + 1))), .val (.int (Int32.ofNat 0)), .val (.int (Int32.ofNat r1)), .val (.int (Int32.ofNat r2)), .val (.int (Int32.ofNat r3)), .val (.ref b36), .val (.int (Int32.ofNat 0)), .val (.int (Int32.ofNat r1)), .val (.int (Int32.ofNat r2)), .unset, .unset] [(.int (3 : Int32)), (.ref a11), (.int x3.1), (.ref b36)])) rfl rfl (hb hby at_415) _ k) ?_
  show own_Go p e below _ T46 (mkF m 416 #[s0, s1, s2, s3, s4, s5, s6, s7, s8, s9, .val (.ref a10), .val (.ref a11), s12, s13, .val (.ref a14), .val (.ref a15), .val (.int (Int32.ofNat (nl + 1))), .val (.int (Int32.ofNat 0)), .val (.int (Int32.ofNat r1)), .val (.int (Int32.ofNat r2)), .val (.int (Int32.ofNat r3)), .val (.ref b36), .val (.int (Int32.ofNat 0)), .val (.int (Int32.ofNat r1)), .val (.int (Int32.ofNat r2)), .unset, .unset] [(.long x3.2), (.int x3.1), (.ref b36)])
  obtain ⟨T49, v49, L49, X49, q49, st49⟩ := own_callV X46 hx hZ hown (y := (⟨"com/example/window_payoff_solver/windowpayoffsolver/window/PairTable", "index", "(IJ)I"⟩ : MethodName)) (hw _ (List.mem_of_getElem? (i := 27) rfl)) (hw _ (List.mem_of_getElem? (i := 28) rfl)) (hw _ (List.mem_of_getElem? (i := 30) rfl)) (hw _ (List.mem_of_getElem? (i := 29) rfl)) (hw _ (List.mem_of_getElem? (i := 14) rfl)) (hw _ (List.mem_of_getElem? (i := 31) rfl)) (by decide) (rmX l Z a0 hw [] b36 x3.1 x3.2 ps3 T46.heap n0 Z_46 (by omega) Tb46 g_t) (a := b36) (own_Tab_exa Tb46) (Ls := #[s0, s1, s2, s3, s4, s5, s6, s7, s8, s9, .val (.ref a10), .val (.ref a11), s12, s13, .val (.ref a14), .val (.ref a15), .val (.int (Int32.ofNat (nl + 1))), .val (.int (Int32.ofNat 0)), .val (.int (Int32.ofNat r1)), .val (.int (Int32.ofNat r2)), .val (.int (Int32.ofNat r3)), .val (.ref b36), .val (.int (Int32.ofNat 0)), .val (.int (Int32.ofNat r1)), .val (.int (Int32.ofNat r2)), .unset, .unset]) (st := [(.long x3.2), (.int x3.1), (.ref b36)]) (W := 0) (by decide) (by decide) (by rw [hml]; rfl) (argsL := [(.int x3.1), (.long x3.2)]) (rest := []) (lenOf pd_1 rfl) rfl rfl (Nat.le_of_eq rfl) (hb hby at_416) rfl (by decide) (by decide)
  obtain ⟨r_49, ps_49, rfl, J_49, N49', K49, Tb49⟩ := q49
  obtain ⟨rfl, rfl⟩ := own_det D3 J3 J_49
  have N49 := Fr.app N46 N49'
  refine own_go st49 ?_
  show own_Go p e below _ T49 (mkF m 419 #[s0, s1, s2, s3, s4, s5, s6, s7, s8, s9, .val (.ref a10), .val (.ref a11), s12, s13, .val (.ref a14), .val (.ref a15), .val (.int (Int32.ofNat (nl + 1))), .val (.int (Int32.ofNat 0)), .val (.int (Int32.ofNat r1)), .val (.int (Int32.ofNat r2)), .val (.int (Int32.ofNat r3)), .val (.ref b36), .val (.int (Int32.ofNat 0)), .val (.int (Int32.ofNat r1)), .val (.int (Int32.ofNat r2)), .unset, .unset] [(.int (Int32.ofNat r3))])
  have B1_49 := own_Af_kp B1_46 K49 t10
  have B2_49 := own_As_kp B2_46 K49 t11
  have B3_49 := own_Af_kp B3_46 K49 t14
  have B4_49 := own_As_kp B4_46 K49 t15
  have Z_49 := Nat.le_trans Z_46 K49.2.1
  refine own_go (fun _ k => XS.istore X49.here hx rfl (hb hby at_419) rfl (l' := #[s0, s1, s2, s3, s4, s5, s6, s7, s8, s9, .val (.ref a10), .val (.ref a11), s12, s13, .val (.ref a14), .val (.ref a15), .val (.int (Int32.ofNat (nl + 1))), .val (.int (Int32.ofNat 0)), .val (.int (Int32.ofNat r1)), .val (.int (Int32.ofNat r2)), .val (.int (Int32.ofNat r3)), .val (.ref b36), .val (.int (Int32.ofNat 0)), .val (.int (Int32.ofNat r1)), .val (.int (Int32.ofNat r2)), .val (.int (Int32.ofNat r3)), .unset]) rfl k) ?_
  show own_Go p e below _ T49 (mkF m 421 #[s0, s1, s2, s3, s4, s5, s6, s7, s8, s9, .val (.ref a10), .val (.ref a11), s12, s13, .val (.ref a14), .val (.ref a15), .val (.int (Int32.ofNat (nl + 1))), .val (.int (Int32.ofNat 0)), .val (.int (Int32.ofNat r1)), .val (.int (Int32.ofNat r2)), .val (.int (Int32.ofNat r3)), .val (.ref b36), .val (.int (Int32.ofNat 0)), .val (.int (Int32.ofNat r1)), .val (.int (Int32.ofNat r2)), .val (.int (Int32.ofNat r3)), .unset] [])
  refine own_go (fun _ k => XS.iload X49.here hx rfl (hb hby at_421) rfl  k) ?_
  show own_Go p e below _ T49 (mkF m 423 #[s0, s1, s2, s3, s4, s5, s6, s7, s8, s9, .val (.ref a10), .val (.ref a11), s12, s13, .val (.ref a14), .val (.ref a15), .val (.int (Int32.ofNat (nl + 1))), .val (.int (Int32.ofNat 0)), .val (.int (Int32.ofNat r1)), .val (.int (Int32.ofNat r2)), .val (.int (Int32.ofNat r3)), .val (.ref b36), .val (.int (Int32.ofNat 0)), .val (.int (Int32.ofNat r1)), .val (.int (Int32.ofNat r2)), .val (.int (Int32.ofNat r3)), .unset] [(.int (Int32.ofNat 0))])
  refine own_go (fun _ k => XS.iload X49.here hx rfl (hb hby at_423) rfl  k) ?_
  show own_Go p e below _ T49 (mkF m 425 #[s0, s1, s2, s3, s4, s5, s6, s7, s8, s9, .val (.ref a10), .val (.ref a11), s12, s13, .val (.ref a14), .val (.ref a15), .val (.int (Int32.ofNat (nl + 1))), .val (.int (Int32.ofNat 0)), .val (.int (Int32.ofNat r1)), .val (.int (Int32.ofNat r2)), .val (.int (Int32.ofNat r3)), .val (.ref b36), .val (.int (Int32.ofNat 0)), .val (.int (Int32.ofNat r1)), .val (.int (Int32.ofNat r2)), .val (.int (Int32.ofNat r3)), .unset] [(.int (Int32.ofNat 0)), (.int (Int32.ofNat 0))])
  refine own_go (fun _ k => XS.icmpNo X49.here hx rfl (hb hby at_425) rfl (teq rfl).2 k) ?_
  show own_Go p e below _ T49 (mkF m 428 #[s0, s1, s2, s3, s4, s5, s6, s7, s8, s9, .val (.ref a10), .val (.ref a11), s12, s13, .val (.ref a14), .val (.ref a15), .val (.int (Int32.ofNat (nl + 1))), .val (.int (Int32.ofNat 0)), .val (.int (Int32.ofNat r1)), .val (.int (Int32.ofNat r2)), .val (.int (Int32.ofNat r3)), .val (.ref b36), .val (.int (Int32.ofNat 0)), .val (.int (Int32.ofNat r1)), .val (.int (Int32.ofNat r2)), .val (.int (Int32.ofNat r3)), .unset] [])
  refine own_go (fun _ k => XS.iload X49.here hx rfl (hb hby at_428) rfl  k) ?_
  show own_Go p e below _ T49 (mkF m 430 #[s0, s1, s2, s3, s4, s5, s6, s7, s8, s9, .val (.ref a10), .val (.ref a11), s12, s13, .val (.ref a14), .val (.ref a15), .val (.int (Int32.ofNat (nl + 1))), .val (.int (Int32.ofNat 0)), .val (.int (Int32.ofNat r1)), .val (.int (Int32.ofNat r2)), .val (.int (Int32.ofNat r3)), .val (.ref b36), .val (.int (Int32.ofNat 0)), .val (.int (Int32.ofNat r1)), .val (.int (Int32.ofNat r2)), .val (.int (Int32.ofNat r3)), .unset] [(.int (Int32.ofNat r1))])
  refine own_go (fun _ k => XS.iload X49.here hx rfl (hb hby at_430) rfl  k) ?_
  show own_Go p e below _ T49 (mkF m 432 #[s0, s1, s2, s3, s4, s5, s6, s7, s8, s9, .val (.ref a10), .val (.ref a11), s12, s13, .val (.ref a14), .val (.ref a15), .val (.int (Int32.ofNat (nl + 1))), .val (.int (Int32.ofNat 0)), .val (.int (Int32.ofNat r1)), .val (.int (Int32.ofNat r2)), .val (.int (Int32.ofNat r3)), .val (.ref b36), .val (.int (Int32.ofNat 0)), .val (.int (Int32.ofNat r1)), .val (.int (Int32.ofNat r2)), .val (.int (Int32.ofNat r3)), .unset] [(.int (Int32.ofNat r1)), (.int (Int32.ofNat r1))])
  refine own_go (fun _ k => XS.icmpNo X49.here hx rfl (hb hby at_432) rfl (teq rfl).2 k) ?_
  show own_Go p e below _ T49 (mkF m 435 #[s0, s1, s2, s3, s4, s5, s6, s7, s8, s9, .val (.ref a10), .val (.ref a11), s12, s13, .val (.ref a14), .val (.ref a15), .val (.int (Int32.ofNat (nl + 1))), .val (.int (Int32.ofNat 0)), .val (.int (Int32.ofNat r1)), .val (.int (Int32.ofNat r2)), .val (.int (Int32.ofNat r3)), .val (.ref b36), .val (.int (Int32.ofNat 0)), .val (.int (Int32.ofNat r1)), .val (.int (Int32.ofNat r2)), .val (.int (Int32.ofNat r3)), .unset] [])
  refine own_go (fun _ k => XS.iload X49.here hx rfl (hb hby at_435) rfl  k) ?_
  show own_Go p e below _ T49 (mkF m 437 #[s0, s1, s2, s3, s4, s5, s6, s7, s8, s9, .val (.ref a10), .val (.ref a11), s12, s13, .val (.ref a14), .val (.ref a15), .val (.int (Int32.ofNat (nl + 1))), .val (.int (Int32.ofNat 0)), .val (.int (Int32.ofNat r1)), .val (.int (Int32.ofNat r2)), .val (.int (Int32.ofNat r3)), .val (.ref b36), .val (.int (Int32.ofNat 0)), .val (.int (Int32.ofNat r1)), .val (.int (Int32.ofNat r2)), .val (.int (Int32.ofNat r3)), .unset] [(.int (Int32.ofNat r2))])
  refine own_go (fun _ k => XS.iload X49.here hx rfl (hb hby at_437) rfl  k) ?_
  show own_Go p e below _ T49 (mkF m 439 #[s0, s1, s2, s3, s4, s5, s6, s7, s8, s9, .val (.ref a10), .val (.ref a11), s12, s13, .val (.ref a14), .val (.ref a15), .val (.int (Int32.ofNat (nl + 1))), .val (.int (Int32.ofNat 0)), .val (.int (Int32.ofNat r1)), .val (.int (Int32.ofNat r2)), .val (.int (Int32.ofNat r3)), .val (.ref b36), .val (.int (Int32.ofNat 0)), .val (.int (Int32.ofNat r1)), .val (.int (Int32.ofNat r2)), .val (.int (Int32.ofNat r3)), .unset] [(.int (Int32.ofNat r2)), (.int (Int32.ofNat r2))])
  refine own_go (fun _ k => XS.icmpNo X49.here hx rfl (hb hby at_439) rfl (teq rfl).2 k) ?_
  show own_Go p e below _ T49 (mkF m 442 #[s0, s1, s2, s3, s4, s5, s6, s7, s8, s9, .val (.ref a10), .val (.ref a11), s12, s13, .val (.ref a14), .val (.ref a15), .val (.int (Int32.ofNat (nl + 1))), .val (.int (Int32.ofNat 0)), .val (.int (Int32.ofNat r1)), .val (.int (Int32.ofNat r2)), .val (.int (Int32.ofNat r3)), .val (.ref b36), .val (.int (Int32.ofNat 0)), .val (.int (Int32.ofNat r1)), .val (.int (Int32.ofNat r2)), .val (.int (Int32.ofNat r3)), .unset] [])
  refine own_go (fun _ k => XS.iload X49.here hx rfl (hb hby at_442) rfl  k) ?_
  show own_Go p e below _ T49 (mkF m 444 #[s0, s1, s2, s3, s4, s5, s6, s7, s8, s9, .val (.ref a10), .val (.ref a11), s12, s13, .val (.ref a14), .val (.ref a15), .val (.int (Int32.ofNat (nl + 1))), .val (.int (Int32.ofNat 0)), .val (.int (Int32.ofNat r1)), .val (.int (Int32.ofNat r2)), .val (.int (Int32.ofNat r3)), .val (.ref b36), .val (.int (Int32.ofNat 0)), .val (.int (Int32.ofNat r1)), .val (.int (Int32.ofNat r2)), .val (.int (Int32.ofNat r3)), .unset] [(.int (Int32.ofNat r3))])
  refine own_go (fun _ k => XS.iload X49.here hx rfl (hb hby at_444) rfl  k) ?_
  show own_Go p e below _ T49 (mkF m 446 #[s0, s1, s2, s3, s4, s5, s6, s7, s8, s9, .val (.ref a10), .val (.ref a11), s12, s13, .val (.ref a14), .val (.ref a15), .val (.int (Int32.ofNat (nl + 1))), .val (.int (Int32.ofNat 0)), .val (.int (Int32.ofNat r1)), .val (.int (Int32.ofNat r2)), .val (.int (Int32.ofNat r3)), .val (.ref b36), .val (.int (Int32.ofNat 0)), .val (.int (Int32.ofNat r1)), .val (.int (Int32.ofNat r2)), .val (.int (Int32.ofNat r3)), .unset] [(.int (Int32.ofNat r3)), (.int (Int32.ofNat r3))])
  refine own_go (fun _ k => XS.icmpNo X49.here hx rfl (hb hby at_446) rfl (teq rfl).2 k) ?_
  show own_Go p e below _ T49 (mkF m 449 #[s0, s1, s2, s3, s4, s5, s6, s7, s8, s9, .val (.ref a10), .val (.ref a11), s12, s13, .val (.ref a14), .val (.ref a15), .val (.int (Int32.ofNat (nl + 1))), .val (.int (Int32.ofNat 0)), .val (.int (Int32.ofNat r1)), .val (.int (Int32.ofNat r2)), .val (.int (Int32.ofNat r3)), .val (.ref b36), .val (.int (Int32.ofNat 0)), .val (.int (Int32.ofNat r1)), .val (.int (Int32.ofNat r2)), .val (.int (Int32.ofNat r3)), .unset] [])
  refine own_go (fun _ k => XS.aload X49.here hx rfl (hb hby at_449) rfl rfl k) ?_
  show own_Go p e below _ T49 (mkF m 451 #[s0, s1, s2, s3, s4, s5, s6, s7, s8, s9, .val (.ref a10), .val (.ref a11), s12, s13, .val (.ref a14), .val (.ref a15), .val (.int (Int32.ofNat (nl + 1))), .val (.int (Int32.ofNat 0)), .val (.int (Int32.ofNat r1)), .val (.int (Int32.ofNat r2)), .val (.int (Int32.ofNat r3)), .val (.ref b36), .val (.int (Int32.ofNat 0)), .val (.int (Int32.ofNat r1)), .val (.int (Int32.ofNat r2)), .val (.int (Int32.ofNat r3)), .unset] [(.ref b36)])
  obtain ⟨T50, v50, L50, X50, q50, st50⟩ := own_callV X49 hx hZ hown (y := (⟨"com/example/window_payoff_solver/windowpayoffsolver/window/PairTable", "size", "()I"⟩ : MethodName)) (hw _ (List.mem_of_getElem? (i := 45) rfl)) (hw _ (List.mem_of_getElem? (i := 46) rfl)) (hw _ (List.mem_of_getElem? (i := 48) rfl)) (hw _ (List.mem_of_getElem? (i := 47) rfl)) (hw _ (List.mem_of_getElem? (i := 14) rfl)) (hw _ (List.mem_of_getElem? (i := 49) rfl)) (by decide) (rmZ l Z a0 hw [] b36 ps4 T49.heap n0 Z_49 Tb49) (a := b36) (own_Tab_exa Tb49) (Ls := #[s0, s1, s2, s3, s4, s5, s6, s7, s8, s9, .val (.ref a10), .val (.ref a11), s12, s13, .val (.ref a14), .val (.ref a15), .val (.int (Int32.ofNat (nl + 1))), .val (.int (Int32.ofNat 0)), .val (.int (Int32.ofNat r1)), .val (.int (Int32.ofNat r2)), .val (.int (Int32.ofNat r3)), .val (.ref b36), .val (.int (Int32.ofNat 0)), .val (.int (Int32.ofNat r1)), .val (.int (Int32.ofNat r2)), .val (.int (Int32.ofNat r3)), .unset]) (st := [(.ref b36)]) (W := 0) (by decide) (by decide) (by rw [hml]; rfl) (argsL := []) (rest := []) (lenOf pd_3 rfl) rfl rfl (Nat.le_of_eq rfl) (hb hby at_451) rfl (by decide) (by decide)
  obtain ⟨rfl, N50', e50⟩ := q50
  have N50 := Fr.app N49 N50'
  refine own_go st50 ?_
  show own_Go p e below _ T50 (mkF m 454 #[s0, s1, s2, s3, s4, s5, s6, s7, s8, s9, .val (.ref a10), .val (.ref a11), s12, s13, .val (.ref a14), .val (.ref a15), .val (.int (Int32.ofNat (nl + 1))), .val (.int (Int32.ofNat 0)), .val (.int (Int32.ofNat r1)), .val (.int (Int32.ofNat r2)), .val (.int (Int32.ofNat r3)), .val (.ref b36), .val (.int (Int32.ofNat 0)), .val (.int (Int32.ofNat r1)), .val (.int (Int32.ofNat r2)), .val (.int (Int32.ofNat r3)), .unset] [(.int (Int32.ofNat ps4.length))])
  rw [hnl]
  show own_Go p e below _ T50 (mkF m 454 #[s0, s1, s2, s3, s4, s5, s6, s7, s8, s9, .val (.ref a10), .val (.ref a11), s12, s13, .val (.ref a14), .val (.ref a15), .val (.int (Int32.ofNat (nl + 1))), .val (.int (Int32.ofNat 0)), .val (.int (Int32.ofNat r1)), .val (.int (Int32.ofNat r2)), .val (.int (Int32.ofNat r3)), .val (.ref b36), .val (.int (Int32.ofNat 0)), .val (.int (Int32.ofNat r1)), .val (.int (Int32.ofNat r2)), .val (.int (Int32.ofNat r3)), .unset] [(.int (Int32.ofNat (nl + 1)))])
  refine own_go (fun _ k => XS.iload X50.here hx rfl (hb hby at_454) rfl  k) ?_
  show own_Go p e below _ T50 (mkF m 456 #[s0, s1, s2, s3, s4, s5, s6, s7, s8, s9, .val (.ref a10), .val (.ref a11), s12, s13, .val (.ref a14), .val (.ref a15), .val (.int (Int32.ofNat (nl + 1))), .val (.int (Int32.ofNat 0)), .val (.int (Int32.ofNat r1)), .val (.int (Int32.ofNat r2)), .val (.int (Int32.ofNat r3)), .val (.ref b36), .val (.int (Int32.ofNat 0)), .val (.int (Int32.ofNat r1)), .val (.int (Int32.ofNat r2)), .val (.int (Int32.ofNat r3)), .unset] [(.int (Int32.ofNat (nl + 1))), (.int (Int32.ofNat (nl + 1)))])
  refine own_go (fun _ k => XS.icmpNo X50.here hx rfl (hb hby at_456) rfl (teq rfl).2 k) ?_
  show own_Go p e below _ T50 (mkF m 459 #[s0, s1, s2, s3, s4, s5, s6, s7, s8, s9, .val (.ref a10), .val (.ref a11), s12, s13, .val (.ref a14), .val (.ref a15), .val (.int (Int32.ofNat (nl + 1))), .val (.int (Int32.ofNat 0)), .val (.int (Int32.ofNat r1)), .val (.int (Int32.ofNat r2)), .val (.int (Int32.ofNat r3)), .val (.ref b36), .val (.int (Int32.ofNat 0)), .val (.int (Int32.ofNat r1)), .val (.int (Int32.ofNat r2)), .val (.int (Int32.ofNat r3)), .unset] [])
  refine own_go (fun _ k => XS.iconst X50.here hx rfl (hb hby at_459) k) ?_
  show own_Go p e below _ T50 (mkF m 460 #[s0, s1, s2, s3, s4, s5, s6, s7, s8, s9, .val (.ref a10), .val (.ref a11), s12, s13, .val (.ref a14), .val (.ref a15), .val (.int (Int32.ofNat (nl + 1))), .val (.int (Int32.ofNat 0)), .val (.int (Int32.ofNat r1)), .val (.int (Int32.ofNat r2)), .val (.int (Int32.ofNat r3)), .val (.ref b36), .val (.int (Int32.ofNat 0)), .val (.int (Int32.ofNat r1)), .val (.int (Int32.ofNat r2)), .val (.int (Int32.ofNat r3)), .unset] [(.int (1 : Int32))])
  refine own_go (fun _ k => XS.goto X50.here hx rfl (pc0 := 460) (pc' := 464) rfl (hb hby at_460) (by decide) (by decide) k) ?_
  show own_Go p e below _ T50 (mkF m 464 #[s0, s1, s2, s3, s4, s5, s6, s7, s8, s9, .val (.ref a10), .val (.ref a11), s12, s13, .val (.ref a14), .val (.ref a15), .val (.int (Int32.ofNat (nl + 1))), .val (.int (Int32.ofNat 0)), .val (.int (Int32.ofNat r1)), .val (.int (Int32.ofNat r2)), .val (.int (Int32.ofNat r3)), .val (.ref b36), .val (.int (Int32.ofNat 0)), .val (.int (Int32.ofNat r1)), .val (.int (Int32.ofNat r2)), .val (.int (Int32.ofNat r3)), .unset] [(.int (1 : Int32))])
  refine own_go (fun _ k => XS.istore X50.here hx rfl (hb hby at_464) rfl (l' := #[s0, s1, s2, s3, s4, s5, s6, s7, s8, s9, .val (.ref a10), .val (.ref a11), s12, s13, .val (.ref a14), .val (.ref a15), .val (.int (Int32.ofNat (nl + 1))), .val (.int (Int32.ofNat 0)), .val (.int (Int32.ofNat r1)), .val (.int (Int32.ofNat r2)), .val (.int (Int32.ofNat r3)), .val (.ref b36), .val (.int (Int32.ofNat 0)), .val (.int (Int32.ofNat r1)), .val (.int (Int32.ofNat r2)), .val (.int (Int32.ofNat r3)), .val (.int (1 : Int32))]) rfl k) ?_
  show own_Go p e below _ T50 (mkF m 466 #[s0, s1, s2, s3, s4, s5, s6, s7, s8, s9, .val (.ref a10), .val (.ref a11), s12, s13, .val (.ref a14), .val (.ref a15), .val (.int (Int32.ofNat (nl + 1))), .val (.int (Int32.ofNat 0)), .val (.int (Int32.ofNat r1)), .val (.int (Int32.ofNat r2)), .val (.int (Int32.ofNat r3)), .val (.ref b36), .val (.int (Int32.ofNat 0)), .val (.int (Int32.ofNat r1)), .val (.int (Int32.ofNat r2)), .val (.int (Int32.ofNat r3)), .val (.int (1 : Int32))] [])
  refine own_go (fun _ k => XS.iload X50.here hx rfl (hb hby at_466) rfl  k) ?_
  show own_Go p e below _ T50 (mkF m 468 #[s0, s1, s2, s3, s4, s5, s6, s7, s8, s9, .val (.ref a10), .val (.ref a11), s12, s13, .val (.ref a14), .val (.ref a15), .val (.int (Int32.ofNat (nl + 1))), .val (.int (Int32.ofNat 0)), .val (.int (Int32.ofNat r1)), .val (.int (Int32.ofNat r2)), .val (.int (Int32.ofNat r3)), .val (.ref b36), .val (.int (Int32.ofNat 0)), .val (.int (Int32.ofNat r1)), .val (.int (Int32.ofNat r2)), .val (.int (Int32.ofNat r3)), .val (.int (1 : Int32))] [(.int (1 : Int32))])
  refine own_go (fun _ k => XS.ifNo X50.here hx rfl (hb hby at_468) rfl ((if0 _ _).trans (feq (by decide)).1) k) ?_
  show own_Go p e below _ T50 (mkF m 471 #[s0, s1, s2, s3, s4, s5, s6, s7, s8, s9, .val (.ref a10), .val (.ref a11), s12, s13, .val (.ref a14), .val (.ref a15), .val (.int (Int32.ofNat (nl + 1))), .val (.int (Int32.ofNat 0)), .val (.int (Int32.ofNat r1)), .val (.int (Int32.ofNat r2)), .val (.int (Int32.ofNat r3)), .val (.ref b36), .val (.int (Int32.ofNat 0)), .val (.int (Int32.ofNat r1)), .val (.int (Int32.ofNat r2)), .val (.int (Int32.ofNat r3)), .val (.int (1 : Int32))] [])
  refine own_go (fun _ k => XS.aload X50.here hx rfl (hb hby at_471) rfl rfl k) ?_
  show own_Go p e below _ T50 (mkF m 473 #[s0, s1, s2, s3, s4, s5, s6, s7, s8, s9, .val (.ref a10), .val (.ref a11), s12, s13, .val (.ref a14), .val (.ref a15), .val (.int (Int32.ofNat (nl + 1))), .val (.int (Int32.ofNat 0)), .val (.int (Int32.ofNat r1)), .val (.int (Int32.ofNat r2)), .val (.int (Int32.ofNat r3)), .val (.ref b36), .val (.int (Int32.ofNat 0)), .val (.int (Int32.ofNat r1)), .val (.int (Int32.ofNat r2)), .val (.int (Int32.ofNat r3)), .val (.int (1 : Int32))] [(.ref b36)])
  refine own_go (fun _ k => XS.iload X50.here hx rfl (hb hby at_473) rfl  k) ?_
  show own_Go p e below _ T50 (mkF m 475 #[s0, s1, s2, s3, s4, s5, s6, s7, s8, s9, .val (.ref a10), .val (.ref a11), s12, s13, .val (.ref a14), .val (.ref a15), .val (.int (Int32.ofNat (nl + 1))), .val (.int (Int32.ofNat 0)), .val (.int (Int32.ofNat r1)), .val (.int (Int32.ofNat r2)), .val (.int (Int32.ofNat r3)), .val (.ref b36), .val (.int (Int32.ofNat 0)), .val (.int (Int32.ofNat r1)), .val (.int (Int32.ofNat r2)), .val (.int (Int32.ofNat r3)), .val (.int (1 : Int32))] [(.int (Int32.ofNat (nl + 1))), (.ref b36)])
  refine own_go (fun _ k => XS.iconst X50.here hx rfl (hb hby at_475) k) ?_
  show own_Go p e below _ T50 (mkF m 476 #[s0, s1, s2, s3, s4, s5, s6, s7, s8, s9, .val (.ref a10), .val (.ref a11), s12, s13, .val (.ref a14), .val (.ref a15), .val (.int (Int32.ofNat (nl + 1))), .val (.int (Int32.ofNat 0)), .val (.int (Int32.ofNat r1)), .val (.int (Int32.ofNat r2)), .val (.int (Int32.ofNat r3)), .val (.ref b36), .val (.int (Int32.ofNat 0)), .val (.int (Int32.ofNat r1)), .val (.int (Int32.ofNat r2)), .val (.int (Int32.ofNat r3)), .val (.int (1 : Int32))] [(.int (1 : Int32)), (.int (Int32.ofNat (nl + 1))), (.ref b36)])
  refine own_go (fun _ k => XS.isub X50.here hx rfl (hb hby at_476) rfl k) ?_
  show own_Go p e below _ T50 (mkF m 477 #[s0, s1, s2, s3, s4, s5, s6, s7, s8, s9, .val (.ref a10), .val (.ref a11), s12, s13, .val (.ref a14), .val (.ref a15), .val (.int (Int32.ofNat (nl + 1))), .val (.int (Int32.ofNat 0)), .val (.int (Int32.ofNat r1)), .val (.int (Int32.ofNat r2)), .val (.int (Int32.ofNat r3)), .val (.ref b36), .val (.int (Int32.ofNat 0)), .val (.int (Int32.ofNat r1)), .val (.int (Int32.ofNat r2)), .val (.int (Int32.ofNat r3)), .val (.int (1 : Int32))] [(.int ((Int32.ofNat (nl + 1)) - (1 : Int32))), (.ref b36)])
  rw [own_dec]
  show own_Go p e below _ T50 (mkF m 477 #[s0, s1, s2, s3, s4, s5, s6, s7, s8, s9, .val (.ref a10), .val (.ref a11), s12, s13, .val (.ref a14), .val (.ref a15), .val (.int (Int32.ofNat (nl + 1))), .val (.int (Int32.ofNat 0)), .val (.int (Int32.ofNat r1)), .val (.int (Int32.ofNat r2)), .val (.int (Int32.ofNat r3)), .val (.ref b36), .val (.int (Int32.ofNat 0)), .val (.int (Int32.ofNat r1)), .val (.int (Int32.ofNat r2)), .val (.int (Int32.ofNat r3)), .val (.int (1 : Int32))] [(.int (Int32.ofNat nl)), (.ref b36)])
  obtain ⟨T51, v51, L51, X51, q51, st51⟩ := own_callV X50 hx hZ hown (y := (⟨"com/example/window_payoff_solver/windowpayoffsolver/window/PairTable", "first", "(I)I"⟩ : MethodName)) (hw _ (List.mem_of_getElem? (i := 50) rfl)) (hw _ (List.mem_of_getElem? (i := 51) rfl)) (hw _ (List.mem_of_getElem? (i := 53) rfl)) (hw _ (List.mem_of_getElem? (i := 52) rfl)) (hw _ (List.mem_of_getElem? (i := 14) rfl)) (hw _ (List.mem_of_getElem? (i := 54) rfl)) (by decide) (rm1 l Z a0 hw [] b36 nl ps4 y T49.heap n0 Z_49 (by omega) Tb49 hy) (a := b36) (own_Tab_exa Tb49) (Ls := #[s0, s1, s2, s3, s4, s5, s6, s7, s8, s9, .val (.ref a10), .val (.ref a11), s12, s13, .val (.ref a14), .val (.ref a15), .val (.int (Int32.ofNat (nl + 1))), .val (.int (Int32.ofNat 0)), .val (.int (Int32.ofNat r1)), .val (.int (Int32.ofNat r2)), .val (.int (Int32.ofNat r3)), .val (.ref b36), .val (.int (Int32.ofNat 0)), .val (.int (Int32.ofNat r1)), .val (.int (Int32.ofNat r2)), .val (.int (Int32.ofNat r3)), .val (.int (1 : Int32))]) (st := [(.int (Int32.ofNat nl)), (.ref b36)]) (W := 0) (by decide) (by decide) (by rw [hml]; rfl) (argsL := [(.int (Int32.ofNat nl))]) (rest := []) (lenOf pd_4 rfl) rfl rfl (Nat.le_of_eq rfl) (hb hby at_477) e50 (by decide) (by decide)
  obtain ⟨rfl, N51', e51⟩ := q51
  have N51 := Fr.app N50 N51'
  refine own_go st51 ?_
  show own_Go p e below _ T51 (mkF m 480 #[s0, s1, s2, s3, s4, s5, s6, s7, s8, s9, .val (.ref a10), .val (.ref a11), s12, s13, .val (.ref a14), .val (.ref a15), .val (.int (Int32.ofNat (nl + 1))), .val (.int (Int32.ofNat 0)), .val (.int (Int32.ofNat r1)), .val (.int (Int32.ofNat r2)), .val (.int (Int32.ofNat r3)), .val (.ref b36), .val (.int (Int32.ofNat 0)), .val (.int (Int32.ofNat r1)), .val (.int (Int32.ofNat r2)), .val (.int (Int32.ofNat r3)), .val (.int (1 : Int32))] [(.int y.1)])
  refine own_go (fun _ k => XS.aload X51.here hx rfl (hb hby at_480) rfl rfl k) ?_
  show own_Go p e below _ T51 (mkF m 482 #[s0, s1, s2, s3, s4, s5, s6, s7, s8, s9, .val (.ref a10), .val (.ref a11), s12, s13, .val (.ref a14), .val (.ref a15), .val (.int (Int32.ofNat (nl + 1))), .val (.int (Int32.ofNat 0)), .val (.int (Int32.ofNat r1)), .val (.int (Int32.ofNat r2)), .val (.int (Int32.ofNat r3)), .val (.ref b36), .val (.int (Int32.ofNat 0)), .val (.int (Int32.ofNat r1)), .val (.int (Int32.ofNat r2)), .val (.int (Int32.ofNat r3)), .val (.int (1 : Int32))] [(.ref a14), (.int y.1)])
  refine own_go (fun _ k => XS.iload X51.here hx rfl (hb hby at_482) rfl  k) ?_
  show own_Go p e below _ T51 (mkF m 484 #[s0, s1, s2, s3, s4, s5, s6, s7, s8, s9, .val (.ref a10), .val (.ref a11), s12, s13, .val (.ref a14), .val (.ref a15), .val (.int (Int32.ofNat (nl + 1))), .val (.int (Int32.ofNat 0)), .val (.int (Int32.ofNat r1)), .val (.int (Int32.ofNat r2)), .val (.int (Int32.ofNat r3)), .val (.ref b36), .val (.int (Int32.ofNat 0)), .val (.int (Int32.ofNat r1)), .val (.int (Int32.ofNat r2)), .val (.int (Int32.ofNat r3)), .val (.int (1 : Int32))] [(.int (Int32.ofNat (nl + 1))), (.ref a14), (.int y.1)])
  refine own_go (fun _ k => XS.iconst X51.here hx rfl (hb hby at_484) k) ?_
  show own_Go p e below _ T51 (mkF m 485 #[s0, s1, s2, s3, s4, s5, s6, s7, s8, s9, .val (.ref a10), .val (.ref a11), s12, s13, .val (.ref a14), .val (.ref a15), .val (.int (Int32.ofNat (nl + 1))), .val (.int (Int32.ofNat 0)), .val (.int (Int32.ofNat r1)), .val (.int (Int32.ofNat r2)), .val (.int (Int32.ofNat r3)), .val (.ref b36), .val (.int (Int32.ofNat 0)), .val (.int (Int32.ofNat r1)), .val (.int (Int32.ofNat r2)), .val (.int (Int32.ofNat r3)), .val (.int (1 : Int32))] [(.int (1 : Int32)), (.int (Int32.ofNat (nl + 1))), (.ref a14), (.int y.1)])
  refine own_go (fun _ k => XS.isub X51.here hx rfl (hb hby at_485) rfl k) ?_
  show own_Go p e below _ T51 (mkF m 486 #[s0, s1, s2, s3, s4, s5, s6, s7, s8, s9, .val (.ref a10), .val (.ref a11), s12, s13, .val (.ref a14), .val (.ref a15), .val (.int (Int32.ofNat (nl + 1))), .val (.int (Int32.ofNat 0)), .val (.int (Int32.ofNat r1)), .val (.int (Int32.ofNat r2)), .val (.int (Int32.ofNat r3)), .val (.ref b36), .val (.int (Int32.ofNat 0)), .val (.int (Int32.ofNat r1)), .val (.int (Int32.ofNat r2)), .val (.int (Int32.ofNat r3)), .val (.int (1 : Int32))] [(.int ((Int32.ofNat (nl + 1)) - (1 : Int32))), (.ref a14), (.int y.1)])
  rw [own_dec]
  show own_Go p e below _ T51 (mkF m 486 #[s0, s1, s2, s3, s4, s5, s6, s7, s8, s9, .val (.ref a10), .val (.ref a11), s12, s13, .val (.ref a14), .val (.ref a15), .val (.int (Int32.ofNat (nl + 1))), .val (.int (Int32.ofNat 0)), .val (.int (Int32.ofNat r1)), .val (.int (Int32.ofNat r2)), .val (.int (Int32.ofNat r3)), .val (.ref b36), .val (.int (Int32.ofNat 0)), .val (.int (Int32.ofNat r1)), .val (.int (Int32.ofNat r2)), .val (.int (Int32.ofNat r3)), .val (.int (1 : Int32))] [(.int (Int32.ofNat nl)), (.ref a14), (.int y.1)])
  obtain ⟨c_52, Ar_52, S_52, H_52⟩ := id B3_49
  refine own_go (fun _ k => X51.iaload hx (j := (Int32.ofNat nl)) (v := (.int y.1)) (by rw [e51]; exact Ar_52.1) (State.isArrayOf_alike hZ.alike Ar_52.2.1) Ar_52.2.2 (inb_of S_52 ⟨own_nn (by omega), (own_ltI (by omega) (by omega)).mpr (by omega)⟩) (by rw [own_clamp (by omega)]; exact H_52 _ _ hy) (g := (mkF m 486 #[s0, s1, s2, s3, s4, s5, s6, s7, s8, s9, .val (.ref a10), .val (.ref a11), s12, s13, .val (.ref a14), .val (.ref a15), .val (.int (Int32.ofNat (nl + 1))), .val (.int (Int32.ofNat 0)), .val (.int (Int32.ofNat r1)), .val (.int (Int32.ofNat r2)), .val (.int (Int32.ofNat r3)), .val (.ref b36), .val (.int (Int32.ofNat 0)), .val (.int (Int32.ofNat r1)), .val (.int (Int32.ofNat r2)), .val (.int (Int32.ofNat r3)), .val (.int (1 : Int32))] [(.int (Int32.ofNat nl)), (.ref a14), (.int y.1)])) rfl rfl (hb hby at_486) _ k) ?_
  show own_Go p e below _ T51 (mkF m 487 #[s0, s1, s2, s3, s4, s5, s6, s7, s8, s9, .val (.ref a10), .val (.ref a11), s12, s13, .val (.ref a14), .val (.ref a15), .val (.int (Int32.ofNat (nl + 1))), .val (.int (Int32.ofNat 0)), .val (.int (Int32.ofNat r1)), .val (.int (Int32.ofNat r2)), .val (.int (Int32.ofNat r3)), .val (.ref b36), .val (.int (Int32.ofNat 0)), .val (.int (Int32.ofNat r1)), .val (.int (Int32.ofNat r2)), .val (.int (Int32.ofNat r3)), .val (.int (1 : Int32))] [(.int y.1), (.int y.1)])
  refine own_go (fun _ k => XS.icmpNo X51.here hx rfl (hb hby at_487) rfl (teq rfl).2 k) ?_
  show own_Go p e below _ T51 (mkF m 490 #[s0, s1, s2, s3, s4, s5, s6, s7, s8, s9, .val (.ref a10), .val (.ref a11), s12, s13, .val (.ref a14), .val (.ref a15), .val (.int (Int32.ofNat (nl + 1))), .val (.int (Int32.ofNat 0)), .val (.int (Int32.ofNat r1)), .val (.int (Int32.ofNat r2)), .val (.int (Int32.ofNat r3)), .val (.ref b36), .val (.int (Int32.ofNat 0)), .val (.int (Int32.ofNat r1)), .val (.int (Int32.ofNat r2)), .val (.int (Int32.ofNat r3)), .val (.int (1 : Int32))] [])
  refine own_go (fun _ k => XS.aload X51.here hx rfl (hb hby at_490) rfl rfl k) ?_
  show own_Go p e below _ T51 (mkF m 492 #[s0, s1, s2, s3, s4, s5, s6, s7, s8, s9, .val (.ref a10), .val (.ref a11), s12, s13, .val (.ref a14), .val (.ref a15), .val (.int (Int32.ofNat (nl + 1))), .val (.int (Int32.ofNat 0)), .val (.int (Int32.ofNat r1)), .val (.int (Int32.ofNat r2)), .val (.int (Int32.ofNat r3)), .val (.ref b36), .val (.int (Int32.ofNat 0)), .val (.int (Int32.ofNat r1)), .val (.int (Int32.ofNat r2)), .val (.int (Int32.ofNat r3)), .val (.int (1 : Int32))] [(.ref b36)])
  refine own_go (fun _ k => XS.iload X51.here hx rfl (hb hby at_492) rfl  k) ?_
  show own_Go p e below _ T51 (mkF m 494 #[s0, s1, s2, s3, s4, s5, s6, s7, s8, s9, .val (.ref a10), .val (.ref a11), s12, s13, .val (.ref a14), .val (.ref a15), .val (.int (Int32.ofNat (nl + 1))), .val (.int (Int32.ofNat 0)), .val (.int (Int32.ofNat r1)), .val (.int (Int32.ofNat r2)), .val (.int (Int32.ofNat r3)), .val (.ref b36), .val (.int (Int32.ofNat 0)), .val (.int (Int32.ofNat r1)), .val (.int (Int32.ofNat r2)), .val (.int (Int32.ofNat r3)), .val (.int (1 : Int32))] [(.int (Int32.ofNat (nl + 1))), (.ref b36)])
  refine own_go (fun _ k => XS.iconst X51.here hx rfl (hb hby at_494) k) ?_
  show own_Go p e below _ T51 (mkF m 495 #[s0, s1, s2, s3, s4, s5, s6, s7, s8, s9, .val (.ref a10), .val (.ref a11), s12, s13, .val (.ref a14), .val (.ref a15), .val (.int (Int32.ofNat (nl + 1))), .val (.int (Int32.ofNat 0)), .val (.int (Int32.ofNat r1)), .val (.int (Int32.ofNat r2)), .val (.int (Int32.ofNat r3)), .val (.ref b36), .val (.int (Int32.ofNat 0)), .val (.int (Int32.ofNat r1)), .val (.int (Int32.ofNat r2)), .val (.int (Int32.ofNat r3)), .val (.int (1 : Int32))] [(.int (1 : Int32)), (.int (Int32.ofNat (nl + 1))), (.ref b36)])
  refine own_go (fun _ k => XS.isub X51.here hx rfl (hb hby at_495) rfl k) ?_
  show own_Go p e below _ T51 (mkF m 496 #[s0, s1, s2, s3, s4, s5, s6, s7, s8, s9, .val (.ref a10), .val (.ref a11), s12, s13, .val (.ref a14), .val (.ref a15), .val (.int (Int32.ofNat (nl + 1))), .val (.int (Int32.ofNat 0)), .val (.int (Int32.ofNat r1)), .val (.int (Int32.ofNat r2)), .val (.int (Int32.ofNat r3)), .val (.ref b36), .val (.int (Int32.ofNat 0)), .val (.int (Int32.ofNat r1)), .val (.int (Int32.ofNat r2)), .val (.int (Int32.ofNat r3)), .val (.int (1 : Int32))] [(.int ((Int32.ofNat (nl + 1)) - (1 : Int32))), (.ref b36)])
  rw [own_dec]
  show own_Go p e below _ T51 (mkF m 496 #[s0, s1, s2, s3, s4, s5, s6, s7, s8, s9, .val (.ref a10), .val (.ref a11), s12, s13, .val (.ref a14), .val (.ref a15), .val (.int (Int32.ofNat (nl + 1))), .val (.int (Int32.ofNat 0)), .val (.int (Int32.ofNat r1)), .val (.int (Int32.ofNat r2)), .val (.int (Int32.ofNat r3)), .val (.ref b36), .val (.int (Int32.ofNat 0)), .val (.int (Int32.ofNat r1)), .val (.int (Int32.ofNat r2)), .val (.int (Int32.ofNat r3)), .val (.int (1 : Int32))] [(.int (Int32.ofNat nl)), (.ref b36)])
  obtain ⟨T53, v53, L53, X53, q53, st53⟩ := own_callV X51 hx hZ hown (y := (⟨"com/example/window_payoff_solver/windowpayoffsolver/window/PairTable", "second", "(I)J"⟩ : MethodName)) (hw _ (List.mem_of_getElem? (i := 55) rfl)) (hw _ (List.mem_of_getElem? (i := 56) rfl)) (hw _ (List.mem_of_getElem? (i := 58) rfl)) (hw _ (List.mem_of_getElem? (i := 57) rfl)) (hw _ (List.mem_of_getElem? (i := 14) rfl)) (hw _ (List.mem_of_getElem? (i := 59) rfl)) (by decide) (rm2 l Z a0 hw [] b36 nl ps4 y T49.heap n0 Z_49 (by omega) Tb49 hy) (a := b36) (own_Tab_exa Tb49) (Ls := #[s0, s1, s2, s3, s4, s5, s6, s7, s8, s9, .val (.ref a10), .val (.ref a11), s12, s13, .val (.ref a14), .val (.ref a15), .val (.int (Int32.ofNat (nl + 1))), .val (.int (Int32.ofNat 0)), .val (.int (Int32.ofNat r1)), .val (.int (Int32.ofNat r2)), .val (.int (Int32.ofNat r3)), .val (.ref b36), .val (.int (Int32.ofNat 0)), .val (.int (Int32.ofNat r1)), .val (.int (Int32.ofNat r2)), .val (.int (Int32.ofNat r3)), .val (.int (1 : Int32))]) (st := [(.int (Int32.ofNat nl)), (.ref b36)]) (W := 0) (by decide) (by decide) (by rw [hml]; rfl) (argsL := [(.int (Int32.ofNat nl))]) (rest := []) (lenOf pd_5 rfl) rfl rfl (Nat.le_of_eq rfl) (hb hby at_496) e51 (by decide) (by decide)
  obtain ⟨rfl, N53', e53⟩ := q53
  have N53 := Fr.app N51 N53'
  refine own_go st53 ?_
  show own_Go p e below _ T53 (mkF m 499 #[s0, s1, s2, s3, s4, s5, s6, s7, s8, s9, .val (.ref a10), .val (.ref a11), s12, s13, .val (.ref a14), .val (.ref a15), .val (.int (Int32.ofNat (nl + 1))), .val (.int (Int32.ofNat 0)), .val (.int (Int32.ofNat r1)), .val (.int (Int32.ofNat r2)), .val (.int (Int32.ofNat r3)), .val (.ref b36), .val (.int (Int32.ofNat 0)), .val (.int (Int32.ofNat r1)), .val (.int (Int32.ofNat r2)), .val (.int (Int32.ofNat r3)), .val (.int (1 : Int32))] [(.long y.2)])
  refine own_go (fun _ k => XS.aload X53.here hx rfl (hb hby at_499) rfl rfl k) ?_
  show own_Go p e below _ T53 (mkF m 501 #[s0, s1, s2, s3, s4, s5, s6, s7, s8, s9, .val (.ref a10), .val (.ref a11), s12, s13, .val (.ref a14), .val (.ref a15), .val (.int (Int32.ofNat (nl + 1))), .val (.int (Int32.ofNat 0)), .val (.int (Int32.ofNat r1)), .val (.int (Int32.ofNat r2)), .val (.int (Int32.ofNat r3)), .val (.ref b36), .val (.int (Int32.ofNat 0)), .val (.int (Int32.ofNat r1)), .val (.int (Int32.ofNat r2)), .val (.int (Int32.ofNat r3)), .val (.int (1 : Int32))] [(.ref a15), (.long y.2)])
  refine own_go (fun _ k => XS.iload X53.here hx rfl (hb hby at_501) rfl  k) ?_
  show own_Go p e below _ T53 (mkF m 503 #[s0, s1, s2, s3, s4, s5, s6, s7, s8, s9, .val (.ref a10), .val (.ref a11), s12, s13, .val (.ref a14), .val (.ref a15), .val (.int (Int32.ofNat (nl + 1))), .val (.int (Int32.ofNat 0)), .val (.int (Int32.ofNat r1)), .val (.int (Int32.ofNat r2)), .val (.int (Int32.ofNat r3)), .val (.ref b36), .val (.int (Int32.ofNat 0)), .val (.int (Int32.ofNat r1)), .val (.int (Int32.ofNat r2)), .val (.int (Int32.ofNat r3)), .val (.int (1 : Int32))] [(.int (Int32.ofNat (nl + 1))), (.ref a15), (.long y.2)])
  refine own_go (fun _ k => XS.iconst X53.here hx rfl (hb hby at_503) k) ?_
  show own_Go p e below _ T53 (mkF m 504 #[s0, s1, s2, s3, s4, s5, s6, s7, s8, s9, .val (.ref a10), .val (.ref a11), s12, s13, .val (.ref a14), .val (.ref a15), .val (.int (Int32.ofNat (nl + 1))), .val (.int (Int32.ofNat 0)), .val (.int (Int32.ofNat r1)), .val (.int (Int32.ofNat r2)), .val (.int (Int32.ofNat r3)), .val (.ref b36), .val (.int (Int32.ofNat 0)), .val (.int (Int32.ofNat r1)), .val (.int (Int32.ofNat r2)), .val (.int (Int32.ofNat r3)), .val (.int (1 : Int32))] [(.int (1 : Int32)), (.int (Int32.ofNat (nl + 1))), (.ref a15), (.long y.2)])
  refine own_go (fun _ k => XS.isub X53.here hx rfl (hb hby at_504) rfl k) ?_
  show own_Go p e below _ T53 (mkF m 505 #[s0, s1, s2, s3, s4, s5, s6, s7, s8, s9, .val (.ref a10), .val (.ref a11), s12, s13, .val (.ref a14), .val (.ref a15), .val (.int (Int32.ofNat (nl + 1))), .val (.int (Int32.ofNat 0)), .val (.int (Int32.ofNat r1)), .val (.int (Int32.ofNat r2)), .val (.int (Int32.ofNat r3)), .val (.ref b36), .val (.int (Int32.ofNat 0)), .val (.int (Int32.ofNat r1)), .val (.int (Int32.ofNat r2)), .val (.int (Int32.ofNat r3)), .val (.int (1 : Int32))] [(.int ((Int32.ofNat (nl + 1)) - (1 : Int32))), (.ref a15), (.long y.2)])
  rw [own_dec]
  show own_Go p e below _ T53 (mkF m 505 #[s0, s1, s2, s3, s4, s5, s6, s7, s8, s9, .val (.ref a10), .val (.ref a11), s12, s13, .val (.ref a14), .val (.ref a15), .val (.int (Int32.ofNat (nl + 1))), .val (.int (Int32.ofNat 0)), .val (.int (Int32.ofNat r1)), .val (.int (Int32.ofNat r2)), .val (.int (Int32.ofNat r3)), .val (.ref b36), .val (.int (Int32.ofNat 0)), .val (.int (Int32.ofNat r1)), .val (.int (Int32.ofNat r2)), .val (.int (Int32.ofNat r3)), .val (.int (1 : Int32))] [(.int (Int32.ofNat nl)), (.ref a15), (.long y.2)])
  obtain ⟨c_54, Ar_54, S_54, H_54⟩ := id B4_49
  refine own_go (fun _ k => X53.laload hx (j := (Int32.ofNat nl)) (v := (.long y.2)) (by rw [e53]; exact Ar_54.1) (State.isArrayOf_alike hZ.alike Ar_54.2.1) Ar_54.2.2 (inb_of S_54 ⟨own_nn (by omega), (own_ltI (by omega) (by omega)).mpr (by omega)⟩) (by rw [own_clamp (by omega)]; exact H_54 _ _ hy) (g := (mkF m 505 #[s0, s1, s2, s3, s4, s5, s6, s7, s8, s9, .val (.ref a10), .val (.ref a11), s12, s13, .val (.ref a14), .val (.ref a15), .val (.int (Int32.ofNat (nl + 1))), .val (.int (Int32.ofNat 0)), .val (.int (Int32.ofNat r1)), .val (.int (Int32.ofNat r2)), .val (.int (Int32.ofNat r3)), .val (.ref b36), .val (.int (Int32.ofNat 0)), .val (.int (Int32.ofNat r1)), .val (.int (Int32.ofNat r2)), .val (.int (Int32.ofNat r3)), .val (.int (1 : Int32))] [(.int (Int32.ofNat nl)), (.ref a15), (.long y.2)])) rfl rfl (hb hby at_505) _ k) ?_
  show own_Go p e below _ T53 (mkF m 506 #[s0, s1, s2, s3, s4, s5, s6, s7, s8, s9, .val (.ref a10), .val (.ref a11), s12, s13, .val (.ref a14), .val (.ref a15), .val (.int (Int32.ofNat (nl + 1))), .val (.int (Int32.ofNat 0)), .val (.int (Int32.ofNat r1)), .val (.int (Int32.ofNat r2)), .val (.int (Int32.ofNat r3)), .val (.ref b36), .val (.int (Int32.ofNat 0)), .val (.int (Int32.ofNat r1)), .val (.int (Int32.ofNat r2)), .val (.int (Int32.ofNat r3)), .val (.int (1 : Int32))] [(.long y.2), (.long y.2)])
  refine own_go (fun _ k => XS.lcmp X53.here hx rfl (hb hby at_506) rfl k) ?_
  show own_Go p e below _ T53 (mkF m 507 #[s0, s1, s2, s3, s4, s5, s6, s7, s8, s9, .val (.ref a10), .val (.ref a11), s12, s13, .val (.ref a14), .val (.ref a15), .val (.int (Int32.ofNat (nl + 1))), .val (.int (Int32.ofNat 0)), .val (.int (Int32.ofNat r1)), .val (.int (Int32.ofNat r2)), .val (.int (Int32.ofNat r3)), .val (.ref b36), .val (.int (Int32.ofNat 0)), .val (.int (Int32.ofNat r1)), .val (.int (Int32.ofNat r2)), .val (.int (Int32.ofNat r3)), .val (.int (1 : Int32))] [(.int (lcmpW y.2 y.2))])
  refine own_go (fun _ k => XS.ifNo X53.here hx rfl (hb hby at_507) rfl ((if0 _ _).trans (teq ((lw_eq _ _).mpr rfl)).2) k) ?_
  show own_Go p e below _ T53 (mkF m 510 #[s0, s1, s2, s3, s4, s5, s6, s7, s8, s9, .val (.ref a10), .val (.ref a11), s12, s13, .val (.ref a14), .val (.ref a15), .val (.int (Int32.ofNat (nl + 1))), .val (.int (Int32.ofNat 0)), .val (.int (Int32.ofNat r1)), .val (.int (Int32.ofNat r2)), .val (.int (Int32.ofNat r3)), .val (.ref b36), .val (.int (Int32.ofNat 0)), .val (.int (Int32.ofNat r1)), .val (.int (Int32.ofNat r2)), .val (.int (Int32.ofNat r3)), .val (.int (1 : Int32))] [])
  refine own_go (fun _ k => XS.iconst X53.here hx rfl (hb hby at_510) k) ?_
  show own_Go p e below _ T53 (mkF m 511 #[s0, s1, s2, s3, s4, s5, s6, s7, s8, s9, .val (.ref a10), .val (.ref a11), s12, s13, .val (.ref a14), .val (.ref a15), .val (.int (Int32.ofNat (nl + 1))), .val (.int (Int32.ofNat 0)), .val (.int (Int32.ofNat r1)), .val (.int (Int32.ofNat r2)), .val (.int (Int32.ofNat r3)), .val (.ref b36), .val (.int (Int32.ofNat 0)), .val (.int (Int32.ofNat r1)), .val (.int (Int32.ofNat r2)), .val (.int (Int32.ofNat r3)), .val (.int (1 : Int32))] [(.int (1 : Int32))])
  refine own_go (fun _ k => XS.goto X53.here hx rfl (pc0 := 511) (pc' := 515) rfl (hb hby at_511) (by decide) (by decide) k) ?_
  show own_Go p e below _ T53 (mkF m 515 #[s0, s1, s2, s3, s4, s5, s6, s7, s8, s9, .val (.ref a10), .val (.ref a11), s12, s13, .val (.ref a14), .val (.ref a15), .val (.int (Int32.ofNat (nl + 1))), .val (.int (Int32.ofNat 0)), .val (.int (Int32.ofNat r1)), .val (.int (Int32.ofNat r2)), .val (.int (Int32.ofNat r3)), .val (.ref b36), .val (.int (Int32.ofNat 0)), .val (.int (Int32.ofNat r1)), .val (.int (Int32.ofNat r2)), .val (.int (Int32.ofNat r3)), .val (.int (1 : Int32))] [(.int (1 : Int32))])
  refine own_go (fun _ k => XS.istore X53.here hx rfl (hb hby at_515) rfl (l' := #[s0, s1, s2, s3, s4, s5, s6, s7, s8, s9, .val (.ref a10), .val (.ref a11), s12, s13, .val (.ref a14), .val (.ref a15), .val (.int (Int32.ofNat (nl + 1))), .val (.int (Int32.ofNat 0)), .val (.int (Int32.ofNat r1)), .val (.int (Int32.ofNat r2)), .val (.int (Int32.ofNat r3)), .val (.ref b36), .val (.int (Int32.ofNat 0)), .val (.int (Int32.ofNat r1)), .val (.int (Int32.ofNat r2)), .val (.int (Int32.ofNat r3)), .val (.int (1 : Int32))]) rfl k) ?_
  show own_Go p e below _ T53 (mkF m 517 #[s0, s1, s2, s3, s4, s5, s6, s7, s8, s9, .val (.ref a10), .val (.ref a11), s12, s13, .val (.ref a14), .val (.ref a15), .val (.int (Int32.ofNat (nl + 1))), .val (.int (Int32.ofNat 0)), .val (.int (Int32.ofNat r1)), .val (.int (Int32.ofNat r2)), .val (.int (Int32.ofNat r3)), .val (.ref b36), .val (.int (Int32.ofNat 0)), .val (.int (Int32.ofNat r1)), .val (.int (Int32.ofNat r2)), .val (.int (Int32.ofNat r3)), .val (.int (1 : Int32))] [])
  refine own_go (fun _ k => XS.iload X53.here hx rfl (hb hby at_517) rfl  k) ?_
  show own_Go p e below _ T53 (mkF m 519 #[s0, s1, s2, s3, s4, s5, s6, s7, s8, s9, .val (.ref a10), .val (.ref a11), s12, s13, .val (.ref a14), .val (.ref a15), .val (.int (Int32.ofNat (nl + 1))), .val (.int (Int32.ofNat 0)), .val (.int (Int32.ofNat r1)), .val (.int (Int32.ofNat r2)), .val (.int (Int32.ofNat r3)), .val (.ref b36), .val (.int (Int32.ofNat 0)), .val (.int (Int32.ofNat r1)), .val (.int (Int32.ofNat r2)), .val (.int (Int32.ofNat r3)), .val (.int (1 : Int32))] [(.int (Int32.ofNat (nl + 1)))])
  refine own_go (fun _ k => XS.iconst X53.here hx rfl (hb hby at_519) k) ?_
  show own_Go p e below _ T53 (mkF m 520 #[s0, s1, s2, s3, s4, s5, s6, s7, s8, s9, .val (.ref a10), .val (.ref a11), s12, s13, .val (.ref a14), .val (.ref a15), .val (.int (Int32.ofNat (nl + 1))), .val (.int (Int32.ofNat 0)), .val (.int (Int32.ofNat r1)), .val (.int (Int32.ofNat r2)), .val (.int (Int32.ofNat r3)), .val (.ref b36), .val (.int (Int32.ofNat 0)), .val (.int (Int32.ofNat r1)), .val (.int (Int32.ofNat r2)), .val (.int (Int32.ofNat r3)), .val (.int (1 : Int32))] [(.int (2 : Int32)), (.int (Int32.ofNat (nl + 1)))])
  by_cases h2n : (2 : Int32) < (Int32.ofNat (nl + 1))
  · refine own_go (fun _ k => XS.icmpNo X53.here hx rfl (hb hby at_520) rfl (tlt h2n).2.2.2 k) ?_
    show own_Go p e below _ T53 (mkF m 523 #[s0, s1, s2, s3, s4, s5, s6, s7, s8, s9, .val (.ref a10), .val (.ref a11), s12, s13, .val (.ref a14), .val (.ref a15), .val (.int (Int32.ofNat (nl + 1))), .val (.int (Int32.ofNat 0)), .val (.int (Int32.ofNat r1)), .val (.int (Int32.ofNat r2)), .val (.int (Int32.ofNat r3)), .val (.ref b36), .val (.int (Int32.ofNat 0)), .val (.int (Int32.ofNat r1)), .val (.int (Int32.ofNat r2)), .val (.int (Int32.ofNat r3)), .val (.int (1 : Int32))] [])
    have h2n' : 2 < nl + 1 := (own_ltI (i := 2) (by omega) (by omega)).mp h2n
    obtain ⟨z, hz⟩ : ∃ z, ps4[1]? = some z := ⟨_, List.getElem?_eq_getElem (by omega)⟩
    refine own_go (fun _ k => XS.iload X53.here hx rfl (hb hby at_523) rfl  k) ?_
    show own_Go p e below _ T53 (mkF m 525 #[s0, s1, s2, s3, s4, s5, s6, s7, s8, s9, .val (.ref a10), .val (.ref a11), s12, s13, .val (.ref a14), .val (.ref a15), .val (.int (Int32.ofNat (nl + 1))), .val (.int (Int32.ofNat 0)), .val (.int (Int32.ofNat r1)), .val (.int (Int32.ofNat r2)), .val (.int (Int32.ofNat r3)), .val (.ref b36), .val (.int (Int32.ofNat 0)), .val (.int (Int32.ofNat r1)), .val (.int (Int32.ofNat r2)), .val (.int (Int32.ofNat r3)), .val (.int (1 : Int32))] [(.int (1 : Int32))])
    refine own_go (fun _ k => XS.ifNo X53.here hx rfl (hb hby at_525) rfl ((if0 _ _).trans (feq (by decide)).1) k) ?_
    show own_Go p e below _ T53 (mkF m 528 #[s0, s1, s2, s3, s4, s5, s6, s7, s8, s9, .val (.ref a10), .val (.ref a11), s12, s13, .val (.ref a14), .val (.ref a15), .val (.int (Int32.ofNat (nl + 1))), .val (.int (Int32.ofNat 0)), .val (.int (Int32.ofNat r1)), .val (.int (Int32.ofNat r2)), .val (.int (Int32.ofNat r3)), .val (.ref b36), .val (.int (Int32.ofNat 0)), .val (.int (Int32.ofNat r1)), .val (.int (Int32.ofNat r2)), .val (.int (Int32.ofNat r3)), .val (.int (1 : Int32))] [])
    refine own_go (fun _ k => XS.aload X53.here hx rfl (hb hby at_528) rfl rfl k) ?_
    show own_Go p e below _ T53 (mkF m 530 #[s0, s1, s2, s3, s4, s5, s6, s7, s8, s9, .val (.ref a10), .val (.ref a11), s12, s13, .val (.ref a14), .val (.ref a15), .val (.int (Int32.ofNat (nl + 1))), .val (.int (Int32.ofNat 0)), .val (.int (Int32.ofNat r1)), .val (.int (Int32.ofNat r2)), .val (.int (Int32.ofNat r3)), .val (.ref b36), .val (.int (Int32.ofNat 0)), .val (.int (Int32.ofNat r1)), .val (.int (Int32.ofNat r2)), .val (.int (Int32.ofNat r3)), .val (.int (1 : Int32))] [(.ref b36)])
    refine own_go (fun _ k => XS.iconst X53.here hx rfl (hb hby at_530) k) ?_
    show own_Go p e below _ T53 (mkF m 531 #[s0, s1, s2, s3, s4, s5, s6, s7, s8, s9, .val (.ref a10), .val (.ref a11), s12, s13, .val (.ref a14), .val (.ref a15), .val (.int (Int32.ofNat (nl + 1))), .val (.int (Int32.ofNat 0)), .val (.int (Int32.ofNat r1)), .val (.int (Int32.ofNat r2)), .val (.int (Int32.ofNat r3)), .val (.ref b36), .val (.int (Int32.ofNat 0)), .val (.int (Int32.ofNat r1)), .val (.int (Int32.ofNat r2)), .val (.int (Int32.ofNat r3)), .val (.int (1 : Int32))] [(.int (1 : Int32)), (.ref b36)])
    obtain ⟨T55, v55, L55, X55, q55, st55⟩ := own_callV X53 hx hZ hown (y := (⟨"com/example/window_payoff_solver/windowpayoffsolver/window/PairTable", "first", "(I)I"⟩ : MethodName)) (hw _ (List.mem_of_getElem? (i := 50) rfl)) (hw _ (List.mem_of_getElem? (i := 51) rfl)) (hw _ (List.mem_of_getElem? (i := 53) rfl)) (hw _ (List.mem_of_getElem? (i := 52) rfl)) (hw _ (List.mem_of_getElem? (i := 14) rfl)) (hw _ (List.mem_of_getElem? (i := 54) rfl)) (by decide) (rm1 l Z a0 hw [] b36 1 ps4 z T49.heap n0 Z_49 (by omega) Tb49 hz) (a := b36) (own_Tab_exa Tb49) (Ls := #[s0, s1, s2, s3, s4, s5, s6, s7, s8, s9, .val (.ref a10), .val (.ref a11), s12, s13, .val (.ref a14), .val (.ref a15), .val (.int (Int32.ofNat (nl + 1))), .val (.int (Int32.ofNat 0)), .val (.int (Int32.ofNat r1)), .val (.int (Int32.ofNat r2)), .val (.int (Int32.ofNat r3)), .val (.ref b36), .val (.int (Int32.ofNat 0)), .val (.int (Int32.ofNat r1)), .val (.int (Int32.ofNat r2)), .val (.int (Int32.ofNat r3)), .val (.int (1 : Int32))]) (st := [(.int (1 : Int32)), (.ref b36)]) (W := 0) (by decide) (by decide) (by rw [hml]; rfl) (argsL := [(.int (1 : Int32))]) (rest := []) (lenOf pd_4 rfl) rfl rfl (Nat.le_of_eq rfl) (hb hby at_531) e53 (by decide) (by decide)
    obtain ⟨rfl, N55', e55⟩ := q55
    have N55 := Fr.app N53 N55'
    refine own_go st55 ?_
    show own_Go p e below _ T55 (mkF m 534 #[s0, s1, s2, s3, s4, s5, s6, s7, s8, s9, .val (.ref a10), .val (.ref a11), s12, s13, .val (.ref a14), .val (.ref a15), .val (.int (Int32.ofNat (nl + 1))), .val (.int (Int32.ofNat 0)), .val (.int (Int32.ofNat r1)), .val (.int (Int32.ofNat r2)), .val (.int (Int32.ofNat r3)), .val (.ref b36), .val (.int (Int32.ofNat 0)), .val (.int (Int32.ofNat r1)), .val (.int (Int32.ofNat r2)), .val (.int (Int32.ofNat r3)), .val (.int (1 : Int32))] [(.int z.1)])
    refine own_go (fun _ k => XS.aload X55.here hx rfl (hb hby at_534) rfl rfl k) ?_
    show own_Go p e below _ T55 (mkF m 536 #[s0, s1, s2, s3, s4, s5, s6, s7, s8, s9, .val (.ref a10), .val (.ref a11), s12, s13, .val (.ref a14), .val (.ref a15), .val (.int (Int32.ofNat (nl + 1))), .val (.int (Int32.ofNat 0)), .val (.int (Int32.ofNat r1)), .val (.int (Int32.ofNat r2)), .val (.int (Int32.ofNat r3)), .val (.ref b36), .val (.int (Int32.ofNat 0)), .val (.int (Int32.ofNat r1)), .val (.int (Int32.ofNat r2)), .val (.int (Int32.ofNat r3)), .val (.int (1 : Int32))] [(.ref a14), (.int z.1)])
    refine own_go (fun _ k => XS.iconst X55.here hx rfl (hb hby at_536) k) ?_
    show own_Go p e below _ T55 (mkF m 537 #[s0, s1, s2, s3, s4, s5, s6, s7, s8, s9, .val (.ref a10), .val (.ref a11), s12, s13, .val (.ref a14), .val (.ref a15), .val (.int (Int32.ofNat (nl + 1))), .val (.int (Int32.ofNat 0)), .val (.int (Int32.ofNat r1)), .val (.int (Int32.ofNat r2)), .val (.int (Int32.ofNat r3)), .val (.ref b36), .val (.int (Int32.ofNat 0)), .val (.int (Int32.ofNat r1)), .val (.int (Int32.ofNat r2)), .val (.int (Int32.ofNat r3)), .val (.int (1 : Int32))] [(.int (1 : Int32)), (.ref a14), (.int z.1)])
    obtain ⟨c_56, Ar_56, S_56, H_56⟩ := id B3_49
    refine own_go (fun _ k => X55.iaload hx (j := (1 : Int32)) (v := (.int z.1)) (by rw [e55]; exact Ar_56.1) (State.isArrayOf_alike hZ.alike Ar_56.2.1) Ar_56.2.2 (inb_of S_56 ⟨by decide, by decide⟩) (H_56 1 _ hz) (g := (mkF m 537 #[s0, s1, s2, s3, s4, s5, s6, s7, s8, s9, .val (.ref a10), .val (.ref a11), s12, s13, .val (.ref a14), .val (.ref a15), .val (.int (Int32.ofNat (nl + 1))), .val (.int (Int32.ofNat 0)), .val (.int (Int32.ofNat r1)), .val (.int (Int32.ofNat r2)), .val (.int (Int32.ofNat r3)), .val (.ref b36), .val (.int (Int32.ofNat 0)), .val (.int (Int32.ofNat r1)), .val (.int (Int32.ofNat r2)), .val (.int (Int32.ofNat r3)), .val (.int (1 : Int32))] [(.int (1 : Int32)), (.ref a14), (.int z.1)])) rfl rfl (hb hby at_537) _ k) ?_
    show own_Go p e below _ T55 (mkF m 538 #[s0, s1, s2, s3, s4, s5, s6, s7, s8, s9, .val (.ref a10), .val (.ref a11), s12, s13, .val (.ref a14), .val (.ref a15), .val (.int (Int32.ofNat (nl + 1))), .val (.int (Int32.ofNat 0)), .val (.int (Int32.ofNat r1)), .val (.int (Int32.ofNat r2)), .val (.int (Int32.ofNat r3)), .val (.ref b36), .val (.int (Int32.ofNat 0)), .val (.int (Int32.ofNat r1)), .val (.int (Int32.ofNat r2)), .val (.int (Int32.ofNat r3)), .val (.int (1 : Int32))] [(.int z.1), (.int z.1)])
    refine own_go (fun _ k => XS.icmpNo X55.here hx rfl (hb hby at_538) rfl (teq rfl).2 k) ?_
    show own_Go p e below _ T55 (mkF m 541 #[s0, s1, s2, s3, s4, s5, s6, s7, s8, s9, .val (.ref a10), .val (.ref a11), s12, s13, .val (.ref a14), .val (.ref a15), .val (.int (Int32.ofNat (nl + 1))), .val (.int (Int32.ofNat 0)), .val (.int (Int32.ofNat r1)), .val (.int (Int32.ofNat r2)), .val (.int (Int32.ofNat r3)), .val (.ref b36), .val (.int (Int32.ofNat 0)), .val (.int (Int32.ofNat r1)), .val (.int (Int32.ofNat r2)), .val (.int (Int32.ofNat r3)), .val (.int (1 : Int32))] [])
    refine own_go (fun _ k => XS.aload X55.here hx rfl (hb hby at_541) rfl rfl k) ?_
    show own_Go p e below _ T55 (mkF m 543 #[s0, s1, s2, s3, s4, s5, s6, s7, s8, s9, .val (.ref a10), .val (.ref a11), s12, s13, .val (.ref a14), .val (.ref a15), .val (.int (Int32.ofNat (nl + 1))), .val (.int (Int32.ofNat 0)), .val (.int (Int32.ofNat r1)), .val (.int (Int32.ofNat r2)), .val (.int (Int32.ofNat r3)), .val (.ref b36), .val (.int (Int32.ofNat 0)), .val (.int (Int32.ofNat r1)), .val (.int (Int32.ofNat r2)), .val (.int (Int32.ofNat r3)), .val (.int (1 : Int32))] [(.ref b36)])
    refine own_go (fun _ k => XS.iconst X55.here hx rfl (hb hby at_543) k) ?_
    show own_Go p e below _ T55 (mkF m 544 #[s0, s1, s2, s3, s4, s5, s6, s7, s8, s9, .val (.ref a10), .val (.ref a11), s12, s13, .val (.ref a14), .val (.ref a15), .val (.int (Int32.ofNat (nl + 1))), .val (.int (Int32.ofNat 0)), .val (.int (Int32.ofNat r1)), .val (.int (Int32.ofNat r2)), .val (.int (Int32.ofNat r3)), .val (.ref b36), .val (.int (Int32.ofNat 0)), .val (.int (Int32.ofNat r1)), .val (.int (Int32.ofNat r2)), .val (.int (Int32.ofNat r3)), .val (.int (1 : Int32))] [(.int (1 : Int32)), (.ref b36)])
    obtain ⟨T57, v57, L57, X57, q57, st57⟩ := own_callV X55 hx hZ hown (y := (⟨"com/example/window_payoff_solver/windowpayoffsolver/window/PairTable", "second", "(I)J"⟩ : MethodName)) (hw _ (List.mem_of_getElem? (i := 55) rfl)) (hw _ (List.mem_of_getElem? (i := 56) rfl)) (hw _ (List.mem_of_getElem? (i := 58) rfl)) (hw _ (List.mem_of_getElem? (i := 57) rfl)) (hw _ (List.mem_of_getElem? (i := 14) rfl)) (hw _ (List.mem_of_getElem? (i := 59) rfl)) (by decide) (rm2 l Z a0 hw [] b36 1 ps4 z T49.heap n0 Z_49 (by omega) Tb49 hz) (a := b36) (own_Tab_exa Tb49) (Ls := #[s0, s1, s2, s3, s4, s5, s6, s7, s8, s9, .val (.ref a10), .val (.ref a11), s12, s13, .val (.ref a14), .val (.ref a15), .val (.int (Int32.ofNat (nl + 1))), .val (.int (Int32.ofNat 0)), .val (.int (Int32.ofNat r1)), .val (.int (Int32.ofNat r2)), .val (.int (Int32.ofNat r3)), .val (.ref b36), .val (.int (Int32.ofNat 0)), .val (.int (Int32.ofNat r1)), .val (.int (Int32.ofNat r2)), .val (.int (Int32.ofNat r3)), .val (.int (1 : Int32))]) (st := [(.int (1 : Int32)), (.ref b36)]) (W := 0) (by decide) (by decide) (by rw [hml]; rfl) (argsL := [(.int (1 : Int32))]) (rest := []) (lenOf pd_5 rfl) rfl rfl (Nat.le_of_eq rfl) (hb hby at_544) e55 (by decide) (by decide)
    obtain ⟨rfl, N57', e57⟩ := q57
    have N57 := Fr.app N55 N57'
    refine own_go st57 ?_
    show own_Go p e below _ T57 (mkF m 547 #[s0, s1, s2, s3, s4, s5, s6, s7, s8, s9, .val (.ref a10), .val (.ref a11), s12, s13, .val (.ref a14), .val (.ref a15), .val (.int (Int32.ofNat (nl + 1))), .val (.int (Int32.ofNat 0)), .val (.int (Int32.ofNat r1)), .val (.int (Int32.ofNat r2)), .val (.int (Int32.ofNat r3)), .val (.ref b36), .val (.int (Int32.ofNat 0)), .val (.int (Int32.ofNat r1)), .val (.int (Int32.ofNat r2)), .val (.int (Int32.ofNat r3)), .val (.int (1 : Int32))] [(.long z.2)])
    refine own_go (fun _ k => XS.aload X57.here hx rfl (hb hby at_547) rfl rfl k) ?_
    show own_Go p e below _ T57 (mkF m 549 #[s0, s1, s2, s3, s4, s5, s6, s7, s8, s9, .val (.ref a10), .val (.ref a11), s12, s13, .val (.ref a14), .val (.ref a15), .val (.int (Int32.ofNat (nl + 1))), .val (.int (Int32.ofNat 0)), .val (.int (Int32.ofNat r1)), .val (.int (Int32.ofNat r2)), .val (.int (Int32.ofNat r3)), .val (.ref b36), .val (.int (Int32.ofNat 0)), .val (.int (Int32.ofNat r1)), .val (.int (Int32.ofNat r2)), .val (.int (Int32.ofNat r3)), .val (.int (1 : Int32))] [(.ref a15), (.long z.2)])
    refine own_go (fun _ k => XS.iconst X57.here hx rfl (hb hby at_549) k) ?_
    show own_Go p e below _ T57 (mkF m 550 #[s0, s1, s2, s3, s4, s5, s6, s7, s8, s9, .val (.ref a10), .val (.ref a11), s12, s13, .val (.ref a14), .val (.ref a15), .val (.int (Int32.ofNat (nl + 1))), .val (.int (Int32.ofNat 0)), .val (.int (Int32.ofNat r1)), .val (.int (Int32.ofNat r2)), .val (.int (Int32.ofNat r3)), .val (.ref b36), .val (.int (Int32.ofNat 0)), .val (.int (Int32.ofNat r1)), .val (.int (Int32.ofNat r2)), .val (.int (Int32.ofNat r3)), .val (.int (1 : Int32))] [(.int (1 : Int32)), (.ref a15), (.long z.2)])
    obtain ⟨c_58, Ar_58, S_58, H_58⟩ := id B4_49
    refine own_go (fun _ k => X57.laload hx (j := (1 : Int32)) (v := (.long z.2)) (by rw [e57]; exact Ar_58.1) (State.isArrayOf_alike hZ.alike Ar_58.2.1) Ar_58.2.2 (inb_of S_58 ⟨by decide, by decide⟩) (H_58 1 _ hz) (g := (mkF m 550 #[s0, s1, s2, s3, s4, s5, s6, s7, s8, s9, .val (.ref a10), .val (.ref a11), s12, s13, .val (.ref a14), .val (.ref a15), .val (.int (Int32.ofNat (nl + 1))), .val (.int (Int32.ofNat 0)), .val (.int (Int32.ofNat r1)), .val (.int (Int32.ofNat r2)), .val (.int (Int32.ofNat r3)), .val (.ref b36), .val (.int (Int32.ofNat 0)), .val (.int (Int32.ofNat r1)), .val (.int (Int32.ofNat r2)), .val (.int (Int32.ofNat r3)), .val (.int (1 : Int32))] [(.int (1 : Int32)), (.ref a15), (.long z.2)])) rfl rfl (hb hby at_550) _ k) ?_
    show own_Go p e below _ T57 (mkF m 551 #[s0, s1, s2, s3, s4, s5, s6, s7, s8, s9, .val (.ref a10), .val (.ref a11), s12, s13, .val (.ref a14), .val (.ref a15), .val (.int (Int32.ofNat (nl + 1))), .val (.int (Int32.ofNat 0)), .val (.int (Int32.ofNat r1)), .val (.int (Int32.ofNat r2)), .val (.int (Int32.ofNat r3)), .val (.ref b36), .val (.int (Int32.ofNat 0)), .val (.int (Int32.ofNat r1)), .val (.int (Int32.ofNat r2)), .val (.int (Int32.ofNat r3)), .val (.int (1 : Int32))] [(.long z.2), (.long z.2)])
    refine own_go (fun _ k => XS.lcmp X57.here hx rfl (hb hby at_551) rfl k) ?_
    show own_Go p e below _ T57 (mkF m 552 #[s0, s1, s2, s3, s4, s5, s6, s7, s8, s9, .val (.ref a10), .val (.ref a11), s12, s13, .val (.ref a14), .val (.ref a15), .val (.int (Int32.ofNat (nl + 1))), .val (.int (Int32.ofNat 0)), .val (.int (Int32.ofNat r1)), .val (.int (Int32.ofNat r2)), .val (.int (Int32.ofNat r3)), .val (.ref b36), .val (.int (Int32.ofNat 0)), .val (.int (Int32.ofNat r1)), .val (.int (Int32.ofNat r2)), .val (.int (Int32.ofNat r3)), .val (.int (1 : Int32))] [(.int (lcmpW z.2 z.2))])
    refine own_go (fun _ k => XS.ifNo X57.here hx rfl (hb hby at_552) rfl ((if0 _ _).trans (teq ((lw_eq _ _).mpr rfl)).2) k) ?_
    show own_Go p e below _ T57 (mkF m 555 #[s0, s1, s2, s3, s4, s5, s6, s7, s8, s9, .val (.ref a10), .val (.ref a11), s12, s13, .val (.ref a14), .val (.ref a15), .val (.int (Int32.ofNat (nl + 1))), .val (.int (Int32.ofNat 0)), .val (.int (Int32.ofNat r1)), .val (.int (Int32.ofNat r2)), .val (.int (Int32.ofNat r3)), .val (.ref b36), .val (.int (Int32.ofNat 0)), .val (.int (Int32.ofNat r1)), .val (.int (Int32.ofNat r2)), .val (.int (Int32.ofNat r3)), .val (.int (1 : Int32))] [])
    refine own_go (fun _ k => XS.iconst X57.here hx rfl (hb hby at_555) k) ?_
    show own_Go p e below _ T57 (mkF m 556 #[s0, s1, s2, s3, s4, s5, s6, s7, s8, s9, .val (.ref a10), .val (.ref a11), s12, s13, .val (.ref a14), .val (.ref a15), .val (.int (Int32.ofNat (nl + 1))), .val (.int (Int32.ofNat 0)), .val (.int (Int32.ofNat r1)), .val (.int (Int32.ofNat r2)), .val (.int (Int32.ofNat r3)), .val (.ref b36), .val (.int (Int32.ofNat 0)), .val (.int (Int32.ofNat r1)), .val (.int (Int32.ofNat r2)), .val (.int (Int32.ofNat r3)), .val (.int (1 : Int32))] [(.int (1 : Int32))])
    refine own_go (fun _ k => XS.goto X57.here hx rfl (pc0 := 556) (pc' := 560) rfl (hb hby at_556) (by decide) (by decide) k) ?_
    show own_Go p e below _ T57 (mkF m 560 #[s0, s1, s2, s3, s4, s5, s6, s7, s8, s9, .val (.ref a10), .val (.ref a11), s12, s13, .val (.ref a14), .val (.ref a15), .val (.int (Int32.ofNat (nl + 1))), .val (.int (Int32.ofNat 0)), .val (.int (Int32.ofNat r1)), .val (.int (Int32.ofNat r2)), .val (.int (Int32.ofNat r3)), .val (.ref b36), .val (.int (Int32.ofNat 0)), .val (.int (Int32.ofNat r1)), .val (.int (Int32.ofNat r2)), .val (.int (Int32.ofNat r3)), .val (.int (1 : Int32))] [(.int (1 : Int32))])
    refine own_go (fun _ k => XS.istore X57.here hx rfl (hb hby at_560) rfl (l' := #[s0, s1, s2, s3, s4, s5, s6, s7, s8, s9, .val (.ref a10), .val (.ref a11), s12, s13, .val (.ref a14), .val (.ref a15), .val (.int (Int32.ofNat (nl + 1))), .val (.int (Int32.ofNat 0)), .val (.int (Int32.ofNat r1)), .val (.int (Int32.ofNat r2)), .val (.int (Int32.ofNat r3)), .val (.ref b36), .val (.int (Int32.ofNat 0)), .val (.int (Int32.ofNat r1)), .val (.int (Int32.ofNat r2)), .val (.int (Int32.ofNat r3)), .val (.int (1 : Int32))]) rfl k) ?_
    show own_Go p e below _ T57 (mkF m 562 #[s0, s1, s2, s3, s4, s5, s6, s7, s8, s9, .val (.ref a10), .val (.ref a11), s12, s13, .val (.ref a14), .val (.ref a15), .val (.int (Int32.ofNat (nl + 1))), .val (.int (Int32.ofNat 0)), .val (.int (Int32.ofNat r1)), .val (.int (Int32.ofNat r2)), .val (.int (Int32.ofNat r3)), .val (.ref b36), .val (.int (Int32.ofNat 0)), .val (.int (Int32.ofNat r1)), .val (.int (Int32.ofNat r2)), .val (.int (Int32.ofNat r3)), .val (.int (1 : Int32))] [])
    refine own_go (fun _ k => XS.iload X57.here hx rfl (hb hby at_562) rfl  k) ?_
    show own_Go p e below _ T57 (mkF m 564 #[s0, s1, s2, s3, s4, s5, s6, s7, s8, s9, .val (.ref a10), .val (.ref a11), s12, s13, .val (.ref a14), .val (.ref a15), .val (.int (Int32.ofNat (nl + 1))), .val (.int (Int32.ofNat 0)), .val (.int (Int32.ofNat r1)), .val (.int (Int32.ofNat r2)), .val (.int (Int32.ofNat r3)), .val (.ref b36), .val (.int (Int32.ofNat 0)), .val (.int (Int32.ofNat r1)), .val (.int (Int32.ofNat r2)), .val (.int (Int32.ofNat r3)), .val (.int (1 : Int32))] [(.int (1 : Int32))])
    exact own_endZ X57 hx hret hlk (hb hby at_564) rfl (by decide) (by decide) ⟨rfl, N57⟩
  · refine own_go (fun _ k => XS.icmpYes X53.here hx rfl (pc0 := 520) (pc' := 562) rfl (hb hby at_520) rfl (flt h2n).2.2.2 (by decide) (by decide) k) ?_
    show own_Go p e below _ T53 (mkF m 562 #[s0, s1, s2, s3, s4, s5, s6, s7, s8, s9, .val (.ref a10), .val (.ref a11), s12, s13, .val (.ref a14), .val (.ref a15), .val (.int (Int32.ofNat (nl + 1))), .val (.int (Int32.ofNat 0)), .val (.int (Int32.ofNat r1)), .val (.int (Int32.ofNat r2)), .val (.int (Int32.ofNat r3)), .val (.ref b36), .val (.int (Int32.ofNat 0)), .val (.int (Int32.ofNat r1)), .val (.int (Int32.ofNat r2)), .val (.int (Int32.ofNat r3)), .val (.int (1 : Int32))] [])
    refine own_go (fun _ k => XS.iload X53.here hx rfl (hb hby at_562) rfl  k) ?_
    show own_Go p e below _ T53 (mkF m 564 #[s0, s1, s2, s3, s4, s5, s6, s7, s8, s9, .val (.ref a10), .val (.ref a11), s12, s13, .val (.ref a14), .val (.ref a15), .val (.int (Int32.ofNat (nl + 1))), .val (.int (Int32.ofNat 0)), .val (.int (Int32.ofNat r1)), .val (.int (Int32.ofNat r2)), .val (.int (Int32.ofNat r3)), .val (.ref b36), .val (.int (Int32.ofNat 0)), .val (.int (Int32.ofNat r1)), .val (.int (Int32.ofNat r2)), .val (.int (Int32.ofNat r3)), .val (.int (1 : Int32))] [(.int (1 : Int32))])
    exact own_endZ X53 hx hret hlk (hb hby at_564) rfl (by decide) (by decide) ⟨rfl, N53⟩
set_option maxRecDepth 65536 in
set_option maxHeartbeats 40000000 in
theorem own_t270 {p : Program} {l : Launch} {e : Env} {s : State} {m : MethodId} {args : Array Value} {below : List Frame} {meth : Method} {c : Code} {T0 : State} {locs : List Loc} {Z : State} {a0 : Array Value} {h0 : Heap} {n0 : Nat} (s0 s1 s2 s3 s4 s5 s6 s7 s8 s9 s12 s13 : Slot) (a10 a11 a14 a15 : Nat) (x0 x1 x2 x3 : own_Pr) (r1 r2 : Nat) (ps1 ps2 ps3 : List own_Pr) (X0 : Stand p l e room_1 s m args below meth c T0 locs 4 16)
    (hx : p.tables.exec = Jvm.exec) (hZ : Z.Warmed39 s.vm) (hw : ∀ d ∈ tables_1, d.before a0 Z = true) (hby : c.code = code) (hml : c.maxLocals = 27) (hown : s.vm.findClass "com/example/window_payoff_solver/windowpayoffsolver/window/PairTableIndexPinLaw" = some m.cls) (hret : meth.sig.returnType = some .boolean) (hlk : meth.locks = false) (e0 : T0.heap = h0) (Z0 : n0 ≤ h0.size) (N0 : Fr n0 locs) (g14 : n0 ≤ a14) (g15 : n0 ≤ a15) (o1 : a10 < a11) (o2 : a11 < a14) (o3 : a14 < a15) (B1 : own_Af Z h0 a10 4 [x0, x1, x2, x3]) (B2 : own_As Z h0 a11 4 [x0, x1, x2, x3]) (B3 : own_Af Z h0 a14 4 ps3) (B4 : own_As Z h0 a15 4 ps3) (J0 : own_Ix [] x0 0 ps1) (J1 : own_Ix ps1 x1 r1 ps2) (J2 : own_Ix ps2 x2 r2 ps3) :
    own_Go p e below (own_P (own_R (fun v _ L => v = some (.int 1) ∧ Fr n0 L)) room_1 s) T0 (mkF m 270 #[s0, s1, s2, s3, s4, s5, s6, s7, s8, s9, .val (.ref a10), .val (.ref a11), s12, s13, .val (.ref a14), .val (.ref a15), .val (.int (Int32.ofNat ps3.length)), .val (.int (Int32.ofNat 0)), .val (.int (Int32.ofNat r1)), .val (.int (Int32.ofNat r2)), .unset, .unset, .unset, .unset, .unset, .unset, .unset] []) := by
  have l0 : ([] : List own_Pr).length = 0 := rfl
  have l1 := own_lenIx J0
  have l2 := own_lenIx J1
  have l3 := own_lenIx J2
  have P0 : ps3[0]? = some x0 := (own_oldIx J2 (own_oldIx J1 (own_atIx J0)))
  have P1 : ps3[r1]? = some x1 := (own_oldIx J2 (own_atIx J1))
  have P2 : ps3[r2]? = some x2 := (own_atIx J2)
  have All : ∀ (i : Nat) (y : own_Pr), ps3[i]? = some y → y = x0 ∨ y = x1 ∨ y = x2 := by
    intro i y hh
    rcases own_memIx J2 hh with hh | hh
    · rcases own_memIx J1 hh with hh | hh
      · rcases own_memIx J0 hh with hh | hh
        · simp at hh
        · subst hh; simp
      · subst hh; simp
    · subst hh; simp
  refine own_go (fun _ k => XS.aload X0.here hx rfl (hb hby at_270) rfl rfl k) ?_
  show own_Go p e below _ T0 (mkF m 272 #[s0, s1, s2, s3, s4, s5, s6, s7, s8, s9, .val (.ref a10), .val (.ref a11), s12, s13, .val (.ref a14), .val (.ref a15), .val (.int (Int32.ofNat ps3.length)), .val (.int (Int32.ofNat 0)), .val (.int (Int32.ofNat r1)), .val (.int (Int32.ofNat r2)), .unset, .unset, .unset, .unset, .unset, .unset, .unset] [(.ref a10)])
  refine own_go (fun _ k => XS.aload X0.here hx rfl (hb hby at_272) rfl rfl k) ?_
  show own_Go p e below _ T0 (mkF m 274 #[s0, s1, s2, s3, s4, s5, s6, s7, s8, s9, .val (.ref a10), .val (.ref a11), s12, s13, .val (.ref a14), .val (.ref a15), .val (.int (Int32.ofNat ps3.length)), .val (.int (Int32.ofNat 0)), .val (.int (Int32.ofNat r1)), .val (.int (Int32.ofNat r2)), .unset, .unset, .unset, .unset, .unset, .unset, .unset] [(.ref a11), (.ref a10)])
  refine own_go (fun _ k => XS.iconst X0.here hx rfl (hb hby at_274) k) ?_
  show own_Go p e below _ T0 (mkF m 275 #[s0, s1, s2, s3, s4, s5, s6, s7, s8, s9, .val (.ref a10), .val (.ref a11), s12, s13, .val (.ref a14), .val (.ref a15), .val (.int (Int32.ofNat ps3.length)), .val (.int (Int32.ofNat 0)), .val (.int (Int32.ofNat r1)), .val (.int (Int32.ofNat r2)), .unset, .unset, .unset, .unset, .unset, .unset, .unset] [(.int (3 : Int32)), (.ref a11), (.ref a10)])
  refine own_go (fun _ k => XS.iconst X0.here hx rfl (hb hby at_275) k) ?_
  show own_Go p e below _ T0 (mkF m 276 #[s0, s1, s2, s3, s4, s5, s6, s7, s8, s9, .val (.ref a10), .val (.ref a11), s12, s13, .val (.ref a14), .val (.ref a15), .val (.int (Int32.ofNat ps3.length)), .val (.int (Int32.ofNat 0)), .val (.int (Int32.ofNat r1)), .val (.int (Int32.ofNat r2)), .unset, .unset, .unset, .unset, .unset, .unset, .unset] [(.int (0 : Int32)), (.int (3 : Int32)), (.ref a11), (.ref a10)])
  obtain ⟨T59, v59, L59, X59, q59, st59⟩ := own_callS X0 hx hZ hown (y := (⟨"com/example/window_payoff_solver/windowpayoffsolver/window/PairTableIndexPinLaw", "same", "([I[JII)Z"⟩ : MethodName)) (hw _ (List.mem_of_getElem? (i := 9) rfl)) (hw _ (List.mem_of_getElem? (i := 10) rfl)) (hw _ (List.mem_of_getElem? (i := 4) rfl)) (hw _ (List.mem_of_getElem? (i := 11) rfl)) (by decide) (rmSM l Z a0 hw [] a10 a11 3 0 [x0, x1, x2, x3] x3 x0 h0 n0 Z0 (by omega) (by omega) B1 B2 rfl rfl) (Ls := #[s0, s1, s2, s3, s4, s5, s6, s7, s8, s9, .val (.ref a10), .val (.ref a11), s12, s13, .val (.ref a14), .val (.ref a15), .val (.int (Int32.ofNat ps3.length)), .val (.int (Int32.ofNat 0)), .val (.int (Int32.ofNat r1)), .val (.int (Int32.ofNat r2)), .unset, .unset, .unset, .unset, .unset, .unset, .unset]) (st := [(.int (0 : Int32)), (.int (3 : Int32)), (.ref a11), (.ref a10)]) (W := 0) (by decide) (by decide) (by rw [hml]; rfl) (argsL := [(.ref a10), (.ref a11), (.int (3 : Int32)), (.int (0 : Int32))]) (rest := []) (lenOf pd_6 rfl) rfl rfl (Nat.le_of_eq rfl) (hb hby at_276) e0 (by decide) (by decide)
  obtain ⟨rfl, N59', e59⟩ := q59
  have N59 := Fr.app N0 N59'
  refine own_go st59 ?_
  show own_Go p e below _ T59 (mkF m 279 #[s0, s1, s2, s3, s4, s5, s6, s7, s8, s9, .val (.ref a10), .val (.ref a11), s12, s13, .val (.ref a14), .val (.ref a15), .val (.int (Int32.ofNat ps3.length)), .val (.int (Int32.ofNat 0)), .val (.int (Int32.ofNat r1)), .val (.int (Int32.ofNat r2)), .unset, .unset, .unset, .unset, .unset, .unset, .unset] [(.int (if x3 = x0 then 1 else 0))])
  by_cases hq0 : x3 = x0
  · rw [if_pos hq0]
    show own_Go p e below _ T59 (mkF m 279 #[s0, s1, s2, s3, s4, s5, s6, s7, s8, s9, .val (.ref a10), .val (.ref a11), s12, s13, .val (.ref a14), .val (.ref a15), .val (.int (Int32.ofNat ps3.length)), .val (.int (Int32.ofNat 0)), .val (.int (Int32.ofNat r1)), .val (.int (Int32.ofNat r2)), .unset, .unset, .unset, .unset, .unset, .unset, .unset] [(.int (1 : Int32))])
    refine own_go (fun _ k => XS.ifNo X59.here hx rfl (hb hby at_279) rfl ((if0 _ _).trans (feq (by decide)).1) k) ?_
    show own_Go p e below _ T59 (mkF m 282 #[s0, s1, s2, s3, s4, s5, s6, s7, s8, s9, .val (.ref a10), .val (.ref a11), s12, s13, .val (.ref a14), .val (.ref a15), .val (.int (Int32.ofNat ps3.length)), .val (.int (Int32.ofNat 0)), .val (.int (Int32.ofNat r1)), .val (.int (Int32.ofNat r2)), .unset, .unset, .unset, .unset, .unset, .unset, .unset] [])
    refine own_go (fun _ k => XS.iload X59.here hx rfl (hb hby at_282) rfl  k) ?_
    show own_Go p e below _ T59 (mkF m 284 #[s0, s1, s2, s3, s4, s5, s6, s7, s8, s9, .val (.ref a10), .val (.ref a11), s12, s13, .val (.ref a14), .val (.ref a15), .val (.int (Int32.ofNat ps3.length)), .val (.int (Int32.ofNat 0)), .val (.int (Int32.ofNat r1)), .val (.int (Int32.ofNat r2)), .unset, .unset, .unset, .unset, .unset, .unset, .unset] [(.int (Int32.ofNat 0))])
    refine own_go (fun _ k => XS.istore X59.here hx rfl (hb hby at_284) rfl (l' := #[s0, s1, s2, s3, s4, s5, s6, s7, s8, s9, .val (.ref a10), .val (.ref a11), s12, s13, .val (.ref a14), .val (.ref a15), .val (.int (Int32.ofNat ps3.length)), .val (.int (Int32.ofNat 0)), .val (.int (Int32.ofNat r1)), .val (.int (Int32.ofNat r2)), .val (.int (Int32.ofNat 0)), .unset, .unset, .unset, .unset, .unset, .unset]) rfl k) ?_
    show own_Go p e below _ T59 (mkF m 286 #[s0, s1, s2, s3, s4, s5, s6, s7, s8, s9, .val (.ref a10), .val (.ref a11), s12, s13, .val (.ref a14), .val (.ref a15), .val (.int (Int32.ofNat ps3.length)), .val (.int (Int32.ofNat 0)), .val (.int (Int32.ofNat r1)), .val (.int (Int32.ofNat r2)), .val (.int (Int32.ofNat 0)), .unset, .unset, .unset, .unset, .unset, .unset] [])
    refine own_go (fun _ k => XS.goto X59.here hx rfl (pc0 := 286) (pc' := 352) rfl (hb hby at_286) (by decide) (by decide) k) ?_
    show own_Go p e below _ T59 (mkF m 352 #[s0, s1, s2, s3, s4, s5, s6, s7, s8, s9, .val (.ref a10), .val (.ref a11), s12, s13, .val (.ref a14), .val (.ref a15), .val (.int (Int32.ofNat ps3.length)), .val (.int (Int32.ofNat 0)), .val (.int (Int32.ofNat r1)), .val (.int (Int32.ofNat r2)), .val (.int (Int32.ofNat 0)), .unset, .unset, .unset, .unset, .unset, .unset] [])
    exact own_t352 s0 s1 s2 s3 s4 s5 s6 s7 s8 s9 s12 s13 a10 a11 a14 a15 x0 x1 x2 x3 r1 r2 0 ps1 ps2 ps3 ps3 X59 hx hZ hw hby hml hown hret hlk e59 Z0 N59 g14 g15 o1 o2 o3 B1 B2 B3 B4 J0 J1 J2 (Or.inl ⟨by rw [hq0]; exact P0, rfl⟩)
  · rw [if_neg hq0]
    show own_Go p e below _ T59 (mkF m 279 #[s0, s1, s2, s3, s4, s5, s6, s7, s8, s9, .val (.ref a10), .val (.ref a11), s12, s13, .val (.ref a14), .val (.ref a15), .val (.int (Int32.ofNat ps3.length)), .val (.int (Int32.ofNat 0)), .val (.int (Int32.ofNat r1)), .val (.int (Int32.ofNat r2)), .unset, .unset, .unset, .unset, .unset, .unset, .unset] [(.int (0 : Int32))])
    refine own_go (fun _ k => XS.ifYes X59.here hx rfl (pc0 := 279) (pc' := 289) rfl (hb hby at_279) rfl ((if0 _ _).trans (teq rfl).1) (by decide) (by decide) k) ?_
    show own_Go p e below _ T59 (mkF m 289 #[s0, s1, s2, s3, s4, s5, s6, s7, s8, s9, .val (.ref a10), .val (.ref a11), s12, s13, .val (.ref a14), .val (.ref a15), .val (.int (Int32.ofNat ps3.length)), .val (.int (Int32.ofNat 0)), .val (.int (Int32.ofNat r1)), .val (.int (Int32.ofNat r2)), .unset, .unset, .unset, .unset, .unset, .unset, .unset] [])
    refine own_go (fun _ k => XS.aload X59.here hx rfl (hb hby at_289) rfl rfl k) ?_
    show own_Go p e below _ T59 (mkF m 291 #[s0, s1, s2, s3, s4, s5, s6, s7, s8, s9, .val (.ref a10), .val (.ref a11), s12, s13, .val (.ref a14), .val (.ref a15), .val (.int (Int32.ofNat ps3.length)), .val (.int (Int32.ofNat 0)), .val (.int (Int32.ofNat r1)), .val (.int (Int32.ofNat r2)), .unset, .unset, .unset, .unset, .unset, .unset, .unset] [(.ref a10)])
    refine own_go (fun _ k => XS.aload X59.here hx rfl (hb hby at_291) rfl rfl k) ?_
    show own_Go p e below _ T59 (mkF m 293 #[s0, s1, s2, s3, s4, s5, s6, s7, s8, s9, .val (.ref a10), .val (.ref a11), s12, s13, .val (.ref a14), .val (.ref a15), .val (.int (Int32.ofNat ps3.length)), .val (.int (Int32.ofNat 0)), .val (.int (Int32.ofNat r1)), .val (.int (Int32.ofNat r2)), .unset, .unset, .unset, .unset, .unset, .unset, .unset] [(.ref a11), (.ref a10)])
    refine own_go (fun _ k => XS.iconst X59.here hx rfl (hb hby at_293) k) ?_
    show own_Go p e below _ T59 (mkF m 294 #[s0, s1, s2, s3, s4, s5, s6, s7, s8, s9, .val (.ref a10), .val (.ref a11), s12, s13, .val (.ref a14), .val (.ref a15), .val (.int (Int32.ofNat ps3.length)), .val (.int (Int32.ofNat 0)), .val (.int (Int32.ofNat r1)), .val (.int (Int32.ofNat r2)), .unset, .unset, .unset, .unset, .unset, .unset, .unset] [(.int (3 : Int32)), (.ref a11), (.ref a10)])
    refine own_go (fun _ k => XS.iconst X59.here hx rfl (hb hby at_294) k) ?_
    show own_Go p e below _ T59 (mkF m 295 #[s0, s1, s2, s3, s4, s5, s6, s7, s8, s9, .val (.ref a10), .val (.ref a11), s12, s13, .val (.ref a14), .val (.ref a15), .val (.int (Int32.ofNat ps3.length)), .val (.int (Int32.ofNat 0)), .val (.int (Int32.ofNat r1)), .val (.int (Int32.ofNat r2)), .unset, .unset, .unset, .unset, .unset, .unset, .unset] [(.int (1 : Int32)), (.int (3 : Int32)), (.ref a11), (.ref a10)])
    obtain ⟨T60, v60, L60, X60, q60, st60⟩ := own_callS X59 hx hZ hown (y := (⟨"com/example/window_payoff_solver/windowpayoffsolver/window/PairTableIndexPinLaw", "same", "([I[JII)Z"⟩ : MethodName)) (hw _ (List.mem_of_getElem? (i := 9) rfl)) (hw _ (List.mem_of_getElem? (i := 10) rfl)) (hw _ (List.mem_of_getElem? (i := 4) rfl)) (hw _ (List.mem_of_getElem? (i := 11) rfl)) (by decide) (rmSM l Z a0 hw [] a10 a11 3 1 [x0, x1, x2, x3] x3 x1 h0 n0 Z0 (by omega) (by omega) B1 B2 rfl rfl) (Ls := #[s0, s1, s2, s3, s4, s5, s6, s7, s8, s9, .val (.ref a10), .val (.ref a11), s12, s13, .val (.ref a14), .val (.ref a15), .val (.int (Int32.ofNat ps3.length)), .val (.int (Int32.ofNat 0)), .val (.int (Int32.ofNat r1)), .val (.int (Int32.ofNat r2)), .unset, .unset, .unset, .unset, .unset, .unset, .unset]) (st := [(.int (1 : Int32)), (.int (3 : Int32)), (.ref a11), (.ref a10)]) (W := 0) (by decide) (by decide) (by rw [hml]; rfl) (argsL := [(.ref a10), (.ref a11), (.int (3 : Int32)), (.int (1 : Int32))]) (rest := []) (lenOf pd_6 rfl) rfl rfl (Nat.le_of_eq rfl) (hb hby at_295) e59 (by decide) (by decide)
    obtain ⟨rfl, N60', e60⟩ := q60
    have N60 := Fr.app N59 N60'
    refine own_go st60 ?_
    show own_Go p e below _ T60 (mkF m 298 #[s0, s1, s2, s3, s4, s5, s6, s7, s8, s9, .val (.ref a10), .val (.ref a11), s12, s13, .val (.ref a14), .val (.ref a15), .val (.int (Int32.ofNat ps3.length)), .val (.int (Int32.ofNat 0)), .val (.int (Int32.ofNat r1)), .val (.int (Int32.ofNat r2)), .unset, .unset, .unset, .unset, .unset, .unset, .unset] [(.int (if x3 = x1 then 1 else 0))])
    by_cases hq1 : x3 = x1
    · rw [if_pos hq1]
      show own_Go p e below _ T60 (mkF m 298 #[s0, s1, s2, s3, s4, s5, s6, s7, s8, s9, .val (.ref a10), .val (.ref a11), s12, s13, .val (.ref a14), .val (.ref a15), .val (.int (Int32.ofNat ps3.length)), .val (.int (Int32.ofNat 0)), .val (.int (Int32.ofNat r1)), .val (.int (Int32.ofNat r2)), .unset, .unset, .unset, .unset, .unset, .unset, .unset] [(.int (1 : Int32))])
      refine own_go (fun _ k => XS.ifNo X60.here hx rfl (hb hby at_298) rfl ((if0 _ _).trans (feq (by decide)).1) k) ?_
      show own_Go p e below _ T60 (mkF m 301 #[s0, s1, s2, s3, s4, s5, s6, s7, s8, s9, .val (.ref a10), .val (.ref a11), s12, s13, .val (.ref a14), .val (.ref a15), .val (.int (Int32.ofNat ps3.length)), .val (.int (Int32.ofNat 0)), .val (.int (Int32.ofNat r1)), .val (.int (Int32.ofNat r2)), .unset, .unset, .unset, .unset, .unset, .unset, .unset] [])
      refine own_go (fun _ k => XS.iload X60.here hx rfl (hb hby at_301) rfl  k) ?_
      show own_Go p e below _ T60 (mkF m 303 #[s0, s1, s2, s3, s4, s5, s6, s7, s8, s9, .val (.ref a10), .val (.ref a11), s12, s13, .val (.ref a14), .val (.ref a15), .val (.int (Int32.ofNat ps3.length)), .val (.int (Int32.ofNat 0)), .val (.int (Int32.ofNat r1)), .val (.int (Int32.ofNat r2)), .unset, .unset, .unset, .unset, .unset, .unset, .unset] [(.int (Int32.ofNat r1))])
      refine own_go (fun _ k => XS.istore X60.here hx rfl (hb hby at_303) rfl (l' := #[s0, s1, s2, s3, s4, s5, s6, s7, s8, s9, .val (.ref a10), .val (.ref a11), s12, s13, .val (.ref a14), .val (.ref a15), .val (.int (Int32.ofNat ps3.length)), .val (.int (Int32.ofNat 0)), .val (.int (Int32.ofNat r1)), .val (.int (Int32.ofNat r2)), .val (.int (Int32.ofNat r1)), .unset, .unset, .unset, .unset, .unset, .unset]) rfl k) ?_
      show own_Go p e below _ T60 (mkF m 305 #[s0, s1, s2, s3, s4, s5, s6, s7, s8, s9, .val (.ref a10), .val (.ref a11), s12, s13, .val (.ref a14), .val (.ref a15), .val (.int (Int32.ofNat ps3.length)), .val (.int (Int32.ofNat 0)), .val (.int (Int32.ofNat r1)), .val (.int (Int32.ofNat r2)), .val (.int (Int32.ofNat r1)), .unset, .unset, .unset, .unset, .unset, .unset] [])
      refine own_go (fun _ k => XS.goto X60.here hx rfl (pc0 := 305) (pc' := 352) rfl (hb hby at_305) (by decide) (by decide) k) ?_
      show own_Go p e below _ T60 (mkF m 352 #[s0, s1, s2, s3, s4, s5, s6, s7, s8, s9, .val (.ref a10), .val (.ref a11), s12, s13, .val (.ref a14), .val (.ref a15), .val (.int (Int32.ofNat ps3.length)), .val (.int (Int32.ofNat 0)), .val (.int (Int32.ofNat r1)), .val (.int (Int32.ofNat r2)), .val (.int (Int32.ofNat r1)), .unset, .unset, .unset, .unset, .unset, .unset] [])
      exact own_t352 s0 s1 s2 s3 s4 s5 s6 s7 s8 s9 s12 s13 a10 a11 a14 a15 x0 x1 x2 x3 r1 r2 r1 ps1 ps2 ps3 ps3 X60 hx hZ hw hby hml hown hret hlk e60 Z0 N60 g14 g15 o1 o2 o3 B1 B2 B3 B4 J0 J1 J2 (Or.inl ⟨by rw [hq1]; exact P1, rfl⟩)
    · rw [if_neg hq1]
      show own_Go p e below _ T60 (mkF m 298 #[s0, s1, s2, s3, s4, s5, s6, s7, s8, s9, .val (.ref a10), .val (.ref a11), s12, s13, .val (.ref a14), .val (.ref a15), .val (.int (Int32.ofNat ps3.length)), .val (.int (Int32.ofNat 0)), .val (.int (Int32.ofNat r1)), .val (.int (Int32.ofNat r2)), .unset, .unset, .unset, .unset, .unset, .unset, .unset] [(.int (0 : Int32))])
      refine own_go (fun _ k => XS.ifYes X60.here hx rfl (pc0 := 298) (pc' := 308) rfl (hb hby at_298) rfl ((if0 _ _).trans (teq rfl).1) (by decide) (by decide) k) ?_
      show own_Go p e below _ T60 (mkF m 308 #[s0, s1, s2, s3, s4, s5, s6, s7, s8, s9, .val (.ref a10), .val (.ref a11), s12, s13, .val (.ref a14), .val (.ref a15), .val (.int (Int32.ofNat ps3.length)), .val (.int (Int32.ofNat 0)), .val (.int (Int32.ofNat r1)), .val (.int (Int32.ofNat r2)), .unset, .unset, .unset, .unset, .unset, .unset, .unset] [])
      refine own_go (fun _ k => XS.aload X60.here hx rfl (hb hby at_308) rfl rfl k) ?_
      show own_Go p e below _ T60 (mkF m 310 #[s0, s1, s2, s3, s4, s5, s6, s7, s8, s9, .val (.ref a10), .val (.ref a11), s12, s13, .val (.ref a14), .val (.ref a15), .val (.int (Int32.ofNat ps3.length)), .val (.int (Int32.ofNat 0)), .val (.int (Int32.ofNat r1)), .val (.int (Int32.ofNat r2)), .unset, .unset, .unset, .unset, .unset, .unset, .unset] [(.ref a10)])
      refine own_go (fun _ k => XS.aload X60.here hx rfl (hb hby at_310) rfl rfl k) ?_
      show own_Go p e below _ T60 (mkF m 312 #[s0, s1, s2, s3, s4, s5, s6, s7, s8, s9, .val (.ref a10), .val (.ref a11), s12, s13, .val (.ref a14), .val (.ref a15), .val (.int (Int32.ofNat ps3.length)), .val (.int (Int32.ofNat 0)), .val (.int (Int32.ofNat r1)), .val (.int (Int32.ofNat r2)), .unset, .unset, .unset, .unset, .unset, .unset, .unset] [(.ref a11), (.ref a10)])
      refine own_go (fun _ k => XS.iconst X60.here hx rfl (hb hby at_312) k) ?_
      show own_Go p e below _ T60 (mkF m 313 #[s0, s1, s2, s3, s4, s5, s6, s7, s8, s9, .val (.ref a10), .val (.ref a11), s12, s13, .val (.ref a14), .val (.ref a15), .val (.int (Int32.ofNat ps3.length)), .val (.int (Int32.ofNat 0)), .val (.int (Int32.ofNat r1)), .val (.int (Int32.ofNat r2)), .unset, .unset, .unset, .unset, .unset, .unset, .unset] [(.int (3 : Int32)), (.ref a11), (.ref a10)])
      refine own_go (fun _ k => XS.iconst X60.here hx rfl (hb hby at_313) k) ?_
      show own_Go p e below _ T60 (mkF m 314 #[s0, s1, s2, s3, s4, s5, s6, s7, s8, s9, .val (.ref a10), .val (.ref a11), s12, s13, .val (.ref a14), .val (.ref a15), .val (.int (Int32.ofNat ps3.length)), .val (.int (Int32.ofNat 0)), .val (.int (Int32.ofNat r1)), .val (.int (Int32.ofNat r2)), .unset, .unset, .unset, .unset, .unset, .unset, .unset] [(.int (2 : Int32)), (.int (3 : Int32)), (.ref a11), (.ref a10)])
      obtain ⟨T61, v61, L61, X61, q61, st61⟩ := own_callS X60 hx hZ hown (y := (⟨"com/example/window_payoff_solver/windowpayoffsolver/window/PairTableIndexPinLaw", "same", "([I[JII)Z"⟩ : MethodName)) (hw _ (List.mem_of_getElem? (i := 9) rfl)) (hw _ (List.mem_of_getElem? (i := 10) rfl)) (hw _ (List.mem_of_getElem? (i := 4) rfl)) (hw _ (List.mem_of_getElem? (i := 11) rfl)) (by decide) (rmSM l Z a0 hw [] a10 a11 3 2 [x0, x1, x2, x3] x3 x2 h0 n0 Z0 (by omega) (by omega) B1 B2 rfl rfl) (Ls := #[s0, s1, s2, s3, s4, s5, s6, s7, s8, s9, .val (.ref a10), .val (.ref a11), s12, s13, .val (.ref a14), .val (.ref a15), .val (.int (Int32.ofNat ps3.length)), .val (.int (Int32.ofNat 0)), .val (.int (Int32.ofNat r1)), .val (.int (Int32.ofNat r2)), .unset, .unset, .unset, .unset, .unset, .unset, .unset]) (st := [(.int (2 : Int32)), (.int (3 : Int32)), (.ref a11), (.ref a10)]) (W := 0) (by decide) (by decide) (by rw [hml]; rfl) (argsL := [(.ref a10), (.ref a11), (.int (3 : Int32)), (.int (2 : Int32))]) (rest := []) (lenOf pd_6 rfl) rfl rfl (Nat.le_of_eq rfl) (hb hby at_314) e60 (by decide) (by decide)
      obtain ⟨rfl, N61', e61⟩ := q61
      have N61 := Fr.app N60 N61'
      refine own_go st61 ?_
      show own_Go p e below _ T61 (mkF m 317 #[s0, s1, s2, s3, s4, s5, s6, s7, s8, s9, .val (.ref a10), .val (.ref a11), s12, s13, .val (.ref a14), .val (.ref a15), .val (.int (Int32.ofNat ps3.length)), .val (.int (Int32.ofNat 0)), .val (.int (Int32.ofNat r1)), .val (.int (Int32.ofNat r2)), .unset, .unset, .unset, .unset, .unset, .unset, .unset] [(.int (if x3 = x2 then 1 else 0))])
      by_cases hq2 : x3 = x2
      · rw [if_pos hq2]
        show own_Go p e below _ T61 (mkF m 317 #[s0, s1, s2, s3, s4, s5, s6, s7, s8, s9, .val (.ref a10), .val (.ref a11), s12, s13, .val (.ref a14), .val (.ref a15), .val (.int (Int32.ofNat ps3.length)), .val (.int (Int32.ofNat 0)), .val (.int (Int32.ofNat r1)), .val (.int (Int32.ofNat r2)), .unset, .unset, .unset, .unset, .unset, .unset, .unset] [(.int (1 : Int32))])
        refine own_go (fun _ k => XS.ifNo X61.here hx rfl (hb hby at_317) rfl ((if0 _ _).trans (feq (by decide)).1) k) ?_
        show own_Go p e below _ T61 (mkF m 320 #[s0, s1, s2, s3, s4, s5, s6, s7, s8, s9, .val (.ref a10), .val (.ref a11), s12, s13, .val (.ref a14), .val (.ref a15), .val (.int (Int32.ofNat ps3.length)), .val (.int (Int32.ofNat 0)), .val (.int (Int32.ofNat r1)), .val (.int (Int32.ofNat r2)), .unset, .unset, .unset, .unset, .unset, .unset, .unset] [])
        refine own_go (fun _ k => XS.iload X61.here hx rfl (hb hby at_320) rfl  k) ?_
        show own_Go p e below _ T61 (mkF m 322 #[s0, s1, s2, s3, s4, s5, s6, s7, s8, s9, .val (.ref a10), .val (.ref a11), s12, s13, .val (.ref a14), .val (.ref a15), .val (.int (Int32.ofNat ps3.length)), .val (.int (Int32.ofNat 0)), .val (.int (Int32.ofNat r1)), .val (.int (Int32.ofNat r2)), .unset, .unset, .unset, .unset, .unset, .unset, .unset] [(.int (Int32.ofNat r2))])
        refine own_go (fun _ k => XS.istore X61.here hx rfl (hb hby at_322) rfl (l' := #[s0, s1, s2, s3, s4, s5, s6, s7, s8, s9, .val (.ref a10), .val (.ref a11), s12, s13, .val (.ref a14), .val (.ref a15), .val (.int (Int32.ofNat ps3.length)), .val (.int (Int32.ofNat 0)), .val (.int (Int32.ofNat r1)), .val (.int (Int32.ofNat r2)), .val (.int (Int32.ofNat r2)), .unset, .unset, .unset, .unset, .unset, .unset]) rfl k) ?_
        show own_Go p e below _ T61 (mkF m 324 #[s0, s1, s2, s3, s4, s5, s6, s7, s8, s9, .val (.ref a10), .val (.ref a11), s12, s13, .val (.ref a14), .val (.ref a15), .val (.int (Int32.ofNat ps3.length)), .val (.int (Int32.ofNat 0)), .val (.int (Int32.ofNat r1)), .val (.int (Int32.ofNat r2)), .val (.int (Int32.ofNat r2)), .unset, .unset, .unset, .unset, .unset, .unset] [])
        refine own_go (fun _ k => XS.goto X61.here hx rfl (pc0 := 324) (pc' := 352) rfl (hb hby at_324) (by decide) (by decide) k) ?_
        show own_Go p e below _ T61 (mkF m 352 #[s0, s1, s2, s3, s4, s5, s6, s7, s8, s9, .val (.ref a10), .val (.ref a11), s12, s13, .val (.ref a14), .val (.ref a15), .val (.int (Int32.ofNat ps3.length)), .val (.int (Int32.ofNat 0)), .val (.int (Int32.ofNat r1)), .val (.int (Int32.ofNat r2)), .val (.int (Int32.ofNat r2)), .unset, .unset, .unset, .unset, .unset, .unset] [])
        exact own_t352 s0 s1 s2 s3 s4 s5 s6 s7 s8 s9 s12 s13 a10 a11 a14 a15 x0 x1 x2 x3 r1 r2 r2 ps1 ps2 ps3 ps3 X61 hx hZ hw hby hml hown hret hlk e61 Z0 N61 g14 g15 o1 o2 o3 B1 B2 B3 B4 J0 J1 J2 (Or.inl ⟨by rw [hq2]; exact P2, rfl⟩)
      · rw [if_neg hq2]
        show own_Go p e below _ T61 (mkF m 317 #[s0, s1, s2, s3, s4, s5, s6, s7, s8, s9, .val (.ref a10), .val (.ref a11), s12, s13, .val (.ref a14), .val (.ref a15), .val (.int (Int32.ofNat ps3.length)), .val (.int (Int32.ofNat 0)), .val (.int (Int32.ofNat r1)), .val (.int (Int32.ofNat r2)), .unset, .unset, .unset, .unset, .unset, .unset, .unset] [(.int (0 : Int32))])
        refine own_go (fun _ k => XS.ifYes X61.here hx rfl (pc0 := 317) (pc' := 327) rfl (hb hby at_317) rfl ((if0 _ _).trans (teq rfl).1) (by decide) (by decide) k) ?_
        show own_Go p e below _ T61 (mkF m 327 #[s0, s1, s2, s3, s4, s5, s6, s7, s8, s9, .val (.ref a10), .val (.ref a11), s12, s13, .val (.ref a14), .val (.ref a15), .val (.int (Int32.ofNat ps3.length)), .val (.int (Int32.ofNat 0)), .val (.int (Int32.ofNat r1)), .val (.int (Int32.ofNat r2)), .unset, .unset, .unset, .unset, .unset, .unset, .unset] [])
        have hno : ∀ i : Nat, ps3[i]? ≠ some x3 := fun i hi => by
          rcases All i _ hi with q | q | q
          · exact hq0 q
          · exact hq1 q
          · exact hq2 q
        refine own_go (fun _ k => XS.iload X61.here hx rfl (hb hby at_327) rfl  k) ?_
        show own_Go p e below _ T61 (mkF m 329 #[s0, s1, s2, s3, s4, s5, s6, s7, s8, s9, .val (.ref a10), .val (.ref a11), s12, s13, .val (.ref a14), .val (.ref a15), .val (.int (Int32.ofNat ps3.length)), .val (.int (Int32.ofNat 0)), .val (.int (Int32.ofNat r1)), .val (.int (Int32.ofNat r2)), .unset, .unset, .unset, .unset, .unset, .unset, .unset] [(.int (Int32.ofNat ps3.length))])
        refine own_go (fun _ k => XS.istore X61.here hx rfl (hb hby at_329) rfl (l' := #[s0, s1, s2, s3, s4, s5, s6, s7, s8, s9, .val (.ref a10), .val (.ref a11), s12, s13, .val (.ref a14), .val (.ref a15), .val (.int (Int32.ofNat ps3.length)), .val (.int (Int32.ofNat 0)), .val (.int (Int32.ofNat r1)), .val (.int (Int32.ofNat r2)), .val (.int (Int32.ofNat ps3.length)), .unset, .unset, .unset, .unset, .unset, .unset]) rfl k) ?_
        show own_Go p e below _ T61 (mkF m 331 #[s0, s1, s2, s3, s4, s5, s6, s7, s8, s9, .val (.ref a10), .val (.ref a11), s12, s13, .val (.ref a14), .val (.ref a15), .val (.int (Int32.ofNat ps3.length)), .val (.int (Int32.ofNat 0)), .val (.int (Int32.ofNat r1)), .val (.int (Int32.ofNat r2)), .val (.int (Int32.ofNat ps3.length)), .unset, .unset, .unset, .unset, .unset, .unset] [])
        refine own_go (fun _ k => XS.aload X61.here hx rfl (hb hby at_331) rfl rfl k) ?_
        show own_Go p e below _ T61 (mkF m 333 #[s0, s1, s2, s3, s4, s5, s6, s7, s8, s9, .val (.ref a10), .val (.ref a11), s12, s13, .val (.ref a14), .val (.ref a15), .val (.int (Int32.ofNat ps3.length)), .val (.int (Int32.ofNat 0)), .val (.int (Int32.ofNat r1)), .val (.int (Int32.ofNat r2)), .val (.int (Int32.ofNat ps3.length)), .unset, .unset, .unset, .unset, .unset, .unset] [(.ref a14)])
        refine own_go (fun _ k => XS.iload X61.here hx rfl (hb hby at_333) rfl  k) ?_
        show own_Go p e below _ T61 (mkF m 335 #[s0, s1, s2, s3, s4, s5, s6, s7, s8, s9, .val (.ref a10), .val (.ref a11), s12, s13, .val (.ref a14), .val (.ref a15), .val (.int (Int32.ofNat ps3.length)), .val (.int (Int32.ofNat 0)), .val (.int (Int32.ofNat r1)), .val (.int (Int32.ofNat r2)), .val (.int (Int32.ofNat ps3.length)), .unset, .unset, .unset, .unset, .unset, .unset] [(.int (Int32.ofNat ps3.length)), (.ref a14)])
        refine own_go (fun _ k => XS.aload X61.here hx rfl (hb hby at_335) rfl rfl k) ?_
        show own_Go p e below _ T61 (mkF m 337 #[s0, s1, s2, s3, s4, s5, s6, s7, s8, s9, .val (.ref a10), .val (.ref a11), s12, s13, .val (.ref a14), .val (.ref a15), .val (.int (Int32.ofNat ps3.length)), .val (.int (Int32.ofNat 0)), .val (.int (Int32.ofNat r1)), .val (.int (Int32.ofNat r2)), .val (.int (Int32.ofNat ps3.length)), .unset, .unset, .unset, .unset, .unset, .unset] [(.ref a10), (.int (Int32.ofNat ps3.length)), (.ref a14)])
        refine own_go (fun _ k => XS.iconst X61.here hx rfl (hb hby at_337) k) ?_
        show own_Go p e below _ T61 (mkF m 338 #[s0, s1, s2, s3, s4, s5, s6, s7, s8, s9, .val (.ref a10), .val (.ref a11), s12, s13, .val (.ref a14), .val (.ref a15), .val (.int (Int32.ofNat ps3.length)), .val (.int (Int32.ofNat 0)), .val (.int (Int32.ofNat r1)), .val (.int (Int32.ofNat r2)), .val (.int (Int32.ofNat ps3.length)), .unset, .unset, .unset, .unset, .unset, .unset] [(.int (3 : Int32)), (.ref a10), (.int (Int32.ofNat ps3.length)), (.ref a14)])
        obtain ⟨c_62, Ar_62, S_62, H_62⟩ := id B1
        refine own_go (fun _ k => X61.iaload hx (j := (3 : Int32)) (v := (.int x3.1)) (by rw [e61]; exact Ar_62.1) (State.isArrayOf_alike hZ.alike Ar_62.2.1) Ar_62.2.2 (inb_of S_62 ⟨by decide, by decide⟩) (H_62 3 _ rfl) (g := (mkF m 338 #[s0, s1, s2, s3, s4, s5, s6, s7, s8, s9, .val (.ref a10), .val (.ref a11), s12, s13, .val (.ref a14), .val (.ref a15), .val (.int (Int32.ofNat ps3.length)), .val (.int (Int32.ofNat 0)), .val (.int (Int32.ofNat r1)), .val (.int (Int32.ofNat r2)), .val (.int (Int32.ofNat ps3.length)), .unset, .unset, .unset, .unset, .unset, .unset] [(.int (3 : Int32)), (.ref a10), (.int (Int32.ofNat ps3.length)), (.ref a14)])) rfl rfl (hb hby at_338) _ k) ?_
        show own_Go p e below _ T61 (mkF m 339 #[s0, s1, s2, s3, s4, s5, s6, s7, s8, s9, .val (.ref a10), .val (.ref a11), s12, s13, .val (.ref a14), .val (.ref a15), .val (.int (Int32.ofNat ps3.length)), .val (.int (Int32.ofNat 0)), .val (.int (Int32.ofNat r1)), .val (.int (Int32.ofNat r2)), .val (.int (Int32.ofNat ps3.length)), .unset, .unset, .unset, .unset, .unset, .unset] [(.int x3.1), (.int (Int32.ofNat ps3.length)), (.ref a14)])
        obtain ⟨c_63, Ar_63, S_63, H_63⟩ := id B3
        obtain ⟨T64, h64, X64, e64, W64, st64⟩ := stI X61 hx hZ e61 Ar_63 (j := (Int32.ofNat ps3.length)) (inb_of S_63 ⟨own_nn (by omega), (own_ltI (by omega) (by omega)).mpr (by omega)⟩) (g := (mkF m 339 #[s0, s1, s2, s3, s4, s5, s6, s7, s8, s9, .val (.ref a10), .val (.ref a11), s12, s13, .val (.ref a14), .val (.ref a15), .val (.int (Int32.ofNat ps3.length)), .val (.int (Int32.ofNat 0)), .val (.int (Int32.ofNat r1)), .val (.int (Int32.ofNat r2)), .val (.int (Int32.ofNat ps3.length)), .unset, .unset, .unset, .unset, .unset, .unset] [(.int x3.1), (.int (Int32.ofNat ps3.length)), (.ref a14)])) rfl rfl (hb hby at_339)
        have N64 := Fr.snoc X64 N61 g14
        refine own_go st64 ?_
        show own_Go p e below _ T64 (mkF m 340 #[s0, s1, s2, s3, s4, s5, s6, s7, s8, s9, .val (.ref a10), .val (.ref a11), s12, s13, .val (.ref a14), .val (.ref a15), .val (.int (Int32.ofNat ps3.length)), .val (.int (Int32.ofNat 0)), .val (.int (Int32.ofNat r1)), .val (.int (Int32.ofNat r2)), .val (.int (Int32.ofNat ps3.length)), .unset, .unset, .unset, .unset, .unset, .unset] [])
        have B3' := own_Af_push (x := x3) Ar_63 S_63 H_63 W64 (own_clamp (by omega))
        have B1' := own_Af_other B1 W64 (by omega)
        have B2' := own_As_other B2 W64 (by omega)
        have B4' := own_As_other B4 W64 (by omega)
        refine own_go (fun _ k => XS.aload X64.here hx rfl (hb hby at_340) rfl rfl k) ?_
        show own_Go p e below _ T64 (mkF m 342 #[s0, s1, s2, s3, s4, s5, s6, s7, s8, s9, .val (.ref a10), .val (.ref a11), s12, s13, .val (.ref a14), .val (.ref a15), .val (.int (Int32.ofNat ps3.length)), .val (.int (Int32.ofNat 0)), .val (.int (Int32.ofNat r1)), .val (.int (Int32.ofNat r2)), .val (.int (Int32.ofNat ps3.length)), .unset, .unset, .unset, .unset, .unset, .unset] [(.ref a15)])
        refine own_go (fun _ k => XS.iload X64.here hx rfl (hb hby at_342) rfl  k) ?_
        show own_Go p e below _ T64 (mkF m 344 #[s0, s1, s2, s3, s4, s5, s6, s7, s8, s9, .val (.ref a10), .val (.ref a11), s12, s13, .val (.ref a14), .val (.ref a15), .val (.int (Int32.ofNat ps3.length)), .val (.int (Int32.ofNat 0)), .val (.int (Int32.ofNat r1)), .val (.int (Int32.ofNat r2)), .val (.int (Int32.ofNat ps3.length)), .unset, .unset, .unset, .unset, .unset, .unset] [(.int (Int32.ofNat ps3.length)), (.ref a15)])
        refine own_go (fun _ k => XS.aload X64.here hx rfl (hb hby at_344) rfl rfl k) ?_
        show own_Go p e below _ T64 (mkF m 346 #[s0, s1, s2, s3, s4, s5, s6, s7, s8, s9, .val (.ref a10), .val (.ref a11), s12, s13, .val (.ref a14), .val (.ref a15), .val (.int (Int32.ofNat ps3.length)), .val (.int (Int32.ofNat 0)), .val (.int (Int32.ofNat r1)), .val (.int (Int32.ofNat r2)), .val (.int (Int32.ofNat ps3.length)), .unset, .unset, .unset, .unset, .unset, .unset] [(.ref a11), (.int (Int32.ofNat ps3.length)), (.ref a15)])
        refine own_go (fun _ k => XS.iconst X64.here hx rfl (hb hby at_346) k) ?_
        show own_Go p e below _ T64 (mkF m 347 #[s0, s1, s2, s3, s4, s5, s6, s7, s8, s9, .val (.ref a10), .val (.ref a11), s12, s13, .val (.ref a14), .val (.ref a15), .val (.int (Int32.ofNat ps3.length)), .val (.int (Int32.ofNat 0)), .val (.int (Int32.ofNat r1)), .val (.int (Int32.ofNat r2)), .val (.int (Int32.ofNat ps3.length)), .unset, .unset, .unset, .unset, .unset, .unset] [(.int (3 : Int32)), (.ref a11), (.int (Int32.ofNat ps3.length)), (.ref a15)])
        obtain ⟨c_65, Ar_65, S_65, H_65⟩ := id B2'
        refine own_go (fun _ k => X64.laload hx (j := (3 : Int32)) (v := (.long x3.2)) (by rw [e64]; exact Ar_65.1) (State.isArrayOf_alike hZ.alike Ar_65.2.1) Ar_65.2.2 (inb_of S_65 ⟨by decide, by decide⟩) (H_65 3 _ rfl) (g := (mkF m 347 #[s0, s1, s2, s3, s4, s5, s6, s7, s8, s9, .val (.ref a10), .val (.ref a11), s12, s13, .val (.ref a14), .val (.ref a15), .val (.int (Int32.ofNat ps3.length)), .val (.int (Int32.ofNat 0)), .val (.int (Int32.ofNat r1)), .val (.int (Int32.ofNat r2)), .val (.int (Int32.ofNat ps3.length)), .unset, .unset, .unset, .unset, .unset, .unset] [(.int (3 : Int32)), (.ref a11), (.int (Int32.ofNat ps3.length)), (.ref a15)])) rfl rfl (hb hby at_347) _ k) ?_
        show own_Go p e below _ T64 (mkF m 348 #[s0, s1, s2, s3, s4, s5, s6, s7, s8, s9, .val (.ref a10), .val (.ref a11), s12, s13, .val (.ref a14), .val (.ref a15), .val (.int (Int32.ofNat ps3.length)), .val (.int (Int32.ofNat 0)), .val (.int (Int32.ofNat r1)), .val (.int (Int32.ofNat r2)), .val (.int (Int32.ofNat ps3.length)), .unset, .unset, .unset, .unset, .unset, .unset] [(.long x3.2), (.int (Int32.ofNat ps3.length)), (.ref a15)])
        obtain ⟨c_66, Ar_66, S_66, H_66⟩ := id B4'
        obtain ⟨T67, h67, X67, e67, W67, st67⟩ := stJ X64 hx hZ e64 Ar_66 (j := (Int32.ofNat ps3.length)) (inb_of S_66 ⟨own_nn (by omega), (own_ltI (by omega) (by omega)).mpr (by omega)⟩) (g := (mkF m 348 #[s0, s1, s2, s3, s4, s5, s6, s7, s8, s9, .val (.ref a10), .val (.ref a11), s12, s13, .val (.ref a14), .val (.ref a15), .val (.int (Int32.ofNat ps3.length)), .val (.int (Int32.ofNat 0)), .val (.int (Int32.ofNat r1)), .val (.int (Int32.ofNat r2)), .val (.int (Int32.ofNat ps3.length)), .unset, .unset, .unset, .unset, .unset, .unset] [(.long x3.2), (.int (Int32.ofNat ps3.length)), (.ref a15)])) rfl rfl (hb hby at_348)
        have N67 := Fr.snoc X67 N64 g15
        refine own_go st67 ?_
        show own_Go p e below _ T67 (mkF m 349 #[s0, s1, s2, s3, s4, s5, s6, s7, s8, s9, .val (.ref a10), .val (.ref a11), s12, s13, .val (.ref a14), .val (.ref a15), .val (.int (Int32.ofNat ps3.length)), .val (.int (Int32.ofNat 0)), .val (.int (Int32.ofNat r1)), .val (.int (Int32.ofNat r2)), .val (.int (Int32.ofNat ps3.length)), .unset, .unset, .unset, .unset, .unset, .unset] [])
        have B4'' := own_As_push (x := x3) Ar_66 S_66 H_66 W67 (own_clamp (by omega))
        have B1'' := own_Af_other B1' W67 (by omega)
        have B2'' := own_As_other B2' W67 (by omega)
        have B3'' := own_Af_other B3' W67 (by omega)
        refine own_go (fun _ k => XS.iinc X67.here hx rfl (hb hby at_349) rfl (l' := #[s0, s1, s2, s3, s4, s5, s6, s7, s8, s9, .val (.ref a10), .val (.ref a11), s12, s13, .val (.ref a14), .val (.ref a15), .val (.int ((Int32.ofNat ps3.length) + (1 : Int32))), .val (.int (Int32.ofNat 0)), .val (.int (Int32.ofNat r1)), .val (.int (Int32.ofNat r2)), .val (.int (Int32.ofNat ps3.length)), .unset, .unset, .unset, .unset, .unset, .unset]) rfl k) ?_
        show own_Go p e below _ T67 (mkF m 352 #[s0, s1, s2, s3, s4, s5, s6, s7, s8, s9, .val (.ref a10), .val (.ref a11), s12, s13, .val (.ref a14), .val (.ref a15), .val (.int ((Int32.ofNat ps3.length) + (1 : Int32))), .val (.int (Int32.ofNat 0)), .val (.int (Int32.ofNat r1)), .val (.int (Int32.ofNat r2)), .val (.int (Int32.ofNat ps3.length)), .unset, .unset, .unset, .unset, .unset, .unset] [])
        rw [own_inc, show ps3.length + 1 = (ps3 ++ [x3]).length by simp]
        exact own_t352 s0 s1 s2 s3 s4 s5 s6 s7 s8 s9 s12 s13 a10 a11 a14 a15 x0 x1 x2 x3 r1 r2 ps3.length ps1 ps2 ps3 (ps3 ++ [x3]) X67 hx hZ hw hby hml hown hret hlk e67 (by rw [W67.size, W64.size]; exact Z0) N67 g14 g15 o1 o2 o3 B1'' B2'' B3'' B4'' J0 J1 J2 (Or.inr ⟨hno, rfl, rfl⟩)
set_option maxRecDepth 65536 in
set_option maxHeartbeats 40000000 in
theorem own_t207 {p : Program} {l : Launch} {e : Env} {s : State} {m : MethodId} {args : Array Value} {below : List Frame} {meth : Method} {c : Code} {T0 : State} {locs : List Loc} {Z : State} {a0 : Array Value} {h0 : Heap} {n0 : Nat} (s0 s1 s2 s3 s4 s5 s6 s7 s8 s9 s12 s13 : Slot) (a10 a11 a14 a15 : Nat) (x0 x1 x2 x3 : own_Pr) (r1 : Nat) (ps1 ps2 : List own_Pr) (X0 : Stand p l e room_1 s m args below meth c T0 locs 4 16)
    (hx : p.tables.exec = Jvm.exec) (hZ : Z.Warmed39 s.vm) (hw : ∀ d ∈ tables_1, d.before a0 Z = true) (hby : c.code = code) (hml : c.maxLocals = 27) (hown : s.vm.findClass "com/example/window_payoff_solver/windowpayoffsolver/window/PairTableIndexPinLaw" = some m.cls) (hret : meth.sig.returnType = some .boolean) (hlk : meth.locks = false) (e0 : T0.heap = h0) (Z0 : n0 ≤ h0.size) (N0 : Fr n0 locs) (g14 : n0 ≤ a14) (g15 : n0 ≤ a15) (o1 : a10 < a11) (o2 : a11 < a14) (o3 : a14 < a15) (B1 : own_Af Z h0 a10 4 [x0, x1, x2, x3]) (B2 : own_As Z h0 a11 4 [x0, x1, x2, x3]) (B3 : own_Af Z h0 a14 4 ps2) (B4 : own_As Z h0 a15 4 ps2) (J0 : own_Ix [] x0 0 ps1) (J1 : own_Ix ps1 x1 r1 ps2) :
    own_Go p e below (own_P (own_R (fun v _ L => v = some (.int 1) ∧ Fr n0 L)) room_1 s) T0 (mkF m 207 #[s0, s1, s2, s3, s4, s5, s6, s7, s8, s9, .val (.ref a10), .val (.ref a11), s12, s13, .val (.ref a14), .val (.ref a15), .val (.int (Int32.ofNat ps2.length)), .val (.int (Int32.ofNat 0)), .val (.int (Int32.ofNat r1)), .unset, .unset, .unset, .unset, .unset, .unset, .unset, .unset] []) := by
  have l0 : ([] : List own_Pr).length = 0 := rfl
  have l1 := own_lenIx J0
  have l2 := own_lenIx J1
  have P0 : ps2[0]? = some x0 := (own_oldIx J1 (own_atIx J0))
  have P1 : ps2[r1]? = some x1 := (own_atIx J1)
  have All : ∀ (i : Nat) (y : own_Pr), ps2[i]? = some y → y = x0 ∨ y = x1 := by
    intro i y hh
    rcases own_memIx J1 hh with hh | hh
    · rcases own_memIx J0 hh with hh | hh
      · simp at hh
      · subst hh; simp
    · subst hh; simp
  refine own_go (fun _ k => XS.aload X0.here hx rfl (hb hby at_207) rfl rfl k) ?_
  show own_Go p e below _ T0 (mkF m 209 #[s0, s1, s2, s3, s4, s5, s6, s7, s8, s9, .val (.ref a10), .val (.ref a11), s12, s13, .val (.ref a14), .val (.ref a15), .val (.int (Int32.ofNat ps2.length)), .val (.int (Int32.ofNat 0)), .val (.int (Int32.ofNat r1)), .unset, .unset, .unset, .unset, .unset, .unset, .unset, .unset] [(.ref a10)])
  refine own_go (fun _ k => XS.aload X0.here hx rfl (hb hby at_209) rfl rfl k) ?_
  show own_Go p e below _ T0 (mkF m 211 #[s0, s1, s2, s3, s4, s5, s6, s7, s8, s9, .val (.ref a10), .val (.ref a11), s12, s13, .val (.ref a14), .val (.ref a15), .val (.int (Int32.ofNat ps2.length)), .val (.int (Int32.ofNat 0)), .val (.int (Int32.ofNat r1)), .unset, .unset, .unset, .unset, .unset, .unset, .unset, .unset] [(.ref a11), (.ref a10)])
  refine own_go (fun _ k => XS.iconst X0.here hx rfl (hb hby at_211) k) ?_
  show own_Go p e below _ T0 (mkF m 212 #[s0, s1, s2, s3, s4, s5, s6, s7, s8, s9, .val (.ref a10), .val (.ref a11), s12, s13, .val (.ref a14), .val (.ref a15), .val (.int (Int32.ofNat ps2.length)), .val (.int (Int32.ofNat 0)), .val (.int (Int32.ofNat r1)), .unset, .unset, .unset, .unset, .unset, .unset, .unset, .unset] [(.int (2 : Int32)), (.ref a11), (.ref a10)])
  refine own_go (fun _ k => XS.iconst X0.here hx rfl (hb hby at_212) k) ?_
  show own_Go p e below _ T0 (mkF m 213 #[s0, s1, s2, s3, s4, s5, s6, s7, s8, s9, .val (.ref a10), .val (.ref a11), s12, s13, .val (.ref a14), .val (.ref a15), .val (.int (Int32.ofNat ps2.length)), .val (.int (Int32.ofNat 0)), .val (.int (Int32.ofNat r1)), .unset, .unset, .unset, .unset, .unset, .unset, .unset, .unset] [(.int (0 : Int32)), (.int (2 : Int32)), (.ref a11), (.ref a10)])
  obtain ⟨T68, v68, L68, X68, q68, st68⟩ := own_callS X0 hx hZ hown (y := (⟨"com/example/window_payoff_solver/windowpayoffsolver/window/PairTableIndexPinLaw", "same", "([I[JII)Z"⟩ : MethodName)) (hw _ (List.mem_of_getElem? (i := 9) rfl)) (hw _ (List.mem_of_getElem? (i := 10) rfl)) (hw _ (List.mem_of_getElem? (i := 4) rfl)) (hw _ (List.mem_of_getElem? (i := 11) rfl)) (by decide) (rmSM l Z a0 hw [] a10 a11 2 0 [x0, x1, x2, x3] x2 x0 h0 n0 Z0 (by omega) (by omega) B1 B2 rfl rfl) (Ls := #[s0, s1, s2, s3, s4, s5, s6, s7, s8, s9, .val (.ref a10), .val (.ref a11), s12, s13, .val (.ref a14), .val (.ref a15), .val (.int (Int32.ofNat ps2.length)), .val (.int (Int32.ofNat 0)), .val (.int (Int32.ofNat r1)), .unset, .unset, .unset, .unset, .unset, .unset, .unset, .unset]) (st := [(.int (0 : Int32)), (.int (2 : Int32)), (.ref a11), (.ref a10)]) (W := 0) (by decide) (by decide) (by rw [hml]; rfl) (argsL := [(.ref a10), (.ref a11), (.int (2 : Int32)), (.int (0 : Int32))]) (rest := []) (lenOf pd_6 rfl) rfl rfl (Nat.le_of_eq rfl) (hb hby at_213) e0 (by decide) (by decide)
  obtain ⟨rfl, N68', e68⟩ := q68
  have N68 := Fr.app N0 N68'
  refine own_go st68 ?_
  show own_Go p e below _ T68 (mkF m 216 #[s0, s1, s2, s3, s4, s5, s6, s7, s8, s9, .val (.ref a10), .val (.ref a11), s12, s13, .val (.ref a14), .val (.ref a15), .val (.int (Int32.ofNat ps2.length)), .val (.int (Int32.ofNat 0)), .val (.int (Int32.ofNat r1)), .unset, .unset, .unset, .unset, .unset, .unset, .unset, .unset] [(.int (if x2 = x0 then 1 else 0))])
  by_cases hq0 : x2 = x0
  · rw [if_pos hq0]
    show own_Go p e below _ T68 (mkF m 216 #[s0, s1, s2, s3, s4, s5, s6, s7, s8, s9, .val (.ref a10), .val (.ref a11), s12, s13, .val (.ref a14), .val (.ref a15), .val (.int (Int32.ofNat ps2.length)), .val (.int (Int32.ofNat 0)), .val (.int (Int32.ofNat r1)), .unset, .unset, .unset, .unset, .unset, .unset, .unset, .unset] [(.int (1 : Int32))])
    refine own_go (fun _ k => XS.ifNo X68.here hx rfl (hb hby at_216) rfl ((if0 _ _).trans (feq (by decide)).1) k) ?_
    show own_Go p e below _ T68 (mkF m 219 #[s0, s1, s2, s3, s4, s5, s6, s7, s8, s9, .val (.ref a10), .val (.ref a11), s12, s13, .val (.ref a14), .val (.ref a15), .val (.int (Int32.ofNat ps2.length)), .val (.int (Int32.ofNat 0)), .val (.int (Int32.ofNat r1)), .unset, .unset, .unset, .unset, .unset, .unset, .unset, .unset] [])
    refine own_go (fun _ k => XS.iload X68.here hx rfl (hb hby at_219) rfl  k) ?_
    show own_Go p e below _ T68 (mkF m 221 #[s0, s1, s2, s3, s4, s5, s6, s7, s8, s9, .val (.ref a10), .val (.ref a11), s12, s13, .val (.ref a14), .val (.ref a15), .val (.int (Int32.ofNat ps2.length)), .val (.int (Int32.ofNat 0)), .val (.int (Int32.ofNat r1)), .unset, .unset, .unset, .unset, .unset, .unset, .unset, .unset] [(.int (Int32.ofNat 0))])
    refine own_go (fun _ k => XS.istore X68.here hx rfl (hb hby at_221) rfl (l' := #[s0, s1, s2, s3, s4, s5, s6, s7, s8, s9, .val (.ref a10), .val (.ref a11), s12, s13, .val (.ref a14), .val (.ref a15), .val (.int (Int32.ofNat ps2.length)), .val (.int (Int32.ofNat 0)), .val (.int (Int32.ofNat r1)), .val (.int (Int32.ofNat 0)), .unset, .unset, .unset, .unset, .unset, .unset, .unset]) rfl k) ?_
    show own_Go p e below _ T68 (mkF m 223 #[s0, s1, s2, s3, s4, s5, s6, s7, s8, s9, .val (.ref a10), .val (.ref a11), s12, s13, .val (.ref a14), .val (.ref a15), .val (.int (Int32.ofNat ps2.length)), .val (.int (Int32.ofNat 0)), .val (.int (Int32.ofNat r1)), .val (.int (Int32.ofNat 0)), .unset, .unset, .unset, .unset, .unset, .unset, .unset] [])
    refine own_go (fun _ k => XS.goto X68.here hx rfl (pc0 := 223) (pc' := 270) rfl (hb hby at_223) (by decide) (by decide) k) ?_
    show own_Go p e below _ T68 (mkF m 270 #[s0, s1, s2, s3, s4, s5, s6, s7, s8, s9, .val (.ref a10), .val (.ref a11), s12, s13, .val (.ref a14), .val (.ref a15), .val (.int (Int32.ofNat ps2.length)), .val (.int (Int32.ofNat 0)), .val (.int (Int32.ofNat r1)), .val (.int (Int32.ofNat 0)), .unset, .unset, .unset, .unset, .unset, .unset, .unset] [])
    exact own_t270 s0 s1 s2 s3 s4 s5 s6 s7 s8 s9 s12 s13 a10 a11 a14 a15 x0 x1 x2 x3 r1 0 ps1 ps2 ps2 X68 hx hZ hw hby hml hown hret hlk e68 Z0 N68 g14 g15 o1 o2 o3 B1 B2 B3 B4 J0 J1 (Or.inl ⟨by rw [hq0]; exact P0, rfl⟩)
  · rw [if_neg hq0]
    show own_Go p e below _ T68 (mkF m 216 #[s0, s1, s2, s3, s4, s5, s6, s7, s8, s9, .val (.ref a10), .val (.ref a11), s12, s13, .val (.ref a14), .val (.ref a15), .val (.int (Int32.ofNat ps2.length)), .val (.int (Int32.ofNat 0)), .val (.int (Int32.ofNat r1)), .unset, .unset, .unset, .unset, .unset, .unset, .unset, .unset] [(.int (0 : Int32))])
    refine own_go (fun _ k => XS.ifYes X68.here hx rfl (pc0 := 216) (pc' := 226) rfl (hb hby at_216) rfl ((if0 _ _).trans (teq rfl).1) (by decide) (by decide) k) ?_
    show own_Go p e below _ T68 (mkF m 226 #[s0, s1, s2, s3, s4, s5, s6, s7, s8, s9, .val (.ref a10), .val (.ref a11), s12, s13, .val (.ref a14), .val (.ref a15), .val (.int (Int32.ofNat ps2.length)), .val (.int (Int32.ofNat 0)), .val (.int (Int32.ofNat r1)), .unset, .unset, .unset, .unset, .unset, .unset, .unset, .unset] [])
    refine own_go (fun _ k => XS.aload X68.here hx rfl (hb hby at_226) rfl rfl k) ?_
    show own_Go p e below _ T68 (mkF m 228 #[s0, s1, s2, s3, s4, s5, s6, s7, s8, s9, .val (.ref a10), .val (.ref a11), s12, s13, .val (.ref a14), .val (.ref a15), .val (.int (Int32.ofNat ps2.length)), .val (.int (Int32.ofNat 0)), .val (.int (Int32.ofNat r1)), .unset, .unset, .unset, .unset, .unset, .unset, .unset, .unset] [(.ref a10)])
    refine own_go (fun _ k => XS.aload X68.here hx rfl (hb hby at_228) rfl rfl k) ?_
    show own_Go p e below _ T68 (mkF m 230 #[s0, s1, s2, s3, s4, s5, s6, s7, s8, s9, .val (.ref a10), .val (.ref a11), s12, s13, .val (.ref a14), .val (.ref a15), .val (.int (Int32.ofNat ps2.length)), .val (.int (Int32.ofNat 0)), .val (.int (Int32.ofNat r1)), .unset, .unset, .unset, .unset, .unset, .unset, .unset, .unset] [(.ref a11), (.ref a10)])
    refine own_go (fun _ k => XS.iconst X68.here hx rfl (hb hby at_230) k) ?_
    show own_Go p e below _ T68 (mkF m 231 #[s0, s1, s2, s3, s4, s5, s6, s7, s8, s9, .val (.ref a10), .val (.ref a11), s12, s13, .val (.ref a14), .val (.ref a15), .val (.int (Int32.ofNat ps2.length)), .val (.int (Int32.ofNat 0)), .val (.int (Int32.ofNat r1)), .unset, .unset, .unset, .unset, .unset, .unset, .unset, .unset] [(.int (2 : Int32)), (.ref a11), (.ref a10)])
    refine own_go (fun _ k => XS.iconst X68.here hx rfl (hb hby at_231) k) ?_
    show own_Go p e below _ T68 (mkF m 232 #[s0, s1, s2, s3, s4, s5, s6, s7, s8, s9, .val (.ref a10), .val (.ref a11), s12, s13, .val (.ref a14), .val (.ref a15), .val (.int (Int32.ofNat ps2.length)), .val (.int (Int32.ofNat 0)), .val (.int (Int32.ofNat r1)), .unset, .unset, .unset, .unset, .unset, .unset, .unset, .unset] [(.int (1 : Int32)), (.int (2 : Int32)), (.ref a11), (.ref a10)])
    obtain ⟨T69, v69, L69, X69, q69, st69⟩ := own_callS X68 hx hZ hown (y := (⟨"com/example/window_payoff_solver/windowpayoffsolver/window/PairTableIndexPinLaw", "same", "([I[JII)Z"⟩ : MethodName)) (hw _ (List.mem_of_getElem? (i := 9) rfl)) (hw _ (List.mem_of_getElem? (i := 10) rfl)) (hw _ (List.mem_of_getElem? (i := 4) rfl)) (hw _ (List.mem_of_getElem? (i := 11) rfl)) (by decide) (rmSM l Z a0 hw [] a10 a11 2 1 [x0, x1, x2, x3] x2 x1 h0 n0 Z0 (by omega) (by omega) B1 B2 rfl rfl) (Ls := #[s0, s1, s2, s3, s4, s5, s6, s7, s8, s9, .val (.ref a10), .val (.ref a11), s12, s13, .val (.ref a14), .val (.ref a15), .val (.int (Int32.ofNat ps2.length)), .val (.int (Int32.ofNat 0)), .val (.int (Int32.ofNat r1)), .unset, .unset, .unset, .unset, .unset, .unset, .unset, .unset]) (st := [(.int (1 : Int32)), (.int (2 : Int32)), (.ref a11), (.ref a10)]) (W := 0) (by decide) (by decide) (by rw [hml]; rfl) (argsL := [(.ref a10), (.ref a11), (.int (2 : Int32)), (.int (1 : Int32))]) (rest := []) (lenOf pd_6 rfl) rfl rfl (Nat.le_of_eq rfl) (hb hby at_232) e68 (by decide) (by decide)
    obtain ⟨rfl, N69', e69⟩ := q69
    have N69 := Fr.app N68 N69'
    refine own_go st69 ?_
    show own_Go p e below _ T69 (mkF m 235 #[s0, s1, s2, s3, s4, s5, s6, s7, s8, s9, .val (.ref a10), .val (.ref a11), s12, s13, .val (.ref a14), .val (.ref a15), .val (.int (Int32.ofNat ps2.length)), .val (.int (Int32.ofNat 0)), .val (.int (Int32.ofNat r1)), .unset, .unset, .unset, .unset, .unset, .unset, .unset, .unset] [(.int (if x2 = x1 then 1 else 0))])
    by_cases hq1 : x2 = x1
    · rw [if_pos hq1]
      show own_Go p e below _ T69 (mkF m 235 #[s0, s1, s2, s3, s4, s5, s6, s7, s8, s9, .val (.ref a10), .val (.ref a11), s12, s13, .val (.ref a14), .val (.ref a15), .val (.int (Int32.ofNat ps2.length)), .val (.int (Int32.ofNat 0)), .val (.int (Int32.ofNat r1)), .unset, .unset, .unset, .unset, .unset, .unset, .unset, .unset] [(.int (1 : Int32))])
      refine own_go (fun _ k => XS.ifNo X69.here hx rfl (hb hby at_235) rfl ((if0 _ _).trans (feq (by decide)).1) k) ?_
      show own_Go p e below _ T69 (mkF m 238 #[s0, s1, s2, s3, s4, s5, s6, s7, s8, s9, .val (.ref a10), .val (.ref a11), s12, s13, .val (.ref a14), .val (.ref a15), .val (.int (Int32.ofNat ps2.length)), .val (.int (Int32.ofNat 0)), .val (.int (Int32.ofNat r1)), .unset, .unset, .unset, .unset, .unset, .unset, .unset, .unset] [])
      refine own_go (fun _ k => XS.iload X69.here hx rfl (hb hby at_238) rfl  k) ?_
      show own_Go p e below _ T69 (mkF m 240 #[s0, s1, s2, s3, s4, s5, s6, s7, s8, s9, .val (.ref a10), .val (.ref a11), s12, s13, .val (.ref a14), .val (.ref a15), .val (.int (Int32.ofNat ps2.length)), .val (.int (Int32.ofNat 0)), .val (.int (Int32.ofNat r1)), .unset, .unset, .unset, .unset, .unset, .unset, .unset, .unset] [(.int (Int32.ofNat r1))])
      refine own_go (fun _ k => XS.istore X69.here hx rfl (hb hby at_240) rfl (l' := #[s0, s1, s2, s3, s4, s5, s6, s7, s8, s9, .val (.ref a10), .val (.ref a11), s12, s13, .val (.ref a14), .val (.ref a15), .val (.int (Int32.ofNat ps2.length)), .val (.int (Int32.ofNat 0)), .val (.int (Int32.ofNat r1)), .val (.int (Int32.ofNat r1)), .unset, .unset, .unset, .unset, .unset, .unset, .unset]) rfl k) ?_
      show own_Go p e below _ T69 (mkF m 242 #[s0, s1, s2, s3, s4, s5, s6, s7, s8, s9, .val (.ref a10), .val (.ref a11), s12, s13, .val (.ref a14), .val (.ref a15), .val (.int (Int32.ofNat ps2.length)), .val (.int (Int32.ofNat 0)), .val (.int (Int32.ofNat r1)), .val (.int (Int32.ofNat r1)), .unset, .unset, .unset, .unset, .unset, .unset, .unset] [])
      refine own_go (fun _ k => XS.goto X69.here hx rfl (pc0 := 242) (pc' := 270) rfl (hb hby at_242) (by decide) (by decide) k) ?_
      show own_Go p e below _ T69 (mkF m 270 #[s0, s1, s2, s3, s4, s5, s6, s7, s8, s9, .val (.ref a10), .val (.ref a11), s12, s13, .val (.ref a14), .val (.ref a15), .val (.int (Int32.ofNat ps2.length)), .val (.int (Int32.ofNat 0)), .val (.int (Int32.ofNat r1)), .val (.int (Int32.ofNat r1)), .unset, .unset, .unset, .unset, .unset, .unset, .unset] [])
      exact own_t270 s0 s1 s2 s3 s4 s5 s6 s7 s8 s9 s12 s13 a10 a11 a14 a15 x0 x1 x2 x3 r1 r1 ps1 ps2 ps2 X69 hx hZ hw hby hml hown hret hlk e69 Z0 N69 g14 g15 o1 o2 o3 B1 B2 B3 B4 J0 J1 (Or.inl ⟨by rw [hq1]; exact P1, rfl⟩)
    · rw [if_neg hq1]
      show own_Go p e below _ T69 (mkF m 235 #[s0, s1, s2, s3, s4, s5, s6, s7, s8, s9, .val (.ref a10), .val (.ref a11), s12, s13, .val (.ref a14), .val (.ref a15), .val (.int (Int32.ofNat ps2.length)), .val (.int (Int32.ofNat 0)), .val (.int (Int32.ofNat r1)), .unset, .unset, .unset, .unset, .unset, .unset, .unset, .unset] [(.int (0 : Int32))])
      refine own_go (fun _ k => XS.ifYes X69.here hx rfl (pc0 := 235) (pc' := 245) rfl (hb hby at_235) rfl ((if0 _ _).trans (teq rfl).1) (by decide) (by decide) k) ?_
      show own_Go p e below _ T69 (mkF m 245 #[s0, s1, s2, s3, s4, s5, s6, s7, s8, s9, .val (.ref a10), .val (.ref a11), s12, s13, .val (.ref a14), .val (.ref a15), .val (.int (Int32.ofNat ps2.length)), .val (.int (Int32.ofNat 0)), .val (.int (Int32.ofNat r1)), .unset, .unset, .unset, .unset, .unset, .unset, .unset, .unset] [])
      have hno : ∀ i : Nat, ps2[i]? ≠ some x2 := fun i hi => by
        rcases All i _ hi with q | q
        · exact hq0 q
        · exact hq1 q
      refine own_go (fun _ k => XS.iload X69.here hx rfl (hb hby at_245) rfl  k) ?_
      show own_Go p e below _ T69 (mkF m 247 #[s0, s1, s2, s3, s4, s5, s6, s7, s8, s9, .val (.ref a10), .val (.ref a11), s12, s13, .val (.ref a14), .val (.ref a15), .val (.int (Int32.ofNat ps2.length)), .val (.int (Int32.ofNat 0)), .val (.int (Int32.ofNat r1)), .unset, .unset, .unset, .unset, .unset, .unset, .unset, .unset] [(.int (Int32.ofNat ps2.length))])
      refine own_go (fun _ k => XS.istore X69.here hx rfl (hb hby at_247) rfl (l' := #[s0, s1, s2, s3, s4, s5, s6, s7, s8, s9, .val (.ref a10), .val (.ref a11), s12, s13, .val (.ref a14), .val (.ref a15), .val (.int (Int32.ofNat ps2.length)), .val (.int (Int32.ofNat 0)), .val (.int (Int32.ofNat r1)), .val (.int (Int32.ofNat ps2.length)), .unset, .unset, .unset, .unset, .unset, .unset, .unset]) rfl k) ?_
      show own_Go p e below _ T69 (mkF m 249 #[s0, s1, s2, s3, s4, s5, s6, s7, s8, s9, .val (.ref a10), .val (.ref a11), s12, s13, .val (.ref a14), .val (.ref a15), .val (.int (Int32.ofNat ps2.length)), .val (.int (Int32.ofNat 0)), .val (.int (Int32.ofNat r1)), .val (.int (Int32.ofNat ps2.length)), .unset, .unset, .unset, .unset, .unset, .unset, .unset] [])
      refine own_go (fun _ k => XS.aload X69.here hx rfl (hb hby at_249) rfl rfl k) ?_
      show own_Go p e below _ T69 (mkF m 251 #[s0, s1, s2, s3, s4, s5, s6, s7, s8, s9, .val (.ref a10), .val (.ref a11), s12, s13, .val (.ref a14), .val (.ref a15), .val (.int (Int32.ofNat ps2.length)), .val (.int (Int32.ofNat 0)), .val (.int (Int32.ofNat r1)), .val (.int (Int32.ofNat ps2.length)), .unset, .unset, .unset, .unset, .unset, .unset, .unset] [(.ref a14)])
      refine own_go (fun _ k => XS.iload X69.here hx rfl (hb hby at_251) rfl  k) ?_
      show own_Go p e below _ T69 (mkF m 253 #[s0, s1, s2, s3, s4, s5, s6, s7, s8, s9, .val (.ref a10), .val (.ref a11), s12, s13, .val (.ref a14), .val (.ref a15), .val (.int (Int32.ofNat ps2.length)), .val (.int (Int32.ofNat 0)), .val (.int (Int32.ofNat r1)), .val (.int (Int32.ofNat ps2.length)), .unset, .unset, .unset, .unset, .unset, .unset, .unset] [(.int (Int32.ofNat ps2.length)), (.ref a14)])
      refine own_go (fun _ k => XS.aload X69.here hx rfl (hb hby at_253) rfl rfl k) ?_
      show own_Go p e below _ T69 (mkF m 255 #[s0, s1, s2, s3, s4, s5, s6, s7, s8, s9, .val (.ref a10), .val (.ref a11), s12, s13, .val (.ref a14), .val (.ref a15), .val (.int (Int32.ofNat ps2.length)), .val (.int (Int32.ofNat 0)), .val (.int (Int32.ofNat r1)), .val (.int (Int32.ofNat ps2.length)), .unset, .unset, .unset, .unset, .unset, .unset, .unset] [(.ref a10), (.int (Int32.ofNat ps2.length)), (.ref a14)])
      refine own_go (fun _ k => XS.iconst X69.here hx rfl (hb hby at_255) k) ?_
      show own_Go p e below _ T69 (mkF m 256 #[s0, s1, s2, s3, s4, s5, s6, s7, s8, s9, .val (.ref a10), .val (.ref a11), s12, s13, .val (.ref a14), .val (.ref a15), .val (.int (Int32.ofNat ps2.length)), .val (.int (Int32.ofNat 0)), .val (.int (Int32.ofNat r1)), .val (.int (Int32.ofNat ps2.length)), .unset, .unset, .unset, .unset, .unset, .unset, .unset] [(.int (2 : Int32)), (.ref a10), (.int (Int32.ofNat ps2.length)), (.ref a14)])
      obtain ⟨c_70, Ar_70, S_70, H_70⟩ := id B1
      refine own_go (fun _ k => X69.iaload hx (j := (2 : Int32)) (v := (.int x2.1)) (by rw [e69]; exact Ar_70.1) (State.isArrayOf_alike hZ.alike Ar_70.2.1) Ar_70.2.2 (inb_of S_70 ⟨by decide, by decide⟩) (H_70 2 _ rfl) (g := (mkF m 256 #[s0, s1, s2, s3, s4, s5, s6, s7, s8, s9, .val (.ref a10), .val (.ref a11), s12, s13, .val (.ref a14), .val (.ref a15), .val (.int (Int32.ofNat ps2.length)), .val (.int (Int32.ofNat 0)), .val (.int (Int32.ofNat r1)), .val (.int (Int32.ofNat ps2.length)), .unset, .unset, .unset, .unset, .unset, .unset, .unset] [(.int (2 : Int32)), (.ref a10), (.int (Int32.ofNat ps2.length)), (.ref a14)])) rfl rfl (hb hby at_256) _ k) ?_
      show own_Go p e below _ T69 (mkF m 257 #[s0, s1, s2, s3, s4, s5, s6, s7, s8, s9, .val (.ref a10), .val (.ref a11), s12, s13, .val (.ref a14), .val (.ref a15), .val (.int (Int32.ofNat ps2.length)), .val (.int (Int32.ofNat 0)), .val (.int (Int32.ofNat r1)), .val (.int (Int32.ofNat ps2.length)), .unset, .unset, .unset, .unset, .unset, .unset, .unset] [(.int x2.1), (.int (Int32.ofNat ps2.length)), (.ref a14)])
      obtain ⟨c_71, Ar_71, S_71, H_71⟩ := id B3
      obtain ⟨T72, h72, X72, e72, W72, st72⟩ := stI X69 hx hZ e69 Ar_71 (j := (Int32.ofNat ps2.length)) (inb_of S_71 ⟨own_nn (by omega), (own_ltI (by omega) (by omega)).mpr (by omega)⟩) (g := (mkF m 257 #[s0, s1, s2, s3, s4, s5, s6, s7, s8, s9, .val (.ref a10), .val (.ref a11), s12, s13, .val (.ref a14), .val (.ref a15), .val (.int (Int32.ofNat ps2.length)), .val (.int (Int32.ofNat 0)), .val (.int (Int32.ofNat r1)), .val (.int (Int32.ofNat ps2.length)), .unset, .unset, .unset, .unset, .unset, .unset, .unset] [(.int x2.1), (.int (Int32.ofNat ps2.length)), (.ref a14)])) rfl rfl (hb hby at_257)
      have N72 := Fr.snoc X72 N69 g14
      refine own_go st72 ?_
      show own_Go p e below _ T72 (mkF m 258 #[s0, s1, s2, s3, s4, s5, s6, s7, s8, s9, .val (.ref a10), .val (.ref a11), s12, s13, .val (.ref a14), .val (.ref a15), .val (.int (Int32.ofNat ps2.length)), .val (.int (Int32.ofNat 0)), .val (.int (Int32.ofNat r1)), .val (.int (Int32.ofNat ps2.length)), .unset, .unset, .unset, .unset, .unset, .unset, .unset] [])
      have B3' := own_Af_push (x := x2) Ar_71 S_71 H_71 W72 (own_clamp (by omega))
      have B1' := own_Af_other B1 W72 (by omega)
      have B2' := own_As_other B2 W72 (by omega)
      have B4' := own_As_other B4 W72 (by omega)
      refine own_go (fun _ k => XS.aload X72.here hx rfl (hb hby at_258) rfl rfl k) ?_
      show own_Go p e below _ T72 (mkF m 260 #[s0, s1, s2, s3, s4, s5, s6, s7, s8, s9, .val (.ref a10), .val (.ref a11), s12, s13, .val (.ref a14), .val (.ref a15), .val (.int (Int32.ofNat ps2.length)), .val (.int (Int32.ofNat 0)), .val (.int (Int32.ofNat r1)), .val (.int (Int32.ofNat ps2.length)), .unset, .unset, .unset, .unset, .unset, .unset, .unset] [(.ref a15)])
      refine own_go (fun _ k => XS.iload X72.here hx rfl (hb hby at_260) rfl  k) ?_
      show own_Go p e below _ T72 (mkF m 262 #[s0, s1, s2, s3, s4, s5, s6, s7, s8, s9, .val (.ref a10), .val (.ref a11), s12, s13, .val (.ref a14), .val (.ref a15), .val (.int (Int32.ofNat ps2.length)), .val (.int (Int32.ofNat 0)), .val (.int (Int32.ofNat r1)), .val (.int (Int32.ofNat ps2.length)), .unset, .unset, .unset, .unset, .unset, .unset, .unset] [(.int (Int32.ofNat ps2.length)), (.ref a15)])
      refine own_go (fun _ k => XS.aload X72.here hx rfl (hb hby at_262) rfl rfl k) ?_
      show own_Go p e below _ T72 (mkF m 264 #[s0, s1, s2, s3, s4, s5, s6, s7, s8, s9, .val (.ref a10), .val (.ref a11), s12, s13, .val (.ref a14), .val (.ref a15), .val (.int (Int32.ofNat ps2.length)), .val (.int (Int32.ofNat 0)), .val (.int (Int32.ofNat r1)), .val (.int (Int32.ofNat ps2.length)), .unset, .unset, .unset, .unset, .unset, .unset, .unset] [(.ref a11), (.int (Int32.ofNat ps2.length)), (.ref a15)])
      refine own_go (fun _ k => XS.iconst X72.here hx rfl (hb hby at_264) k) ?_
      show own_Go p e below _ T72 (mkF m 265 #[s0, s1, s2, s3, s4, s5, s6, s7, s8, s9, .val (.ref a10), .val (.ref a11), s12, s13, .val (.ref a14), .val (.ref a15), .val (.int (Int32.ofNat ps2.length)), .val (.int (Int32.ofNat 0)), .val (.int (Int32.ofNat r1)), .val (.int (Int32.ofNat ps2.length)), .unset, .unset, .unset, .unset, .unset, .unset, .unset] [(.int (2 : Int32)), (.ref a11), (.int (Int32.ofNat ps2.length)), (.ref a15)])
      obtain ⟨c_73, Ar_73, S_73, H_73⟩ := id B2'
      refine own_go (fun _ k => X72.laload hx (j := (2 : Int32)) (v := (.long x2.2)) (by rw [e72]; exact Ar_73.1) (State.isArrayOf_alike hZ.alike Ar_73.2.1) Ar_73.2.2 (inb_of S_73 ⟨by decide, by decide⟩) (H_73 2 _ rfl) (g := (mkF m 265 #[s0, s1, s2, s3, s4, s5, s6, s7, s8, s9, .val (.ref a10), .val (.ref a11), s12, s13, .val (.ref a14), .val (.ref a15), .val (.int (Int32.ofNat ps2.length)), .val (.int (Int32.ofNat 0)), .val (.int (Int32.ofNat r1)), .val (.int (Int32.ofNat ps2.length)), .unset, .unset, .unset, .unset, .unset, .unset, .unset] [(.int (2 : Int32)), (.ref a11), (.int (Int32.ofNat ps2.length)), (.ref a15)])) rfl rfl (hb hby at_265) _ k) ?_
      show own_Go p e below _ T72 (mkF m 266 #[s0, s1, s2, s3, s4, s5, s6, s7, s8, s9, .val (.ref a10), .val (.ref a11), s12, s13, .val (.ref a14), .val (.ref a15), .val (.int (Int32.ofNat ps2.length)), .val (.int (Int32.ofNat 0)), .val (.int (Int32.ofNat r1)), .val (.int (Int32.ofNat ps2.length)), .unset, .unset, .unset, .unset, .unset, .unset, .unset] [(.long x2.2), (.int (Int32.ofNat ps2.length)), (.ref a15)])
      obtain ⟨c_74, Ar_74, S_74, H_74⟩ := id B4'
      obtain ⟨T75, h75, X75, e75, W75, st75⟩ := stJ X72 hx hZ e72 Ar_74 (j := (Int32.ofNat ps2.length)) (inb_of S_74 ⟨own_nn (by omega), (own_ltI (by omega) (by omega)).mpr (by omega)⟩) (g := (mkF m 266 #[s0, s1, s2, s3, s4, s5, s6, s7, s8, s9, .val (.ref a10), .val (.ref a11), s12, s13, .val (.ref a14), .val (.ref a15), .val (.int (Int32.ofNat ps2.length)), .val (.int (Int32.ofNat 0)), .val (.int (Int32.ofNat r1)), .val (.int (Int32.ofNat ps2.length)), .unset, .unset, .unset, .unset, .unset, .unset, .unset] [(.long x2.2), (.int (Int32.ofNat ps2.length)), (.ref a15)])) rfl rfl (hb hby at_266)
      have N75 := Fr.snoc X75 N72 g15
      refine own_go st75 ?_
      show own_Go p e below _ T75 (mkF m 267 #[s0, s1, s2, s3, s4, s5, s6, s7, s8, s9, .val (.ref a10), .val (.ref a11), s12, s13, .val (.ref a14), .val (.ref a15), .val (.int (Int32.ofNat ps2.length)), .val (.int (Int32.ofNat 0)), .val (.int (Int32.ofNat r1)), .val (.int (Int32.ofNat ps2.length)), .unset, .unset, .unset, .unset, .unset, .unset, .unset] [])
      have B4'' := own_As_push (x := x2) Ar_74 S_74 H_74 W75 (own_clamp (by omega))
      have B1'' := own_Af_other B1' W75 (by omega)
      have B2'' := own_As_other B2' W75 (by omega)
      have B3'' := own_Af_other B3' W75 (by omega)
      refine own_go (fun _ k => XS.iinc X75.here hx rfl (hb hby at_267) rfl (l' := #[s0, s1, s2, s3, s4, s5, s6, s7, s8, s9, .val (.ref a10), .val (.ref a11), s12, s13, .val (.ref a14), .val (.ref a15), .val (.int ((Int32.ofNat ps2.length) + (1 : Int32))), .val (.int (Int32.ofNat 0)), .val (.int (Int32.ofNat r1)), .val (.int (Int32.ofNat ps2.length)), .unset, .unset, .unset, .unset, .unset, .unset, .unset]) rfl k) ?_
      show own_Go p e below _ T75 (mkF m 270 #[s0, s1, s2, s3, s4, s5, s6, s7, s8, s9, .val (.ref a10), .val (.ref a11), s12, s13, .val (.ref a14), .val (.ref a15), .val (.int ((Int32.ofNat ps2.length) + (1 : Int32))), .val (.int (Int32.ofNat 0)), .val (.int (Int32.ofNat r1)), .val (.int (Int32.ofNat ps2.length)), .unset, .unset, .unset, .unset, .unset, .unset, .unset] [])
      rw [own_inc, show ps2.length + 1 = (ps2 ++ [x2]).length by simp]
      exact own_t270 s0 s1 s2 s3 s4 s5 s6 s7 s8 s9 s12 s13 a10 a11 a14 a15 x0 x1 x2 x3 r1 ps2.length ps1 ps2 (ps2 ++ [x2]) X75 hx hZ hw hby hml hown hret hlk e75 (by rw [W75.size, W72.size]; exact Z0) N75 g14 g15 o1 o2 o3 B1'' B2'' B3'' B4'' J0 J1 (Or.inr ⟨hno, rfl, rfl⟩)
set_option maxRecDepth 65536 in
set_option maxHeartbeats 40000000 in
theorem own_t163 {p : Program} {l : Launch} {e : Env} {s : State} {m : MethodId} {args : Array Value} {below : List Frame} {meth : Method} {c : Code} {T0 : State} {locs : List Loc} {Z : State} {a0 : Array Value} {h0 : Heap} {n0 : Nat} (s0 s1 s2 s3 s4 s5 s6 s7 s8 s9 s12 s13 : Slot) (a10 a11 a14 a15 : Nat) (x0 x1 x2 x3 : own_Pr) (ps1 : List own_Pr) (X0 : Stand p l e room_1 s m args below meth c T0 locs 4 16)
    (hx : p.tables.exec = Jvm.exec) (hZ : Z.Warmed39 s.vm) (hw : ∀ d ∈ tables_1, d.before a0 Z = true) (hby : c.code = code) (hml : c.maxLocals = 27) (hown : s.vm.findClass "com/example/window_payoff_solver/windowpayoffsolver/window/PairTableIndexPinLaw" = some m.cls) (hret : meth.sig.returnType = some .boolean) (hlk : meth.locks = false) (e0 : T0.heap = h0) (Z0 : n0 ≤ h0.size) (N0 : Fr n0 locs) (g14 : n0 ≤ a14) (g15 : n0 ≤ a15) (o1 : a10 < a11) (o2 : a11 < a14) (o3 : a14 < a15) (B1 : own_Af Z h0 a10 4 [x0, x1, x2, x3]) (B2 : own_As Z h0 a11 4 [x0, x1, x2, x3]) (B3 : own_Af Z h0 a14 4 ps1) (B4 : own_As Z h0 a15 4 ps1) (J0 : own_Ix [] x0 0 ps1) :
    own_Go p e below (own_P (own_R (fun v _ L => v = some (.int 1) ∧ Fr n0 L)) room_1 s) T0 (mkF m 163 #[s0, s1, s2, s3, s4, s5, s6, s7, s8, s9, .val (.ref a10), .val (.ref a11), s12, s13, .val (.ref a14), .val (.ref a15), .val (.int (Int32.ofNat ps1.length)), .val (.int (Int32.ofNat 0)), .unset, .unset, .unset, .unset, .unset, .unset, .unset, .unset, .unset] []) := by
  have l0 : ([] : List own_Pr).length = 0 := rfl
  have l1 := own_lenIx J0
  have P0 : ps1[0]? = some x0 := (own_atIx J0)
  have All : ∀ (i : Nat) (y : own_Pr), ps1[i]? = some y → y = x0 := by
    intro i y hh
    rcases own_memIx J0 hh with hh | hh
    · simp at hh
    · subst hh; simp
  refine own_go (fun _ k => XS.aload X0.here hx rfl (hb hby at_163) rfl rfl k) ?_
  show own_Go p e below _ T0 (mkF m 165 #[s0, s1, s2, s3, s4, s5, s6, s7, s8, s9, .val (.ref a10), .val (.ref a11), s12, s13, .val (.ref a14), .val (.ref a15), .val (.int (Int32.ofNat ps1.length)), .val (.int (Int32.ofNat 0)), .unset, .unset, .unset, .unset, .unset, .unset, .unset, .unset, .unset] [(.ref a10)])
  refine own_go (fun _ k => XS.aload X0.here hx rfl (hb hby at_165) rfl rfl k) ?_
  show own_Go p e below _ T0 (mkF m 167 #[s0, s1, s2, s3, s4, s5, s6, s7, s8, s9, .val (.ref a10), .val (.ref a11), s12, s13, .val (.ref a14), .val (.ref a15), .val (.int (Int32.ofNat ps1.length)), .val (.int (Int32.ofNat 0)), .unset, .unset, .unset, .unset, .unset, .unset, .unset, .unset, .unset] [(.ref a11), (.ref a10)])
  refine own_go (fun _ k => XS.iconst X0.here hx rfl (hb hby at_167) k) ?_
  show own_Go p e below _ T0 (mkF m 168 #[s0, s1, s2, s3, s4, s5, s6, s7, s8, s9, .val (.ref a10), .val (.ref a11), s12, s13, .val (.ref a14), .val (.ref a15), .val (.int (Int32.ofNat ps1.length)), .val (.int (Int32.ofNat 0)), .unset, .unset, .unset, .unset, .unset, .unset, .unset, .unset, .unset] [(.int (1 : Int32)), (.ref a11), (.ref a10)])
  refine own_go (fun _ k => XS.iconst X0.here hx rfl (hb hby at_168) k) ?_
  show own_Go p e below _ T0 (mkF m 169 #[s0, s1, s2, s3, s4, s5, s6, s7, s8, s9, .val (.ref a10), .val (.ref a11), s12, s13, .val (.ref a14), .val (.ref a15), .val (.int (Int32.ofNat ps1.length)), .val (.int (Int32.ofNat 0)), .unset, .unset, .unset, .unset, .unset, .unset, .unset, .unset, .unset] [(.int (0 : Int32)), (.int (1 : Int32)), (.ref a11), (.ref a10)])
  obtain ⟨T76, v76, L76, X76, q76, st76⟩ := own_callS X0 hx hZ hown (y := (⟨"com/example/window_payoff_solver/windowpayoffsolver/window/PairTableIndexPinLaw", "same", "([I[JII)Z"⟩ : MethodName)) (hw _ (List.mem_of_getElem? (i := 9) rfl)) (hw _ (List.mem_of_getElem? (i := 10) rfl)) (hw _ (List.mem_of_getElem? (i := 4) rfl)) (hw _ (List.mem_of_getElem? (i := 11) rfl)) (by decide) (rmSM l Z a0 hw [] a10 a11 1 0 [x0, x1, x2, x3] x1 x0 h0 n0 Z0 (by omega) (by omega) B1 B2 rfl rfl) (Ls := #[s0, s1, s2, s3, s4, s5, s6, s7, s8, s9, .val (.ref a10), .val (.ref a11), s12, s13, .val (.ref a14), .val (.ref a15), .val (.int (Int32.ofNat ps1.length)), .val (.int (Int32.ofNat 0)), .unset, .unset, .unset, .unset, .unset, .unset, .unset, .unset, .unset]) (st := [(.int (0 : Int32)), (.int (1 : Int32)), (.ref a11), (.ref a10)]) (W := 0) (by decide) (by decide) (by rw [hml]; rfl) (argsL := [(.ref a10), (.ref a11), (.int (1 : Int32)), (.int (0 : Int32))]) (rest := []) (lenOf pd_6 rfl) rfl rfl (Nat.le_of_eq rfl) (hb hby at_169) e0 (by decide) (by decide)
  obtain ⟨rfl, N76', e76⟩ := q76
  have N76 := Fr.app N0 N76'
  refine own_go st76 ?_
  show own_Go p e below _ T76 (mkF m 172 #[s0, s1, s2, s3, s4, s5, s6, s7, s8, s9, .val (.ref a10), .val (.ref a11), s12, s13, .val (.ref a14), .val (.ref a15), .val (.int (Int32.ofNat ps1.length)), .val (.int (Int32.ofNat 0)), .unset, .unset, .unset, .unset, .unset, .unset, .unset, .unset, .unset] [(.int (if x1 = x0 then 1 else 0))])
  by_cases hq0 : x1 = x0
  · rw [if_pos hq0]
    show own_Go p e below _ T76 (mkF m 172 #[s0, s1, s2, s3, s4, s5, s6, s7, s8, s9, .val (.ref a10), .val (.ref a11), s12, s13, .val (.ref a14), .val (.ref a15), .val (.int (Int32.ofNat ps1.length)), .val (.int (Int32.ofNat 0)), .unset, .unset, .unset, .unset, .unset, .unset, .unset, .unset, .unset] [(.int (1 : Int32))])
    refine own_go (fun _ k => XS.ifNo X76.here hx rfl (hb hby at_172) rfl ((if0 _ _).trans (feq (by decide)).1) k) ?_
    show own_Go p e below _ T76 (mkF m 175 #[s0, s1, s2, s3, s4, s5, s6, s7, s8, s9, .val (.ref a10), .val (.ref a11), s12, s13, .val (.ref a14), .val (.ref a15), .val (.int (Int32.ofNat ps1.length)), .val (.int (Int32.ofNat 0)), .unset, .unset, .unset, .unset, .unset, .unset, .unset, .unset, .unset] [])
    refine own_go (fun _ k => XS.iload X76.here hx rfl (hb hby at_175) rfl  k) ?_
    show own_Go p e below _ T76 (mkF m 177 #[s0, s1, s2, s3, s4, s5, s6, s7, s8, s9, .val (.ref a10), .val (.ref a11), s12, s13, .val (.ref a14), .val (.ref a15), .val (.int (Int32.ofNat ps1.length)), .val (.int (Int32.ofNat 0)), .unset, .unset, .unset, .unset, .unset, .unset, .unset, .unset, .unset] [(.int (Int32.ofNat 0))])
    refine own_go (fun _ k => XS.istore X76.here hx rfl (hb hby at_177) rfl (l' := #[s0, s1, s2, s3, s4, s5, s6, s7, s8, s9, .val (.ref a10), .val (.ref a11), s12, s13, .val (.ref a14), .val (.ref a15), .val (.int (Int32.ofNat ps1.length)), .val (.int (Int32.ofNat 0)), .val (.int (Int32.ofNat 0)), .unset, .unset, .unset, .unset, .unset, .unset, .unset, .unset]) rfl k) ?_
    show own_Go p e below _ T76 (mkF m 179 #[s0, s1, s2, s3, s4, s5, s6, s7, s8, s9, .val (.ref a10), .val (.ref a11), s12, s13, .val (.ref a14), .val (.ref a15), .val (.int (Int32.ofNat ps1.length)), .val (.int (Int32.ofNat 0)), .val (.int (Int32.ofNat 0)), .unset, .unset, .unset, .unset, .unset, .unset, .unset, .unset] [])
    refine own_go (fun _ k => XS.goto X76.here hx rfl (pc0 := 179) (pc' := 207) rfl (hb hby at_179) (by decide) (by decide) k) ?_
    show own_Go p e below _ T76 (mkF m 207 #[s0, s1, s2, s3, s4, s5, s6, s7, s8, s9, .val (.ref a10), .val (.ref a11), s12, s13, .val (.ref a14), .val (.ref a15), .val (.int (Int32.ofNat ps1.length)), .val (.int (Int32.ofNat 0)), .val (.int (Int32.ofNat 0)), .unset, .unset, .unset, .unset, .unset, .unset, .unset, .unset] [])
    exact own_t207 s0 s1 s2 s3 s4 s5 s6 s7 s8 s9 s12 s13 a10 a11 a14 a15 x0 x1 x2 x3 0 ps1 ps1 X76 hx hZ hw hby hml hown hret hlk e76 Z0 N76 g14 g15 o1 o2 o3 B1 B2 B3 B4 J0 (Or.inl ⟨by rw [hq0]; exact P0, rfl⟩)
  · rw [if_neg hq0]
    show own_Go p e below _ T76 (mkF m 172 #[s0, s1, s2, s3, s4, s5, s6, s7, s8, s9, .val (.ref a10), .val (.ref a11), s12, s13, .val (.ref a14), .val (.ref a15), .val (.int (Int32.ofNat ps1.length)), .val (.int (Int32.ofNat 0)), .unset, .unset, .unset, .unset, .unset, .unset, .unset, .unset, .unset] [(.int (0 : Int32))])
    refine own_go (fun _ k => XS.ifYes X76.here hx rfl (pc0 := 172) (pc' := 182) rfl (hb hby at_172) rfl ((if0 _ _).trans (teq rfl).1) (by decide) (by decide) k) ?_
    show own_Go p e below _ T76 (mkF m 182 #[s0, s1, s2, s3, s4, s5, s6, s7, s8, s9, .val (.ref a10), .val (.ref a11), s12, s13, .val (.ref a14), .val (.ref a15), .val (.int (Int32.ofNat ps1.length)), .val (.int (Int32.ofNat 0)), .unset, .unset, .unset, .unset, .unset, .unset, .unset, .unset, .unset] [])
    have hno : ∀ i : Nat, ps1[i]? ≠ some x1 := fun i hi => by
      rcases All i _ hi with q
      · exact hq0 q
    refine own_go (fun _ k => XS.iload X76.here hx rfl (hb hby at_182) rfl  k) ?_
    show own_Go p e below _ T76 (mkF m 184 #[s0, s1, s2, s3, s4, s5, s6, s7, s8, s9, .val (.ref a10), .val (.ref a11), s12, s13, .val (.ref a14), .val (.ref a15), .val (.int (Int32.ofNat ps1.length)), .val (.int (Int32.ofNat 0)), .unset, .unset, .unset, .unset, .unset, .unset, .unset, .unset, .unset] [(.int (Int32.ofNat ps1.length))])
    refine own_go (fun _ k => XS.istore X76.here hx rfl (hb hby at_184) rfl (l' := #[s0, s1, s2, s3, s4, s5, s6, s7, s8, s9, .val (.ref a10), .val (.ref a11), s12, s13, .val (.ref a14), .val (.ref a15), .val (.int (Int32.ofNat ps1.length)), .val (.int (Int32.ofNat 0)), .val (.int (Int32.ofNat ps1.length)), .unset, .unset, .unset, .unset, .unset, .unset, .unset, .unset]) rfl k) ?_
    show own_Go p e below _ T76 (mkF m 186 #[s0, s1, s2, s3, s4, s5, s6, s7, s8, s9, .val (.ref a10), .val (.ref a11), s12, s13, .val (.ref a14), .val (.ref a15), .val (.int (Int32.ofNat ps1.length)), .val (.int (Int32.ofNat 0)), .val (.int (Int32.ofNat ps1.length)), .unset, .unset, .unset, .unset, .unset, .unset, .unset, .unset] [])
    refine own_go (fun _ k => XS.aload X76.here hx rfl (hb hby at_186) rfl rfl k) ?_
    show own_Go p e below _ T76 (mkF m 188 #[s0, s1, s2, s3, s4, s5, s6, s7, s8, s9, .val (.ref a10), .val (.ref a11), s12, s13, .val (.ref a14), .val (.ref a15), .val (.int (Int32.ofNat ps1.length)), .val (.int (Int32.ofNat 0)), .val (.int (Int32.ofNat ps1.length)), .unset, .unset, .unset, .unset, .unset, .unset, .unset, .unset] [(.ref a14)])
    refine own_go (fun _ k => XS.iload X76.here hx rfl (hb hby at_188) rfl  k) ?_
    show own_Go p e below _ T76 (mkF m 190 #[s0, s1, s2, s3, s4, s5, s6, s7, s8, s9, .val (.ref a10), .val (.ref a11), s12, s13, .val (.ref a14), .val (.ref a15), .val (.int (Int32.ofNat ps1.length)), .val (.int (Int32.ofNat 0)), .val (.int (Int32.ofNat ps1.length)), .unset, .unset, .unset, .unset, .unset, .unset, .unset, .unset] [(.int (Int32.ofNat ps1.length)), (.ref a14)])
    refine own_go (fun _ k => XS.aload X76.here hx rfl (hb hby at_190) rfl rfl k) ?_
    show own_Go p e below _ T76 (mkF m 192 #[s0, s1, s2, s3, s4, s5, s6, s7, s8, s9, .val (.ref a10), .val (.ref a11), s12, s13, .val (.ref a14), .val (.ref a15), .val (.int (Int32.ofNat ps1.length)), .val (.int (Int32.ofNat 0)), .val (.int (Int32.ofNat ps1.length)), .unset, .unset, .unset, .unset, .unset, .unset, .unset, .unset] [(.ref a10), (.int (Int32.ofNat ps1.length)), (.ref a14)])
    refine own_go (fun _ k => XS.iconst X76.here hx rfl (hb hby at_192) k) ?_
    show own_Go p e below _ T76 (mkF m 193 #[s0, s1, s2, s3, s4, s5, s6, s7, s8, s9, .val (.ref a10), .val (.ref a11), s12, s13, .val (.ref a14), .val (.ref a15), .val (.int (Int32.ofNat ps1.length)), .val (.int (Int32.ofNat 0)), .val (.int (Int32.ofNat ps1.length)), .unset, .unset, .unset, .unset, .unset, .unset, .unset, .unset] [(.int (1 : Int32)), (.ref a10), (.int (Int32.ofNat ps1.length)), (.ref a14)])
    obtain ⟨c_77, Ar_77, S_77, H_77⟩ := id B1
    refine own_go (fun _ k => X76.iaload hx (j := (1 : Int32)) (v := (.int x1.1)) (by rw [e76]; exact Ar_77.1) (State.isArrayOf_alike hZ.alike Ar_77.2.1) Ar_77.2.2 (inb_of S_77 ⟨by decide, by decide⟩) (H_77 1 _ rfl) (g := (mkF m 193 #[s0, s1, s2, s3, s4, s5, s6, s7, s8, s9, .val (.ref a10), .val (.ref a11), s12, s13, .val (.ref a14), .val (.ref a15), .val (.int (Int32.ofNat ps1.length)), .val (.int (Int32.ofNat 0)), .val (.int (Int32.ofNat ps1.length)), .unset, .unset, .unset, .unset, .unset, .unset, .unset, .unset] [(.int (1 : Int32)), (.ref a10), (.int (Int32.ofNat ps1.length)), (.ref a14)])) rfl rfl (hb hby at_193) _ k) ?_
    show own_Go p e below _ T76 (mkF m 194 #[s0, s1, s2, s3, s4, s5, s6, s7, s8, s9, .val (.ref a10), .val (.ref a11), s12, s13, .val (.ref a14), .val (.ref a15), .val (.int (Int32.ofNat ps1.length)), .val (.int (Int32.ofNat 0)), .val (.int (Int32.ofNat ps1.length)), .unset, .unset, .unset, .unset, .unset, .unset, .unset, .unset] [(.int x1.1), (.int (Int32.ofNat ps1.length)), (.ref a14)])
    obtain ⟨c_78, Ar_78, S_78, H_78⟩ := id B3
    obtain ⟨T79, h79, X79, e79, W79, st79⟩ := stI X76 hx hZ e76 Ar_78 (j := (Int32.ofNat ps1.length)) (inb_of S_78 ⟨own_nn (by omega), (own_ltI (by omega) (by omega)).mpr (by omega)⟩) (g := (mkF m 194 #[s0, s1, s2, s3, s4, s5, s6, s7, s8, s9, .val (.ref a10), .val (.ref a11), s12, s13, .val (.ref a14), .val (.ref a15), .val (.int (Int32.ofNat ps1.length)), .val (.int (Int32.ofNat 0)), .val (.int (Int32.ofNat ps1.length)), .unset, .unset, .unset, .unset, .unset, .unset, .unset, .unset] [(.int x1.1), (.int (Int32.ofNat ps1.length)), (.ref a14)])) rfl rfl (hb hby at_194)
    have N79 := Fr.snoc X79 N76 g14
    refine own_go st79 ?_
    show own_Go p e below _ T79 (mkF m 195 #[s0, s1, s2, s3, s4, s5, s6, s7, s8, s9, .val (.ref a10), .val (.ref a11), s12, s13, .val (.ref a14), .val (.ref a15), .val (.int (Int32.ofNat ps1.length)), .val (.int (Int32.ofNat 0)), .val (.int (Int32.ofNat ps1.length)), .unset, .unset, .unset, .unset, .unset, .unset, .unset, .unset] [])
    have B3' := own_Af_push (x := x1) Ar_78 S_78 H_78 W79 (own_clamp (by omega))
    have B1' := own_Af_other B1 W79 (by omega)
    have B2' := own_As_other B2 W79 (by omega)
    have B4' := own_As_other B4 W79 (by omega)
    refine own_go (fun _ k => XS.aload X79.here hx rfl (hb hby at_195) rfl rfl k) ?_
    show own_Go p e below _ T79 (mkF m 197 #[s0, s1, s2, s3, s4, s5, s6, s7, s8, s9, .val (.ref a10), .val (.ref a11), s12, s13, .val (.ref a14), .val (.ref a15), .val (.int (Int32.ofNat ps1.length)), .val (.int (Int32.ofNat 0)), .val (.int (Int32.ofNat ps1.length)), .unset, .unset, .unset, .unset, .unset, .unset, .unset, .unset] [(.ref a15)])
    refine own_go (fun _ k => XS.iload X79.here hx rfl (hb hby at_197) rfl  k) ?_
    show own_Go p e below _ T79 (mkF m 199 #[s0, s1, s2, s3, s4, s5, s6, s7, s8, s9, .val (.ref a10), .val (.ref a11), s12, s13, .val (.ref a14), .val (.ref a15), .val (.int (Int32.ofNat ps1.length)), .val (.int (Int32.ofNat 0)), .val (.int (Int32.ofNat ps1.length)), .unset, .unset, .unset, .unset, .unset, .unset, .unset, .unset] [(.int (Int32.ofNat ps1.length)), (.ref a15)])
    refine own_go (fun _ k => XS.aload X79.here hx rfl (hb hby at_199) rfl rfl k) ?_
    show own_Go p e below _ T79 (mkF m 201 #[s0, s1, s2, s3, s4, s5, s6, s7, s8, s9, .val (.ref a10), .val (.ref a11), s12, s13, .val (.ref a14), .val (.ref a15), .val (.int (Int32.ofNat ps1.length)), .val (.int (Int32.ofNat 0)), .val (.int (Int32.ofNat ps1.length)), .unset, .unset, .unset, .unset, .unset, .unset, .unset, .unset] [(.ref a11), (.int (Int32.ofNat ps1.length)), (.ref a15)])
    refine own_go (fun _ k => XS.iconst X79.here hx rfl (hb hby at_201) k) ?_
    show own_Go p e below _ T79 (mkF m 202 #[s0, s1, s2, s3, s4, s5, s6, s7, s8, s9, .val (.ref a10), .val (.ref a11), s12, s13, .val (.ref a14), .val (.ref a15), .val (.int (Int32.ofNat ps1.length)), .val (.int (Int32.ofNat 0)), .val (.int (Int32.ofNat ps1.length)), .unset, .unset, .unset, .unset, .unset, .unset, .unset, .unset] [(.int (1 : Int32)), (.ref a11), (.int (Int32.ofNat ps1.length)), (.ref a15)])
    obtain ⟨c_80, Ar_80, S_80, H_80⟩ := id B2'
    refine own_go (fun _ k => X79.laload hx (j := (1 : Int32)) (v := (.long x1.2)) (by rw [e79]; exact Ar_80.1) (State.isArrayOf_alike hZ.alike Ar_80.2.1) Ar_80.2.2 (inb_of S_80 ⟨by decide, by decide⟩) (H_80 1 _ rfl) (g := (mkF m 202 #[s0, s1, s2, s3, s4, s5, s6, s7, s8, s9, .val (.ref a10), .val (.ref a11), s12, s13, .val (.ref a14), .val (.ref a15), .val (.int (Int32.ofNat ps1.length)), .val (.int (Int32.ofNat 0)), .val (.int (Int32.ofNat ps1.length)), .unset, .unset, .unset, .unset, .unset, .unset, .unset, .unset] [(.int (1 : Int32)), (.ref a11), (.int (Int32.ofNat ps1.length)), (.ref a15)])) rfl rfl (hb hby at_202) _ k) ?_
    show own_Go p e below _ T79 (mkF m 203 #[s0, s1, s2, s3, s4, s5, s6, s7, s8, s9, .val (.ref a10), .val (.ref a11), s12, s13, .val (.ref a14), .val (.ref a15), .val (.int (Int32.ofNat ps1.length)), .val (.int (Int32.ofNat 0)), .val (.int (Int32.ofNat ps1.length)), .unset, .unset, .unset, .unset, .unset, .unset, .unset, .unset] [(.long x1.2), (.int (Int32.ofNat ps1.length)), (.ref a15)])
    obtain ⟨c_81, Ar_81, S_81, H_81⟩ := id B4'
    obtain ⟨T82, h82, X82, e82, W82, st82⟩ := stJ X79 hx hZ e79 Ar_81 (j := (Int32.ofNat ps1.length)) (inb_of S_81 ⟨own_nn (by omega), (own_ltI (by omega) (by omega)).mpr (by omega)⟩) (g := (mkF m 203 #[s0, s1, s2, s3, s4, s5, s6, s7, s8, s9, .val (.ref a10), .val (.ref a11), s12, s13, .val (.ref a14), .val (.ref a15), .val (.int (Int32.ofNat ps1.length)), .val (.int (Int32.ofNat 0)), .val (.int (Int32.ofNat ps1.length)), .unset, .unset, .unset, .unset, .unset, .unset, .unset, .unset] [(.long x1.2), (.int (Int32.ofNat ps1.length)), (.ref a15)])) rfl rfl (hb hby at_203)
    have N82 := Fr.snoc X82 N79 g15
    refine own_go st82 ?_
    show own_Go p e below _ T82 (mkF m 204 #[s0, s1, s2, s3, s4, s5, s6, s7, s8, s9, .val (.ref a10), .val (.ref a11), s12, s13, .val (.ref a14), .val (.ref a15), .val (.int (Int32.ofNat ps1.length)), .val (.int (Int32.ofNat 0)), .val (.int (Int32.ofNat ps1.length)), .unset, .unset, .unset, .unset, .unset, .unset, .unset, .unset] [])
    have B4'' := own_As_push (x := x1) Ar_81 S_81 H_81 W82 (own_clamp (by omega))
    have B1'' := own_Af_other B1' W82 (by omega)
    have B2'' := own_As_other B2' W82 (by omega)
    have B3'' := own_Af_other B3' W82 (by omega)
    refine own_go (fun _ k => XS.iinc X82.here hx rfl (hb hby at_204) rfl (l' := #[s0, s1, s2, s3, s4, s5, s6, s7, s8, s9, .val (.ref a10), .val (.ref a11), s12, s13, .val (.ref a14), .val (.ref a15), .val (.int ((Int32.ofNat ps1.length) + (1 : Int32))), .val (.int (Int32.ofNat 0)), .val (.int (Int32.ofNat ps1.length)), .unset, .unset, .unset, .unset, .unset, .unset, .unset, .unset]) rfl k) ?_
    show own_Go p e below _ T82 (mkF m 207 #[s0, s1, s2, s3, s4, s5, s6, s7, s8, s9, .val (.ref a10), .val (.ref a11), s12, s13, .val (.ref a14), .val (.ref a15), .val (.int ((Int32.ofNat ps1.length) + (1 : Int32))), .val (.int (Int32.ofNat 0)), .val (.int (Int32.ofNat ps1.length)), .unset, .unset, .unset, .unset, .unset, .unset, .unset, .unset] [])
    rw [own_inc, show ps1.length + 1 = (ps1 ++ [x1]).length by simp]
    exact own_t207 s0 s1 s2 s3 s4 s5 s6 s7 s8 s9 s12 s13 a10 a11 a14 a15 x0 x1 x2 x3 ps1.length ps1 (ps1 ++ [x1]) X82 hx hZ hw hby hml hown hret hlk e82 (by rw [W82.size, W79.size]; exact Z0) N82 g14 g15 o1 o2 o3 B1'' B2'' B3'' B4'' J0 (Or.inr ⟨hno, rfl, rfl⟩)
set_option maxRecDepth 65536 in
set_option maxHeartbeats 40000000 in
theorem own_t29 {p : Program} {l : Launch} {e : Env} {s : State} {m : MethodId} {args : Array Value} {below : List Frame} {meth : Method} {c : Code} {T0 : State} {locs : List Loc} {Z : State} {a0 : Array Value} {h0 : Heap} {n0 : Nat} (a : Int32) (b : Int64) (s3 s4 s5 : Slot) (q c' : Int32) (d : Int64) (X0 : Stand p l e room_1 s m args below meth c T0 locs 0 0)
    (hx : p.tables.exec = Jvm.exec) (hZ : Z.Warmed39 s.vm) (hw : ∀ d ∈ tables_1, d.before a0 Z = true) (hby : c.code = code) (hml : c.maxLocals = 27) (hown : s.vm.findClass "com/example/window_payoff_solver/windowpayoffsolver/window/PairTableIndexPinLaw" = some m.cls) (hret : meth.sig.returnType = some .boolean) (hlk : meth.locks = false) (e0 : T0.heap = h0) (Z0 : n0 ≤ h0.size) (N0 : Fr n0 locs) :
    own_Go p e below (own_P (own_R (fun v _ L => v = some (.int 1) ∧ Fr n0 L)) room_1 s) T0 (mkF m 29 #[.val (.int a), .val (.long b), .second, s3, s4, s5, .val (.int q), .val (.int c'), .unset, .unset, .unset, .unset, .unset, .unset, .unset, .unset, .unset, .unset, .unset, .unset, .unset, .unset, .unset, .unset, .unset, .unset, .unset] [(.long d)]) := by
  refine own_go (fun _ k => XS.lstore X0.here hx rfl (hb hby at_29) rfl (l' := #[.val (.int a), .val (.long b), .second, s3, s4, s5, .val (.int q), .val (.int c'), .val (.long d), .second, .unset, .unset, .unset, .unset, .unset, .unset, .unset, .unset, .unset, .unset, .unset, .unset, .unset, .unset, .unset, .unset, .unset]) rfl k) ?_
  show own_Go p e below _ T0 (mkF m 31 #[.val (.int a), .val (.long b), .second, s3, s4, s5, .val (.int q), .val (.int c'), .val (.long d), .second, .unset, .unset, .unset, .unset, .unset, .unset, .unset, .unset, .unset, .unset, .unset, .unset, .unset, .unset, .unset, .unset, .unset] [])
  refine own_go (fun _ k => XS.iconst X0.here hx rfl (hb hby at_31) k) ?_
  show own_Go p e below _ T0 (mkF m 32 #[.val (.int a), .val (.long b), .second, s3, s4, s5, .val (.int q), .val (.int c'), .val (.long d), .second, .unset, .unset, .unset, .unset, .unset, .unset, .unset, .unset, .unset, .unset, .unset, .unset, .unset, .unset, .unset, .unset, .unset] [(.int (4 : Int32))])
  obtain ⟨T83, h83, k83, X83, e83, E83, A83, st83⟩ := newP X0 hx hZ (hw _ (List.mem_of_getElem? (i := 0) rfl)) e0 (g := (mkF m 32 #[.val (.int a), .val (.long b), .second, s3, s4, s5, .val (.int q), .val (.int c'), .val (.long d), .second, .unset, .unset, .unset, .unset, .unset, .unset, .unset, .unset, .unset, .unset, .unset, .unset, .unset, .unset, .unset, .unset, .unset] [(.int (4 : Int32))])) rfl (hb hby at_32) rfl (by decide) (cap := 4) (by decide) (by decide) (by decide) (by decide)
  obtain ⟨b83, g83⟩ : ∃ z, z = h0.size := ⟨_, rfl⟩
  rw [← g83] at A83 st83
  refine own_go st83 ?_
  show own_Go p e below _ T83 (mkF m 34 #[.val (.int a), .val (.long b), .second, s3, s4, s5, .val (.int q), .val (.int c'), .val (.long d), .second, .unset, .unset, .unset, .unset, .unset, .unset, .unset, .unset, .unset, .unset, .unset, .unset, .unset, .unset, .unset, .unset, .unset] [(.ref b83)])
  refine own_go (fun _ k => XS.astore X83.here hx rfl (hb hby at_34) rfl rfl (l' := #[.val (.int a), .val (.long b), .second, s3, s4, s5, .val (.int q), .val (.int c'), .val (.long d), .second, .val (.ref b83), .unset, .unset, .unset, .unset, .unset, .unset, .unset, .unset, .unset, .unset, .unset, .unset, .unset, .unset, .unset, .unset]) rfl k) ?_
  show own_Go p e below _ T83 (mkF m 36 #[.val (.int a), .val (.long b), .second, s3, s4, s5, .val (.int q), .val (.int c'), .val (.long d), .second, .val (.ref b83), .unset, .unset, .unset, .unset, .unset, .unset, .unset, .unset, .unset, .unset, .unset, .unset, .unset, .unset, .unset, .unset] [])
  refine own_go (fun _ k => XS.iconst X83.here hx rfl (hb hby at_36) k) ?_
  show own_Go p e below _ T83 (mkF m 37 #[.val (.int a), .val (.long b), .second, s3, s4, s5, .val (.int q), .val (.int c'), .val (.long d), .second, .val (.ref b83), .unset, .unset, .unset, .unset, .unset, .unset, .unset, .unset, .unset, .unset, .unset, .unset, .unset, .unset, .unset, .unset] [(.int (4 : Int32))])
  have F_0 := own_Af_new (N := 4) A83
  have Zs1 := Nat.le_trans Z0 E83.1
  obtain ⟨T84, h84, k84, X84, e84, E84, A84, st84⟩ := newP X83 hx hZ (hw _ (List.mem_of_getElem? (i := 1) rfl)) e83 (g := (mkF m 37 #[.val (.int a), .val (.long b), .second, s3, s4, s5, .val (.int q), .val (.int c'), .val (.long d), .second, .val (.ref b83), .unset, .unset, .unset, .unset, .unset, .unset, .unset, .unset, .unset, .unset, .unset, .unset, .unset, .unset, .unset, .unset] [(.int (4 : Int32))])) rfl (hb hby at_37) rfl (by decide) (cap := 4) (by decide) (by decide) (by decide) (by decide)
  obtain ⟨b84, g84⟩ : ∃ z, z = h83.size := ⟨_, rfl⟩
  rw [← g84] at A84 st84
  refine own_go st84 ?_
  show own_Go p e below _ T84 (mkF m 39 #[.val (.int a), .val (.long b), .second, s3, s4, s5, .val (.int q), .val (.int c'), .val (.long d), .second, .val (.ref b83), .unset, .unset, .unset, .unset, .unset, .unset, .unset, .unset, .unset, .unset, .unset, .unset, .unset, .unset, .unset, .unset] [(.ref b84)])
  have o1 : b83 < b84 := by rw [g84]; exact own_Af_lt F_0
  have Zs2 := Nat.le_trans Zs1 E84.1
  have g10 : n0 ≤ b83 := Nat.le_trans Z0 (Nat.le_of_eq g83.symm)
  have g11 : n0 ≤ b84 := Nat.le_trans Zs1 (Nat.le_of_eq g84.symm)
  have G_0 := own_As_new (N := 4) A84
  have F_1 := own_Af_ext F_0 E84
  refine own_go (fun _ k => XS.astore X84.here hx rfl (hb hby at_39) rfl rfl (l' := #[.val (.int a), .val (.long b), .second, s3, s4, s5, .val (.int q), .val (.int c'), .val (.long d), .second, .val (.ref b83), .val (.ref b84), .unset, .unset, .unset, .unset, .unset, .unset, .unset, .unset, .unset, .unset, .unset, .unset, .unset, .unset, .unset]) rfl k) ?_
  show own_Go p e below _ T84 (mkF m 41 #[.val (.int a), .val (.long b), .second, s3, s4, s5, .val (.int q), .val (.int c'), .val (.long d), .second, .val (.ref b83), .val (.ref b84), .unset, .unset, .unset, .unset, .unset, .unset, .unset, .unset, .unset, .unset, .unset, .unset, .unset, .unset, .unset] [])
  refine own_go (fun _ k => XS.aload X84.here hx rfl (hb hby at_41) rfl rfl k) ?_
  show own_Go p e below _ T84 (mkF m 43 #[.val (.int a), .val (.long b), .second, s3, s4, s5, .val (.int q), .val (.int c'), .val (.long d), .second, .val (.ref b83), .val (.ref b84), .unset, .unset, .unset, .unset, .unset, .unset, .unset, .unset, .unset, .unset, .unset, .unset, .unset, .unset, .unset] [(.ref b83)])
  refine own_go (fun _ k => XS.iconst X84.here hx rfl (hb hby at_43) k) ?_
  show own_Go p e below _ T84 (mkF m 44 #[.val (.int a), .val (.long b), .second, s3, s4, s5, .val (.int q), .val (.int c'), .val (.long d), .second, .val (.ref b83), .val (.ref b84), .unset, .unset, .unset, .unset, .unset, .unset, .unset, .unset, .unset, .unset, .unset, .unset, .unset, .unset, .unset] [(.int (0 : Int32)), (.ref b83)])
  refine own_go (fun _ k => XS.iloadN X84.here hx rfl (hb hby at_44) rfl  k) ?_
  show own_Go p e below _ T84 (mkF m 45 #[.val (.int a), .val (.long b), .second, s3, s4, s5, .val (.int q), .val (.int c'), .val (.long d), .second, .val (.ref b83), .val (.ref b84), .unset, .unset, .unset, .unset, .unset, .unset, .unset, .unset, .unset, .unset, .unset, .unset, .unset, .unset, .unset] [(.int a), (.int (0 : Int32)), (.ref b83)])
  obtain ⟨c_85, Ar_85, S_85, H_85⟩ := id F_1
  obtain ⟨T86, h86, X86, e86, W86, st86⟩ := stI X84 hx hZ e84 Ar_85 (j := (0 : Int32)) (inb_of S_85 ⟨by decide, by decide⟩) (g := (mkF m 45 #[.val (.int a), .val (.long b), .second, s3, s4, s5, .val (.int q), .val (.int c'), .val (.long d), .second, .val (.ref b83), .val (.ref b84), .unset, .unset, .unset, .unset, .unset, .unset, .unset, .unset, .unset, .unset, .unset, .unset, .unset, .unset, .unset] [(.int a), (.int (0 : Int32)), (.ref b83)])) rfl rfl (hb hby at_45)
  have N86 := Fr.snoc X86 N0 g10
  refine own_go st86 ?_
  show own_Go p e below _ T86 (mkF m 46 #[.val (.int a), .val (.long b), .second, s3, s4, s5, .val (.int q), .val (.int c'), .val (.long d), .second, .val (.ref b83), .val (.ref b84), .unset, .unset, .unset, .unset, .unset, .unset, .unset, .unset, .unset, .unset, .unset, .unset, .unset, .unset, .unset] [])
  have F_86 := own_Af_push (x := (a, b)) Ar_85 S_85 H_85 W86 rfl
  have G_86 := own_As_other G_0 W86 (by omega)
  have Z_86 : n0 ≤ h86.size := by rw [W86.size]; exact Zs2
  refine own_go (fun _ k => XS.aload X86.here hx rfl (hb hby at_46) rfl rfl k) ?_
  show own_Go p e below _ T86 (mkF m 48 #[.val (.int a), .val (.long b), .second, s3, s4, s5, .val (.int q), .val (.int c'), .val (.long d), .second, .val (.ref b83), .val (.ref b84), .unset, .unset, .unset, .unset, .unset, .unset, .unset, .unset, .unset, .unset, .unset, .unset, .unset, .unset, .unset] [(.ref b84)])
  refine own_go (fun _ k => XS.iconst X86.here hx rfl (hb hby at_48) k) ?_
  show own_Go p e below _ T86 (mkF m 49 #[.val (.int a), .val (.long b), .second, s3, s4, s5, .val (.int q), .val (.int c'), .val (.long d), .second, .val (.ref b83), .val (.ref b84), .unset, .unset, .unset, .unset, .unset, .unset, .unset, .unset, .unset, .unset, .unset, .unset, .unset, .unset, .unset] [(.int (0 : Int32)), (.ref b84)])
  refine own_go (fun _ k => XS.lloadN X86.here hx rfl (hb hby at_49) rfl  k) ?_
  show own_Go p e below _ T86 (mkF m 50 #[.val (.int a), .val (.long b), .second, s3, s4, s5, .val (.int q), .val (.int c'), .val (.long d), .second, .val (.ref b83), .val (.ref b84), .unset, .unset, .unset, .unset, .unset, .unset, .unset, .unset, .unset, .unset, .unset, .unset, .unset, .unset, .unset] [(.long b), (.int (0 : Int32)), (.ref b84)])
  obtain ⟨c_87, Ar_87, S_87, H_87⟩ := id G_86
  obtain ⟨T88, h88, X88, e88, W88, st88⟩ := stJ X86 hx hZ e86 Ar_87 (j := (0 : Int32)) (inb_of S_87 ⟨by decide, by decide⟩) (g := (mkF m 50 #[.val (.int a), .val (.long b), .second, s3, s4, s5, .val (.int q), .val (.int c'), .val (.long d), .second, .val (.ref b83), .val (.ref b84), .unset, .unset, .unset, .unset, .unset, .unset, .unset, .unset, .unset, .unset, .unset, .unset, .unset, .unset, .unset] [(.long b), (.int (0 : Int32)), (.ref b84)])) rfl rfl (hb hby at_50)
  have N88 := Fr.snoc X88 N86 g11
  refine own_go st88 ?_
  show own_Go p e below _ T88 (mkF m 51 #[.val (.int a), .val (.long b), .second, s3, s4, s5, .val (.int q), .val (.int c'), .val (.long d), .second, .val (.ref b83), .val (.ref b84), .unset, .unset, .unset, .unset, .unset, .unset, .unset, .unset, .unset, .unset, .unset, .unset, .unset, .unset, .unset] [])
  have G_88 := own_As_push (x := (a, b)) Ar_87 S_87 H_87 W88 rfl
  have F_88 := own_Af_other F_86 W88 (by omega)
  have Z_88 : n0 ≤ h88.size := by rw [W88.size]; exact Z_86
  refine own_go (fun _ k => XS.aload X88.here hx rfl (hb hby at_51) rfl rfl k) ?_
  show own_Go p e below _ T88 (mkF m 53 #[.val (.int a), .val (.long b), .second, s3, s4, s5, .val (.int q), .val (.int c'), .val (.long d), .second, .val (.ref b83), .val (.ref b84), .unset, .unset, .unset, .unset, .unset, .unset, .unset, .unset, .unset, .unset, .unset, .unset, .unset, .unset, .unset] [(.ref b83)])
  refine own_go (fun _ k => XS.iconst X88.here hx rfl (hb hby at_53) k) ?_
  show own_Go p e below _ T88 (mkF m 54 #[.val (.int a), .val (.long b), .second, s3, s4, s5, .val (.int q), .val (.int c'), .val (.long d), .second, .val (.ref b83), .val (.ref b84), .unset, .unset, .unset, .unset, .unset, .unset, .unset, .unset, .unset, .unset, .unset, .unset, .unset, .unset, .unset] [(.int (1 : Int32)), (.ref b83)])
  refine own_go (fun _ k => XS.iload X88.here hx rfl (hb hby at_54) rfl  k) ?_
  show own_Go p e below _ T88 (mkF m 56 #[.val (.int a), .val (.long b), .second, s3, s4, s5, .val (.int q), .val (.int c'), .val (.long d), .second, .val (.ref b83), .val (.ref b84), .unset, .unset, .unset, .unset, .unset, .unset, .unset, .unset, .unset, .unset, .unset, .unset, .unset, .unset, .unset] [(.int c'), (.int (1 : Int32)), (.ref b83)])
  obtain ⟨c_89, Ar_89, S_89, H_89⟩ := id F_88
  obtain ⟨T90, h90, X90, e90, W90, st90⟩ := stI X88 hx hZ e88 Ar_89 (j := (1 : Int32)) (inb_of S_89 ⟨by decide, by decide⟩) (g := (mkF m 56 #[.val (.int a), .val (.long b), .second, s3, s4, s5, .val (.int q), .val (.int c'), .val (.long d), .second, .val (.ref b83), .val (.ref b84), .unset, .unset, .unset, .unset, .unset, .unset, .unset, .unset, .unset, .unset, .unset, .unset, .unset, .unset, .unset] [(.int c'), (.int (1 : Int32)), (.ref b83)])) rfl rfl (hb hby at_56)
  have N90 := Fr.snoc X90 N88 g10
  refine own_go st90 ?_
  show own_Go p e below _ T90 (mkF m 57 #[.val (.int a), .val (.long b), .second, s3, s4, s5, .val (.int q), .val (.int c'), .val (.long d), .second, .val (.ref b83), .val (.ref b84), .unset, .unset, .unset, .unset, .unset, .unset, .unset, .unset, .unset, .unset, .unset, .unset, .unset, .unset, .unset] [])
  have F_90 := own_Af_push (x := (c', d)) Ar_89 S_89 H_89 W90 rfl
  have G_90 := own_As_other G_88 W90 (by omega)
  have Z_90 : n0 ≤ h90.size := by rw [W90.size]; exact Z_88
  refine own_go (fun _ k => XS.aload X90.here hx rfl (hb hby at_57) rfl rfl k) ?_
  show own_Go p e below _ T90 (mkF m 59 #[.val (.int a), .val (.long b), .second, s3, s4, s5, .val (.int q), .val (.int c'), .val (.long d), .second, .val (.ref b83), .val (.ref b84), .unset, .unset, .unset, .unset, .unset, .unset, .unset, .unset, .unset, .unset, .unset, .unset, .unset, .unset, .unset] [(.ref b84)])
  refine own_go (fun _ k => XS.iconst X90.here hx rfl (hb hby at_59) k) ?_
  show own_Go p e below _ T90 (mkF m 60 #[.val (.int a), .val (.long b), .second, s3, s4, s5, .val (.int q), .val (.int c'), .val (.long d), .second, .val (.ref b83), .val (.ref b84), .unset, .unset, .unset, .unset, .unset, .unset, .unset, .unset, .unset, .unset, .unset, .unset, .unset, .unset, .unset] [(.int (1 : Int32)), (.ref b84)])
  refine own_go (fun _ k => XS.lload X90.here hx rfl (hb hby at_60) rfl  k) ?_
  show own_Go p e below _ T90 (mkF m 62 #[.val (.int a), .val (.long b), .second, s3, s4, s5, .val (.int q), .val (.int c'), .val (.long d), .second, .val (.ref b83), .val (.ref b84), .unset, .unset, .unset, .unset, .unset, .unset, .unset, .unset, .unset, .unset, .unset, .unset, .unset, .unset, .unset] [(.long d), (.int (1 : Int32)), (.ref b84)])
  obtain ⟨c_91, Ar_91, S_91, H_91⟩ := id G_90
  obtain ⟨T92, h92, X92, e92, W92, st92⟩ := stJ X90 hx hZ e90 Ar_91 (j := (1 : Int32)) (inb_of S_91 ⟨by decide, by decide⟩) (g := (mkF m 62 #[.val (.int a), .val (.long b), .second, s3, s4, s5, .val (.int q), .val (.int c'), .val (.long d), .second, .val (.ref b83), .val (.ref b84), .unset, .unset, .unset, .unset, .unset, .unset, .unset, .unset, .unset, .unset, .unset, .unset, .unset, .unset, .unset] [(.long d), (.int (1 : Int32)), (.ref b84)])) rfl rfl (hb hby at_62)
  have N92 := Fr.snoc X92 N90 g11
  refine own_go st92 ?_
  show own_Go p e below _ T92 (mkF m 63 #[.val (.int a), .val (.long b), .second, s3, s4, s5, .val (.int q), .val (.int c'), .val (.long d), .second, .val (.ref b83), .val (.ref b84), .unset, .unset, .unset, .unset, .unset, .unset, .unset, .unset, .unset, .unset, .unset, .unset, .unset, .unset, .unset] [])
  have G_92 := own_As_push (x := (c', d)) Ar_91 S_91 H_91 W92 rfl
  have F_92 := own_Af_other F_90 W92 (by omega)
  have Z_92 : n0 ≤ h92.size := by rw [W92.size]; exact Z_90
  refine own_go (fun _ k => XS.iload X92.here hx rfl (hb hby at_63) rfl  k) ?_
  show own_Go p e below _ T92 (mkF m 65 #[.val (.int a), .val (.long b), .second, s3, s4, s5, .val (.int q), .val (.int c'), .val (.long d), .second, .val (.ref b83), .val (.ref b84), .unset, .unset, .unset, .unset, .unset, .unset, .unset, .unset, .unset, .unset, .unset, .unset, .unset, .unset, .unset] [(.int q)])
  refine own_go (fun _ k => XS.iconst X92.here hx rfl (hb hby at_65) k) ?_
  show own_Go p e below _ T92 (mkF m 66 #[.val (.int a), .val (.long b), .second, s3, s4, s5, .val (.int q), .val (.int c'), .val (.long d), .second, .val (.ref b83), .val (.ref b84), .unset, .unset, .unset, .unset, .unset, .unset, .unset, .unset, .unset, .unset, .unset, .unset, .unset, .unset, .unset] [(.int (3 : Int32)), (.int q)])
  refine own_go (fun _ k => XS.iand X92.here hx rfl (hb hby at_66) rfl k) ?_
  show own_Go p e below _ T92 (mkF m 67 #[.val (.int a), .val (.long b), .second, s3, s4, s5, .val (.int q), .val (.int c'), .val (.long d), .second, .val (.ref b83), .val (.ref b84), .unset, .unset, .unset, .unset, .unset, .unset, .unset, .unset, .unset, .unset, .unset, .unset, .unset, .unset, .unset] [(.int (q &&& (3 : Int32)))])
  refine own_go (fun _ k => XS.istore X92.here hx rfl (hb hby at_67) rfl (l' := #[.val (.int a), .val (.long b), .second, s3, s4, s5, .val (.int q), .val (.int c'), .val (.long d), .second, .val (.ref b83), .val (.ref b84), .val (.int (q &&& (3 : Int32))), .unset, .unset, .unset, .unset, .unset, .unset, .unset, .unset, .unset, .unset, .unset, .unset, .unset, .unset]) rfl k) ?_
  show own_Go p e below _ T92 (mkF m 69 #[.val (.int a), .val (.long b), .second, s3, s4, s5, .val (.int q), .val (.int c'), .val (.long d), .second, .val (.ref b83), .val (.ref b84), .val (.int (q &&& (3 : Int32))), .unset, .unset, .unset, .unset, .unset, .unset, .unset, .unset, .unset, .unset, .unset, .unset, .unset, .unset] [])
  refine own_go (fun _ k => XS.iload X92.here hx rfl (hb hby at_69) rfl  k) ?_
  show own_Go p e below _ T92 (mkF m 71 #[.val (.int a), .val (.long b), .second, s3, s4, s5, .val (.int q), .val (.int c'), .val (.long d), .second, .val (.ref b83), .val (.ref b84), .val (.int (q &&& (3 : Int32))), .unset, .unset, .unset, .unset, .unset, .unset, .unset, .unset, .unset, .unset, .unset, .unset, .unset, .unset] [(.int q)])
  refine own_go (fun _ k => XS.iconst X92.here hx rfl (hb hby at_71) k) ?_
  show own_Go p e below _ T92 (mkF m 72 #[.val (.int a), .val (.long b), .second, s3, s4, s5, .val (.int q), .val (.int c'), .val (.long d), .second, .val (.ref b83), .val (.ref b84), .val (.int (q &&& (3 : Int32))), .unset, .unset, .unset, .unset, .unset, .unset, .unset, .unset, .unset, .unset, .unset, .unset, .unset, .unset] [(.int (2 : Int32)), (.int q)])
  refine own_go (fun _ k => XS.iushr X92.here hx rfl (hb hby at_72) rfl k) ?_
  show own_Go p e below _ T92 (mkF m 73 #[.val (.int a), .val (.long b), .second, s3, s4, s5, .val (.int q), .val (.int c'), .val (.long d), .second, .val (.ref b83), .val (.ref b84), .val (.int (q &&& (3 : Int32))), .unset, .unset, .unset, .unset, .unset, .unset, .unset, .unset, .unset, .unset, .unset, .unset, .unset, .unset] [(.int ((q.toUInt32 >>> ((2 : Int32) &&& 31).toUInt32).toInt32))])
  refine own_go (fun _ k => XS.iconst X92.here hx rfl (hb hby at_73) k) ?_
  show own_Go p e below _ T92 (mkF m 74 #[.val (.int a), .val (.long b), .second, s3, s4, s5, .val (.int q), .val (.int c'), .val (.long d), .second, .val (.ref b83), .val (.ref b84), .val (.int (q &&& (3 : Int32))), .unset, .unset, .unset, .unset, .unset, .unset, .unset, .unset, .unset, .unset, .unset, .unset, .unset, .unset] [(.int (3 : Int32)), (.int ((q.toUInt32 >>> ((2 : Int32) &&& 31).toUInt32).toInt32))])
  refine own_go (fun _ k => XS.iand X92.here hx rfl (hb hby at_74) rfl k) ?_
  show own_Go p e below _ T92 (mkF m 75 #[.val (.int a), .val (.long b), .second, s3, s4, s5, .val (.int q), .val (.int c'), .val (.long d), .second, .val (.ref b83), .val (.ref b84), .val (.int (q &&& (3 : Int32))), .unset, .unset, .unset, .unset, .unset, .unset, .unset, .unset, .unset, .unset, .unset, .unset, .unset, .unset] [(.int (((q.toUInt32 >>> ((2 : Int32) &&& 31).toUInt32).toInt32) &&& (3 : Int32)))])
  refine own_go (fun _ k => XS.istore X92.here hx rfl (hb hby at_75) rfl (l' := #[.val (.int a), .val (.long b), .second, s3, s4, s5, .val (.int q), .val (.int c'), .val (.long d), .second, .val (.ref b83), .val (.ref b84), .val (.int (q &&& (3 : Int32))), .val (.int (((q.toUInt32 >>> ((2 : Int32) &&& 31).toUInt32).toInt32) &&& (3 : Int32))), .unset, .unset, .unset, .unset, .unset, .unset, .unset, .unset, .unset, .unset, .unset, .unset, .unset]) rfl k) ?_
  show own_Go p e below _ T92 (mkF m 77 #[.val (.int a), .val (.long b), .second, s3, s4, s5, .val (.int q), .val (.int c'), .val (.long d), .second, .val (.ref b83), .val (.ref b84), .val (.int (q &&& (3 : Int32))), .val (.int (((q.toUInt32 >>> ((2 : Int32) &&& 31).toUInt32).toInt32) &&& (3 : Int32))), .unset, .unset, .unset, .unset, .unset, .unset, .unset, .unset, .unset, .unset, .unset, .unset, .unset] [])
  refine own_go (fun _ k => XS.aload X92.here hx rfl (hb hby at_77) rfl rfl k) ?_
  show own_Go p e below _ T92 (mkF m 79 #[.val (.int a), .val (.long b), .second, s3, s4, s5, .val (.int q), .val (.int c'), .val (.long d), .second, .val (.ref b83), .val (.ref b84), .val (.int (q &&& (3 : Int32))), .val (.int (((q.toUInt32 >>> ((2 : Int32) &&& 31).toUInt32).toInt32) &&& (3 : Int32))), .unset, .unset, .unset, .unset, .unset, .unset, .unset, .unset, .unset, .unset, .unset, .unset, .unset] [(.ref b83)])
  refine own_go (fun _ k => XS.iconst X92.here hx rfl (hb hby at_79) k) ?_
  show own_Go p e below _ T92 (mkF m 80 #[.val (.int a), .val (.long b), .second, s3, s4, s5, .val (.int q), .val (.int c'), .val (.long d), .second, .val (.ref b83), .val (.ref b84), .val (.int (q &&& (3 : Int32))), .val (.int (((q.toUInt32 >>> ((2 : Int32) &&& 31).toUInt32).toInt32) &&& (3 : Int32))), .unset, .unset, .unset, .unset, .unset, .unset, .unset, .unset, .unset, .unset, .unset, .unset, .unset] [(.int (2 : Int32)), (.ref b83)])
  refine own_go (fun _ k => XS.iload X92.here hx rfl (hb hby at_80) rfl  k) ?_
  show own_Go p e below _ T92 (mkF m 82 #[.val (.int a), .val (.long b), .second, s3, s4, s5, .val (.int q), .val (.int c'), .val (.long d), .second, .val (.ref b83), .val (.ref b84), .val (.int (q &&& (3 : Int32))), .val (.int (((q.toUInt32 >>> ((2 : Int32) &&& 31).toUInt32).toInt32) &&& (3 : Int32))), .unset, .unset, .unset, .unset, .unset, .unset, .unset, .unset, .unset, .unset, .unset, .unset, .unset] [(.int (q &&& (3 : Int32))), (.int (2 : Int32)), (.ref b83)])
  refine own_go (fun _ k => XS.iloadN X92.here hx rfl (hb hby at_82) rfl  k) ?_
  show own_Go p e below _ T92 (mkF m 83 #[.val (.int a), .val (.long b), .second, s3, s4, s5, .val (.int q), .val (.int c'), .val (.long d), .second, .val (.ref b83), .val (.ref b84), .val (.int (q &&& (3 : Int32))), .val (.int (((q.toUInt32 >>> ((2 : Int32) &&& 31).toUInt32).toInt32) &&& (3 : Int32))), .unset, .unset, .unset, .unset, .unset, .unset, .unset, .unset, .unset, .unset, .unset, .unset, .unset] [(.int a), (.int (q &&& (3 : Int32))), (.int (2 : Int32)), (.ref b83)])
  refine own_go (fun _ k => XS.iload X92.here hx rfl (hb hby at_83) rfl  k) ?_
  show own_Go p e below _ T92 (mkF m 85 #[.val (.int a), .val (.long b), .second, s3, s4, s5, .val (.int q), .val (.int c'), .val (.long d), .second, .val (.ref b83), .val (.ref b84), .val (.int (q &&& (3 : Int32))), .val (.int (((q.toUInt32 >>> ((2 : Int32) &&& 31).toUInt32).toInt32) &&& (3 : Int32))), .unset, .unset, .unset, .unset, .unset, .unset, .unset, .unset, .unset, .unset, .unset, .unset, .unset] [(.int c'), (.int a), (.int (q &&& (3 : Int32))), (.int (2 : Int32)), (.ref b83)])
  obtain ⟨T93, v93, L93, X93, q93, st93⟩ := own_callS X92 hx hZ hown (y := (⟨"com/example/window_payoff_solver/windowpayoffsolver/window/PairTableIndexPinLaw", "pickFirst", "(III)I"⟩ : MethodName)) (hw _ (List.mem_of_getElem? (i := 2) rfl)) (hw _ (List.mem_of_getElem? (i := 3) rfl)) (hw _ (List.mem_of_getElem? (i := 4) rfl)) (hw _ (List.mem_of_getElem? (i := 5) rfl)) (by decide) (rmPF l Z a0 hw [] (q &&& (3 : Int32)) a c' h92 n0 Z_92) (Ls := #[.val (.int a), .val (.long b), .second, s3, s4, s5, .val (.int q), .val (.int c'), .val (.long d), .second, .val (.ref b83), .val (.ref b84), .val (.int (q &&& (3 : Int32))), .val (.int (((q.toUInt32 >>> ((2 : Int32) &&& 31).toUInt32).toInt32) &&& (3 : Int32))), .unset, .unset, .unset, .unset, .unset, .unset, .unset, .unset, .unset, .unset, .unset, .unset, .unset]) (st := [(.int c'), (.int a), (.int (q &&& (3 : Int32))), (.int (2 : Int32)), (.ref b83)]) (W := 2) (by decide) (by decide) (by rw [hml]; rfl) (argsL := [(.int (q &&& (3 : Int32))), (.int a), (.int c')]) (rest := [(.int (2 : Int32)), (.ref b83)]) (lenOf pd_7 rfl) rfl rfl (Nat.le_of_eq rfl) (hb hby at_85) e92 (by decide) (by decide)
  obtain ⟨rfl, N93', e93⟩ := q93
  have N93 := Fr.app N92 N93'
  refine own_go st93 ?_
  show own_Go p e below _ T93 (mkF m 88 #[.val (.int a), .val (.long b), .second, s3, s4, s5, .val (.int q), .val (.int c'), .val (.long d), .second, .val (.ref b83), .val (.ref b84), .val (.int (q &&& (3 : Int32))), .val (.int (((q.toUInt32 >>> ((2 : Int32) &&& 31).toUInt32).toInt32) &&& (3 : Int32))), .unset, .unset, .unset, .unset, .unset, .unset, .unset, .unset, .unset, .unset, .unset, .unset, .unset] [(.int (own_pf (q &&& (3 : Int32)) a c')), (.int (2 : Int32)), (.ref b83)])
  obtain ⟨c_94, Ar_94, S_94, H_94⟩ := id F_92
  obtain ⟨T95, h95, X95, e95, W95, st95⟩ := stI X93 hx hZ e93 Ar_94 (j := (2 : Int32)) (inb_of S_94 ⟨by decide, by decide⟩) (g := (mkF m 88 #[.val (.int a), .val (.long b), .second, s3, s4, s5, .val (.int q), .val (.int c'), .val (.long d), .second, .val (.ref b83), .val (.ref b84), .val (.int (q &&& (3 : Int32))), .val (.int (((q.toUInt32 >>> ((2 : Int32) &&& 31).toUInt32).toInt32) &&& (3 : Int32))), .unset, .unset, .unset, .unset, .unset, .unset, .unset, .unset, .unset, .unset, .unset, .unset, .unset] [(.int (own_pf (q &&& (3 : Int32)) a c')), (.int (2 : Int32)), (.ref b83)])) rfl rfl (hb hby at_88)
  have N95 := Fr.snoc X95 N93 g10
  refine own_go st95 ?_
  show own_Go p e below _ T95 (mkF m 89 #[.val (.int a), .val (.long b), .second, s3, s4, s5, .val (.int q), .val (.int c'), .val (.long d), .second, .val (.ref b83), .val (.ref b84), .val (.int (q &&& (3 : Int32))), .val (.int (((q.toUInt32 >>> ((2 : Int32) &&& 31).toUInt32).toInt32) &&& (3 : Int32))), .unset, .unset, .unset, .unset, .unset, .unset, .unset, .unset, .unset, .unset, .unset, .unset, .unset] [])
  have F_95 := own_Af_push (x := (own_pf (q &&& (3 : Int32)) a c', own_ps (q &&& (3 : Int32)) b d)) Ar_94 S_94 H_94 W95 rfl
  have G_95 := own_As_other G_92 W95 (by omega)
  have Z_95 : n0 ≤ h95.size := by rw [W95.size]; exact Z_92
  refine own_go (fun _ k => XS.aload X95.here hx rfl (hb hby at_89) rfl rfl k) ?_
  show own_Go p e below _ T95 (mkF m 91 #[.val (.int a), .val (.long b), .second, s3, s4, s5, .val (.int q), .val (.int c'), .val (.long d), .second, .val (.ref b83), .val (.ref b84), .val (.int (q &&& (3 : Int32))), .val (.int (((q.toUInt32 >>> ((2 : Int32) &&& 31).toUInt32).toInt32) &&& (3 : Int32))), .unset, .unset, .unset, .unset, .unset, .unset, .unset, .unset, .unset, .unset, .unset, .unset, .unset] [(.ref b84)])
  refine own_go (fun _ k => XS.iconst X95.here hx rfl (hb hby at_91) k) ?_
  show own_Go p e below _ T95 (mkF m 92 #[.val (.int a), .val (.long b), .second, s3, s4, s5, .val (.int q), .val (.int c'), .val (.long d), .second, .val (.ref b83), .val (.ref b84), .val (.int (q &&& (3 : Int32))), .val (.int (((q.toUInt32 >>> ((2 : Int32) &&& 31).toUInt32).toInt32) &&& (3 : Int32))), .unset, .unset, .unset, .unset, .unset, .unset, .unset, .unset, .unset, .unset, .unset, .unset, .unset] [(.int (2 : Int32)), (.ref b84)])
  refine own_go (fun _ k => XS.iload X95.here hx rfl (hb hby at_92) rfl  k) ?_
  show own_Go p e below _ T95 (mkF m 94 #[.val (.int a), .val (.long b), .second, s3, s4, s5, .val (.int q), .val (.int c'), .val (.long d), .second, .val (.ref b83), .val (.ref b84), .val (.int (q &&& (3 : Int32))), .val (.int (((q.toUInt32 >>> ((2 : Int32) &&& 31).toUInt32).toInt32) &&& (3 : Int32))), .unset, .unset, .unset, .unset, .unset, .unset, .unset, .unset, .unset, .unset, .unset, .unset, .unset] [(.int (q &&& (3 : Int32))), (.int (2 : Int32)), (.ref b84)])
  refine own_go (fun _ k => XS.lloadN X95.here hx rfl (hb hby at_94) rfl  k) ?_
  show own_Go p e below _ T95 (mkF m 95 #[.val (.int a), .val (.long b), .second, s3, s4, s5, .val (.int q), .val (.int c'), .val (.long d), .second, .val (.ref b83), .val (.ref b84), .val (.int (q &&& (3 : Int32))), .val (.int (((q.toUInt32 >>> ((2 : Int32) &&& 31).toUInt32).toInt32) &&& (3 : Int32))), .unset, .unset, .unset, .unset, .unset, .unset, .unset, .unset, .unset, .unset, .unset, .unset, .unset] [(.long b), (.int (q &&& (3 : Int32))), (.int (2 : Int32)), (.ref b84)])
  refine own_go (fun _ k => XS.lload X95.here hx rfl (hb hby at_95) rfl  k) ?_
  show own_Go p e below _ T95 (mkF m 97 #[.val (.int a), .val (.long b), .second, s3, s4, s5, .val (.int q), .val (.int c'), .val (.long d), .second, .val (.ref b83), .val (.ref b84), .val (.int (q &&& (3 : Int32))), .val (.int (((q.toUInt32 >>> ((2 : Int32) &&& 31).toUInt32).toInt32) &&& (3 : Int32))), .unset, .unset, .unset, .unset, .unset, .unset, .unset, .unset, .unset, .unset, .unset, .unset, .unset] [(.long d), (.long b), (.int (q &&& (3 : Int32))), (.int (2 : Int32)), (.ref b84)])
  obtain ⟨T96, v96, L96, X96, q96, st96⟩ := own_callS X95 hx hZ hown (y := (⟨"com/example/window_payoff_solver/windowpayoffsolver/window/PairTableIndexPinLaw", "pickSecond", "(IJJ)J"⟩ : MethodName)) (hw _ (List.mem_of_getElem? (i := 6) rfl)) (hw _ (List.mem_of_getElem? (i := 7) rfl)) (hw _ (List.mem_of_getElem? (i := 4) rfl)) (hw _ (List.mem_of_getElem? (i := 8) rfl)) (by decide) (rmPS l Z a0 hw [] (q &&& (3 : Int32)) b d h95 n0 Z_95) (Ls := #[.val (.int a), .val (.long b), .second, s3, s4, s5, .val (.int q), .val (.int c'), .val (.long d), .second, .val (.ref b83), .val (.ref b84), .val (.int (q &&& (3 : Int32))), .val (.int (((q.toUInt32 >>> ((2 : Int32) &&& 31).toUInt32).toInt32) &&& (3 : Int32))), .unset, .unset, .unset, .unset, .unset, .unset, .unset, .unset, .unset, .unset, .unset, .unset, .unset]) (st := [(.long d), (.long b), (.int (q &&& (3 : Int32))), (.int (2 : Int32)), (.ref b84)]) (W := 2) (by decide) (by decide) (by rw [hml]; rfl) (argsL := [(.int (q &&& (3 : Int32))), (.long b), (.long d)]) (rest := [(.int (2 : Int32)), (.ref b84)]) (lenOf pd_8 rfl) rfl rfl (Nat.le_of_eq rfl) (hb hby at_97) e95 (by decide) (by decide)
  obtain ⟨rfl, N96', e96⟩ := q96
  have N96 := Fr.app N95 N96'
  refine own_go st96 ?_
  show own_Go p e below _ T96 (mkF m 100 #[.val (.int a), .val (.long b), .second, s3, s4, s5, .val (.int q), .val (.int c'), .val (.long d), .second, .val (.ref b83), .val (.ref b84), .val (.int (q &&& (3 : Int32))), .val (.int (((q.toUInt32 >>> ((2 : Int32) &&& 31).toUInt32).toInt32) &&& (3 : Int32))), .unset, .unset, .unset, .unset, .unset, .unset, .unset, .unset, .unset, .unset, .unset, .unset, .unset] [(.long (own_ps (q &&& (3 : Int32)) b d)), (.int (2 : Int32)), (.ref b84)])
  obtain ⟨c_97, Ar_97, S_97, H_97⟩ := id G_95
  obtain ⟨T98, h98, X98, e98, W98, st98⟩ := stJ X96 hx hZ e96 Ar_97 (j := (2 : Int32)) (inb_of S_97 ⟨by decide, by decide⟩) (g := (mkF m 100 #[.val (.int a), .val (.long b), .second, s3, s4, s5, .val (.int q), .val (.int c'), .val (.long d), .second, .val (.ref b83), .val (.ref b84), .val (.int (q &&& (3 : Int32))), .val (.int (((q.toUInt32 >>> ((2 : Int32) &&& 31).toUInt32).toInt32) &&& (3 : Int32))), .unset, .unset, .unset, .unset, .unset, .unset, .unset, .unset, .unset, .unset, .unset, .unset, .unset] [(.long (own_ps (q &&& (3 : Int32)) b d)), (.int (2 : Int32)), (.ref b84)])) rfl rfl (hb hby at_100)
  have N98 := Fr.snoc X98 N96 g11
  refine own_go st98 ?_
  show own_Go p e below _ T98 (mkF m 101 #[.val (.int a), .val (.long b), .second, s3, s4, s5, .val (.int q), .val (.int c'), .val (.long d), .second, .val (.ref b83), .val (.ref b84), .val (.int (q &&& (3 : Int32))), .val (.int (((q.toUInt32 >>> ((2 : Int32) &&& 31).toUInt32).toInt32) &&& (3 : Int32))), .unset, .unset, .unset, .unset, .unset, .unset, .unset, .unset, .unset, .unset, .unset, .unset, .unset] [])
  have G_98 := own_As_push (x := (own_pf (q &&& (3 : Int32)) a c', own_ps (q &&& (3 : Int32)) b d)) Ar_97 S_97 H_97 W98 rfl
  have F_98 := own_Af_other F_95 W98 (by omega)
  have Z_98 : n0 ≤ h98.size := by rw [W98.size]; exact Z_95
  refine own_go (fun _ k => XS.aload X98.here hx rfl (hb hby at_101) rfl rfl k) ?_
  show own_Go p e below _ T98 (mkF m 103 #[.val (.int a), .val (.long b), .second, s3, s4, s5, .val (.int q), .val (.int c'), .val (.long d), .second, .val (.ref b83), .val (.ref b84), .val (.int (q &&& (3 : Int32))), .val (.int (((q.toUInt32 >>> ((2 : Int32) &&& 31).toUInt32).toInt32) &&& (3 : Int32))), .unset, .unset, .unset, .unset, .unset, .unset, .unset, .unset, .unset, .unset, .unset, .unset, .unset] [(.ref b83)])
  refine own_go (fun _ k => XS.iconst X98.here hx rfl (hb hby at_103) k) ?_
  show own_Go p e below _ T98 (mkF m 104 #[.val (.int a), .val (.long b), .second, s3, s4, s5, .val (.int q), .val (.int c'), .val (.long d), .second, .val (.ref b83), .val (.ref b84), .val (.int (q &&& (3 : Int32))), .val (.int (((q.toUInt32 >>> ((2 : Int32) &&& 31).toUInt32).toInt32) &&& (3 : Int32))), .unset, .unset, .unset, .unset, .unset, .unset, .unset, .unset, .unset, .unset, .unset, .unset, .unset] [(.int (3 : Int32)), (.ref b83)])
  refine own_go (fun _ k => XS.iload X98.here hx rfl (hb hby at_104) rfl  k) ?_
  show own_Go p e below _ T98 (mkF m 106 #[.val (.int a), .val (.long b), .second, s3, s4, s5, .val (.int q), .val (.int c'), .val (.long d), .second, .val (.ref b83), .val (.ref b84), .val (.int (q &&& (3 : Int32))), .val (.int (((q.toUInt32 >>> ((2 : Int32) &&& 31).toUInt32).toInt32) &&& (3 : Int32))), .unset, .unset, .unset, .unset, .unset, .unset, .unset, .unset, .unset, .unset, .unset, .unset, .unset] [(.int (((q.toUInt32 >>> ((2 : Int32) &&& 31).toUInt32).toInt32) &&& (3 : Int32))), (.int (3 : Int32)), (.ref b83)])
  refine own_go (fun _ k => XS.iloadN X98.here hx rfl (hb hby at_106) rfl  k) ?_
  show own_Go p e below _ T98 (mkF m 107 #[.val (.int a), .val (.long b), .second, s3, s4, s5, .val (.int q), .val (.int c'), .val (.long d), .second, .val (.ref b83), .val (.ref b84), .val (.int (q &&& (3 : Int32))), .val (.int (((q.toUInt32 >>> ((2 : Int32) &&& 31).toUInt32).toInt32) &&& (3 : Int32))), .unset, .unset, .unset, .unset, .unset, .unset, .unset, .unset, .unset, .unset, .unset, .unset, .unset] [(.int a), (.int (((q.toUInt32 >>> ((2 : Int32) &&& 31).toUInt32).toInt32) &&& (3 : Int32))), (.int (3 : Int32)), (.ref b83)])
  refine own_go (fun _ k => XS.iload X98.here hx rfl (hb hby at_107) rfl  k) ?_
  show own_Go p e below _ T98 (mkF m 109 #[.val (.int a), .val (.long b), .second, s3, s4, s5, .val (.int q), .val (.int c'), .val (.long d), .second, .val (.ref b83), .val (.ref b84), .val (.int (q &&& (3 : Int32))), .val (.int (((q.toUInt32 >>> ((2 : Int32) &&& 31).toUInt32).toInt32) &&& (3 : Int32))), .unset, .unset, .unset, .unset, .unset, .unset, .unset, .unset, .unset, .unset, .unset, .unset, .unset] [(.int c'), (.int a), (.int (((q.toUInt32 >>> ((2 : Int32) &&& 31).toUInt32).toInt32) &&& (3 : Int32))), (.int (3 : Int32)), (.ref b83)])
  obtain ⟨T99, v99, L99, X99, q99, st99⟩ := own_callS X98 hx hZ hown (y := (⟨"com/example/window_payoff_solver/windowpayoffsolver/window/PairTableIndexPinLaw", "pickFirst", "(III)I"⟩ : MethodName)) (hw _ (List.mem_of_getElem? (i := 2) rfl)) (hw _ (List.mem_of_getElem? (i := 3) rfl)) (hw _ (List.mem_of_getElem? (i := 4) rfl)) (hw _ (List.mem_of_getElem? (i := 5) rfl)) (by decide) (rmPF l Z a0 hw [] (((q.toUInt32 >>> ((2 : Int32) &&& 31).toUInt32).toInt32) &&& (3 : Int32)) a c' h98 n0 Z_98) (Ls := #[.val (.int a), .val (.long b), .second, s3, s4, s5, .val (.int q), .val (.int c'), .val (.long d), .second, .val (.ref b83), .val (.ref b84), .val (.int (q &&& (3 : Int32))), .val (.int (((q.toUInt32 >>> ((2 : Int32) &&& 31).toUInt32).toInt32) &&& (3 : Int32))), .unset, .unset, .unset, .unset, .unset, .unset, .unset, .unset, .unset, .unset, .unset, .unset, .unset]) (st := [(.int c'), (.int a), (.int (((q.toUInt32 >>> ((2 : Int32) &&& 31).toUInt32).toInt32) &&& (3 : Int32))), (.int (3 : Int32)), (.ref b83)]) (W := 2) (by decide) (by decide) (by rw [hml]; rfl) (argsL := [(.int (((q.toUInt32 >>> ((2 : Int32) &&& 31).toUInt32).toInt32) &&& (3 : Int32))), (.int a), (.int c')]) (rest := [(.int (3 : Int32)), (.ref b83)]) (lenOf pd_7 rfl) rfl rfl (Nat.le_of_eq rfl) (hb hby at_109) e98 (by decide) (by decide)
  obtain ⟨rfl, N99', e99⟩ := q99
  have N99 := Fr.app N98 N99'
  refine own_go st99 ?_
  show own_Go p e below _ T99 (mkF m 112 #[.val (.int a), .val (.long b), .second, s3, s4, s5, .val (.int q), .val (.int c'), .val (.long d), .second, .val (.ref b83), .val (.ref b84), .val (.int (q &&& (3 : Int32))), .val (.int (((q.toUInt32 >>> ((2 : Int32) &&& 31).toUInt32).toInt32) &&& (3 : Int32))), .unset, .unset, .unset, .unset, .unset, .unset, .unset, .unset, .unset, .unset, .unset, .unset, .unset] [(.int (own_pf (((q.toUInt32 >>> ((2 : Int32) &&& 31).toUInt32).toInt32) &&& (3 : Int32)) a c')), (.int (3 : Int32)), (.ref b83)])
  obtain ⟨c_100, Ar_100, S_100, H_100⟩ := id F_98
  obtain ⟨T101, h101, X101, e101, W101, st101⟩ := stI X99 hx hZ e99 Ar_100 (j := (3 : Int32)) (inb_of S_100 ⟨by decide, by decide⟩) (g := (mkF m 112 #[.val (.int a), .val (.long b), .second, s3, s4, s5, .val (.int q), .val (.int c'), .val (.long d), .second, .val (.ref b83), .val (.ref b84), .val (.int (q &&& (3 : Int32))), .val (.int (((q.toUInt32 >>> ((2 : Int32) &&& 31).toUInt32).toInt32) &&& (3 : Int32))), .unset, .unset, .unset, .unset, .unset, .unset, .unset, .unset, .unset, .unset, .unset, .unset, .unset] [(.int (own_pf (((q.toUInt32 >>> ((2 : Int32) &&& 31).toUInt32).toInt32) &&& (3 : Int32)) a c')), (.int (3 : Int32)), (.ref b83)])) rfl rfl (hb hby at_112)
  have N101 := Fr.snoc X101 N99 g10
  refine own_go st101 ?_
  show own_Go p e below _ T101 (mkF m 113 #[.val (.int a), .val (.long b), .second, s3, s4, s5, .val (.int q), .val (.int c'), .val (.long d), .second, .val (.ref b83), .val (.ref b84), .val (.int (q &&& (3 : Int32))), .val (.int (((q.toUInt32 >>> ((2 : Int32) &&& 31).toUInt32).toInt32) &&& (3 : Int32))), .unset, .unset, .unset, .unset, .unset, .unset, .unset, .unset, .unset, .unset, .unset, .unset, .unset] [])
  have F_101 := own_Af_push (x := (own_pf (((q.toUInt32 >>> ((2 : Int32) &&& 31).toUInt32).toInt32) &&& (3 : Int32)) a c', own_ps (((q.toUInt32 >>> ((2 : Int32) &&& 31).toUInt32).toInt32) &&& (3 : Int32)) b d)) Ar_100 S_100 H_100 W101 rfl
  have G_101 := own_As_other G_98 W101 (by omega)
  have Z_101 : n0 ≤ h101.size := by rw [W101.size]; exact Z_98
  refine own_go (fun _ k => XS.aload X101.here hx rfl (hb hby at_113) rfl rfl k) ?_
  show own_Go p e below _ T101 (mkF m 115 #[.val (.int a), .val (.long b), .second, s3, s4, s5, .val (.int q), .val (.int c'), .val (.long d), .second, .val (.ref b83), .val (.ref b84), .val (.int (q &&& (3 : Int32))), .val (.int (((q.toUInt32 >>> ((2 : Int32) &&& 31).toUInt32).toInt32) &&& (3 : Int32))), .unset, .unset, .unset, .unset, .unset, .unset, .unset, .unset, .unset, .unset, .unset, .unset, .unset] [(.ref b84)])
  refine own_go (fun _ k => XS.iconst X101.here hx rfl (hb hby at_115) k) ?_
  show own_Go p e below _ T101 (mkF m 116 #[.val (.int a), .val (.long b), .second, s3, s4, s5, .val (.int q), .val (.int c'), .val (.long d), .second, .val (.ref b83), .val (.ref b84), .val (.int (q &&& (3 : Int32))), .val (.int (((q.toUInt32 >>> ((2 : Int32) &&& 31).toUInt32).toInt32) &&& (3 : Int32))), .unset, .unset, .unset, .unset, .unset, .unset, .unset, .unset, .unset, .unset, .unset, .unset, .unset] [(.int (3 : Int32)), (.ref b84)])
  refine own_go (fun _ k => XS.iload X101.here hx rfl (hb hby at_116) rfl  k) ?_
  show own_Go p e below _ T101 (mkF m 118 #[.val (.int a), .val (.long b), .second, s3, s4, s5, .val (.int q), .val (.int c'), .val (.long d), .second, .val (.ref b83), .val (.ref b84), .val (.int (q &&& (3 : Int32))), .val (.int (((q.toUInt32 >>> ((2 : Int32) &&& 31).toUInt32).toInt32) &&& (3 : Int32))), .unset, .unset, .unset, .unset, .unset, .unset, .unset, .unset, .unset, .unset, .unset, .unset, .unset] [(.int (((q.toUInt32 >>> ((2 : Int32) &&& 31).toUInt32).toInt32) &&& (3 : Int32))), (.int (3 : Int32)), (.ref b84)])
  refine own_go (fun _ k => XS.lloadN X101.here hx rfl (hb hby at_118) rfl  k) ?_
  show own_Go p e below _ T101 (mkF m 119 #[.val (.int a), .val (.long b), .second, s3, s4, s5, .val (.int q), .val (.int c'), .val (.long d), .second, .val (.ref b83), .val (.ref b84), .val (.int (q &&& (3 : Int32))), .val (.int (((q.toUInt32 >>> ((2 : Int32) &&& 31).toUInt32).toInt32) &&& (3 : Int32))), .unset, .unset, .unset, .unset, .unset, .unset, .unset, .unset, .unset, .unset, .unset, .unset, .unset] [(.long b), (.int (((q.toUInt32 >>> ((2 : Int32) &&& 31).toUInt32).toInt32) &&& (3 : Int32))), (.int (3 : Int32)), (.ref b84)])
  refine own_go (fun _ k => XS.lload X101.here hx rfl (hb hby at_119) rfl  k) ?_
  show own_Go p e below _ T101 (mkF m 121 #[.val (.int a), .val (.long b), .second, s3, s4, s5, .val (.int q), .val (.int c'), .val (.long d), .second, .val (.ref b83), .val (.ref b84), .val (.int (q &&& (3 : Int32))), .val (.int (((q.toUInt32 >>> ((2 : Int32) &&& 31).toUInt32).toInt32) &&& (3 : Int32))), .unset, .unset, .unset, .unset, .unset, .unset, .unset, .unset, .unset, .unset, .unset, .unset, .unset] [(.long d), (.long b), (.int (((q.toUInt32 >>> ((2 : Int32) &&& 31).toUInt32).toInt32) &&& (3 : Int32))), (.int (3 : Int32)), (.ref b84)])
  obtain ⟨T102, v102, L102, X102, q102, st102⟩ := own_callS X101 hx hZ hown (y := (⟨"com/example/window_payoff_solver/windowpayoffsolver/window/PairTableIndexPinLaw", "pickSecond", "(IJJ)J"⟩ : MethodName)) (hw _ (List.mem_of_getElem? (i := 6) rfl)) (hw _ (List.mem_of_getElem? (i := 7) rfl)) (hw _ (List.mem_of_getElem? (i := 4) rfl)) (hw _ (List.mem_of_getElem? (i := 8) rfl)) (by decide) (rmPS l Z a0 hw [] (((q.toUInt32 >>> ((2 : Int32) &&& 31).toUInt32).toInt32) &&& (3 : Int32)) b d h101 n0 Z_101) (Ls := #[.val (.int a), .val (.long b), .second, s3, s4, s5, .val (.int q), .val (.int c'), .val (.long d), .second, .val (.ref b83), .val (.ref b84), .val (.int (q &&& (3 : Int32))), .val (.int (((q.toUInt32 >>> ((2 : Int32) &&& 31).toUInt32).toInt32) &&& (3 : Int32))), .unset, .unset, .unset, .unset, .unset, .unset, .unset, .unset, .unset, .unset, .unset, .unset, .unset]) (st := [(.long d), (.long b), (.int (((q.toUInt32 >>> ((2 : Int32) &&& 31).toUInt32).toInt32) &&& (3 : Int32))), (.int (3 : Int32)), (.ref b84)]) (W := 2) (by decide) (by decide) (by rw [hml]; rfl) (argsL := [(.int (((q.toUInt32 >>> ((2 : Int32) &&& 31).toUInt32).toInt32) &&& (3 : Int32))), (.long b), (.long d)]) (rest := [(.int (3 : Int32)), (.ref b84)]) (lenOf pd_8 rfl) rfl rfl (Nat.le_of_eq rfl) (hb hby at_121) e101 (by decide) (by decide)
  obtain ⟨rfl, N102', e102⟩ := q102
  have N102 := Fr.app N101 N102'
  refine own_go st102 ?_
  show own_Go p e below _ T102 (mkF m 124 #[.val (.int a), .val (.long b), .second, s3, s4, s5, .val (.int q), .val (.int c'), .val (.long d), .second, .val (.ref b83), .val (.ref b84), .val (.int (q &&& (3 : Int32))), .val (.int (((q.toUInt32 >>> ((2 : Int32) &&& 31).toUInt32).toInt32) &&& (3 : Int32))), .unset, .unset, .unset, .unset, .unset, .unset, .unset, .unset, .unset, .unset, .unset, .unset, .unset] [(.long (own_ps (((q.toUInt32 >>> ((2 : Int32) &&& 31).toUInt32).toInt32) &&& (3 : Int32)) b d)), (.int (3 : Int32)), (.ref b84)])
  obtain ⟨c_103, Ar_103, S_103, H_103⟩ := id G_101
  obtain ⟨T104, h104, X104, e104, W104, st104⟩ := stJ X102 hx hZ e102 Ar_103 (j := (3 : Int32)) (inb_of S_103 ⟨by decide, by decide⟩) (g := (mkF m 124 #[.val (.int a), .val (.long b), .second, s3, s4, s5, .val (.int q), .val (.int c'), .val (.long d), .second, .val (.ref b83), .val (.ref b84), .val (.int (q &&& (3 : Int32))), .val (.int (((q.toUInt32 >>> ((2 : Int32) &&& 31).toUInt32).toInt32) &&& (3 : Int32))), .unset, .unset, .unset, .unset, .unset, .unset, .unset, .unset, .unset, .unset, .unset, .unset, .unset] [(.long (own_ps (((q.toUInt32 >>> ((2 : Int32) &&& 31).toUInt32).toInt32) &&& (3 : Int32)) b d)), (.int (3 : Int32)), (.ref b84)])) rfl rfl (hb hby at_124)
  have N104 := Fr.snoc X104 N102 g11
  refine own_go st104 ?_
  show own_Go p e below _ T104 (mkF m 125 #[.val (.int a), .val (.long b), .second, s3, s4, s5, .val (.int q), .val (.int c'), .val (.long d), .second, .val (.ref b83), .val (.ref b84), .val (.int (q &&& (3 : Int32))), .val (.int (((q.toUInt32 >>> ((2 : Int32) &&& 31).toUInt32).toInt32) &&& (3 : Int32))), .unset, .unset, .unset, .unset, .unset, .unset, .unset, .unset, .unset, .unset, .unset, .unset, .unset] [])
  have G_104 := own_As_push (x := (own_pf (((q.toUInt32 >>> ((2 : Int32) &&& 31).toUInt32).toInt32) &&& (3 : Int32)) a c', own_ps (((q.toUInt32 >>> ((2 : Int32) &&& 31).toUInt32).toInt32) &&& (3 : Int32)) b d)) Ar_103 S_103 H_103 W104 rfl
  have F_104 := own_Af_other F_101 W104 (by omega)
  have Z_104 : n0 ≤ h104.size := by rw [W104.size]; exact Z_101
  refine own_go (fun _ k => XS.iconst X104.here hx rfl (hb hby at_125) k) ?_
  show own_Go p e below _ T104 (mkF m 126 #[.val (.int a), .val (.long b), .second, s3, s4, s5, .val (.int q), .val (.int c'), .val (.long d), .second, .val (.ref b83), .val (.ref b84), .val (.int (q &&& (3 : Int32))), .val (.int (((q.toUInt32 >>> ((2 : Int32) &&& 31).toUInt32).toInt32) &&& (3 : Int32))), .unset, .unset, .unset, .unset, .unset, .unset, .unset, .unset, .unset, .unset, .unset, .unset, .unset] [(.int (4 : Int32))])
  obtain ⟨T105, h105, k105, X105, e105, E105, A105, st105⟩ := newP X104 hx hZ (hw _ (List.mem_of_getElem? (i := 0) rfl)) e104 (g := (mkF m 126 #[.val (.int a), .val (.long b), .second, s3, s4, s5, .val (.int q), .val (.int c'), .val (.long d), .second, .val (.ref b83), .val (.ref b84), .val (.int (q &&& (3 : Int32))), .val (.int (((q.toUInt32 >>> ((2 : Int32) &&& 31).toUInt32).toInt32) &&& (3 : Int32))), .unset, .unset, .unset, .unset, .unset, .unset, .unset, .unset, .unset, .unset, .unset, .unset, .unset] [(.int (4 : Int32))])) rfl (hb hby at_126) rfl (by decide) (cap := 4) (by decide) (by decide) (by decide) (by decide)
  obtain ⟨b105, g105⟩ : ∃ z, z = h104.size := ⟨_, rfl⟩
  rw [← g105] at A105 st105
  refine own_go st105 ?_
  show own_Go p e below _ T105 (mkF m 128 #[.val (.int a), .val (.long b), .second, s3, s4, s5, .val (.int q), .val (.int c'), .val (.long d), .second, .val (.ref b83), .val (.ref b84), .val (.int (q &&& (3 : Int32))), .val (.int (((q.toUInt32 >>> ((2 : Int32) &&& 31).toUInt32).toInt32) &&& (3 : Int32))), .unset, .unset, .unset, .unset, .unset, .unset, .unset, .unset, .unset, .unset, .unset, .unset, .unset] [(.ref b105)])
  have o2 : b84 < b105 := by rw [g105]; exact own_As_lt G_104
  have g14 : n0 ≤ b105 := Nat.le_trans Z_104 (Nat.le_of_eq g105.symm)
  have Zs3 := Nat.le_trans Z_104 E105.1
  have U_0 := own_Af_new (N := 4) A105
  have F_2 := own_Af_ext F_104 E105
  have G_2 := own_As_ext G_104 E105
  refine own_go (fun _ k => XS.astore X105.here hx rfl (hb hby at_128) rfl rfl (l' := #[.val (.int a), .val (.long b), .second, s3, s4, s5, .val (.int q), .val (.int c'), .val (.long d), .second, .val (.ref b83), .val (.ref b84), .val (.int (q &&& (3 : Int32))), .val (.int (((q.toUInt32 >>> ((2 : Int32) &&& 31).toUInt32).toInt32) &&& (3 : Int32))), .val (.ref b105), .unset, .unset, .unset, .unset, .unset, .unset, .unset, .unset, .unset, .unset, .unset, .unset]) rfl k) ?_
  show own_Go p e below _ T105 (mkF m 130 #[.val (.int a), .val (.long b), .second, s3, s4, s5, .val (.int q), .val (.int c'), .val (.long d), .second, .val (.ref b83), .val (.ref b84), .val (.int (q &&& (3 : Int32))), .val (.int (((q.toUInt32 >>> ((2 : Int32) &&& 31).toUInt32).toInt32) &&& (3 : Int32))), .val (.ref b105), .unset, .unset, .unset, .unset, .unset, .unset, .unset, .unset, .unset, .unset, .unset, .unset] [])
  refine own_go (fun _ k => XS.iconst X105.here hx rfl (hb hby at_130) k) ?_
  show own_Go p e below _ T105 (mkF m 131 #[.val (.int a), .val (.long b), .second, s3, s4, s5, .val (.int q), .val (.int c'), .val (.long d), .second, .val (.ref b83), .val (.ref b84), .val (.int (q &&& (3 : Int32))), .val (.int (((q.toUInt32 >>> ((2 : Int32) &&& 31).toUInt32).toInt32) &&& (3 : Int32))), .val (.ref b105), .unset, .unset, .unset, .unset, .unset, .unset, .unset, .unset, .unset, .unset, .unset, .unset] [(.int (4 : Int32))])
  obtain ⟨T106, h106, k106, X106, e106, E106, A106, st106⟩ := newP X105 hx hZ (hw _ (List.mem_of_getElem? (i := 1) rfl)) e105 (g := (mkF m 131 #[.val (.int a), .val (.long b), .second, s3, s4, s5, .val (.int q), .val (.int c'), .val (.long d), .second, .val (.ref b83), .val (.ref b84), .val (.int (q &&& (3 : Int32))), .val (.int (((q.toUInt32 >>> ((2 : Int32) &&& 31).toUInt32).toInt32) &&& (3 : Int32))), .val (.ref b105), .unset, .unset, .unset, .unset, .unset, .unset, .unset, .unset, .unset, .unset, .unset, .unset] [(.int (4 : Int32))])) rfl (hb hby at_131) rfl (by decide) (cap := 4) (by decide) (by decide) (by decide) (by decide)
  obtain ⟨b106, g106⟩ : ∃ z, z = h105.size := ⟨_, rfl⟩
  rw [← g106] at A106 st106
  refine own_go st106 ?_
  show own_Go p e below _ T106 (mkF m 133 #[.val (.int a), .val (.long b), .second, s3, s4, s5, .val (.int q), .val (.int c'), .val (.long d), .second, .val (.ref b83), .val (.ref b84), .val (.int (q &&& (3 : Int32))), .val (.int (((q.toUInt32 >>> ((2 : Int32) &&& 31).toUInt32).toInt32) &&& (3 : Int32))), .val (.ref b105), .unset, .unset, .unset, .unset, .unset, .unset, .unset, .unset, .unset, .unset, .unset, .unset] [(.ref b106)])
  have o3 : b105 < b106 := by rw [g106]; exact own_Af_lt U_0
  have g15 : n0 ≤ b106 := Nat.le_trans Zs3 (Nat.le_of_eq g106.symm)
  have Zs4 := Nat.le_trans Zs3 E106.1
  have T_0 := own_As_new (N := 4) A106
  have F_3 := own_Af_ext F_2 E106
  have G_3 := own_As_ext G_2 E106
  have U_1 := own_Af_ext U_0 E106
  refine own_go (fun _ k => XS.astore X106.here hx rfl (hb hby at_133) rfl rfl (l' := #[.val (.int a), .val (.long b), .second, s3, s4, s5, .val (.int q), .val (.int c'), .val (.long d), .second, .val (.ref b83), .val (.ref b84), .val (.int (q &&& (3 : Int32))), .val (.int (((q.toUInt32 >>> ((2 : Int32) &&& 31).toUInt32).toInt32) &&& (3 : Int32))), .val (.ref b105), .val (.ref b106), .unset, .unset, .unset, .unset, .unset, .unset, .unset, .unset, .unset, .unset, .unset]) rfl k) ?_
  show own_Go p e below _ T106 (mkF m 135 #[.val (.int a), .val (.long b), .second, s3, s4, s5, .val (.int q), .val (.int c'), .val (.long d), .second, .val (.ref b83), .val (.ref b84), .val (.int (q &&& (3 : Int32))), .val (.int (((q.toUInt32 >>> ((2 : Int32) &&& 31).toUInt32).toInt32) &&& (3 : Int32))), .val (.ref b105), .val (.ref b106), .unset, .unset, .unset, .unset, .unset, .unset, .unset, .unset, .unset, .unset, .unset] [])
  refine own_go (fun _ k => XS.iconst X106.here hx rfl (hb hby at_135) k) ?_
  show own_Go p e below _ T106 (mkF m 136 #[.val (.int a), .val (.long b), .second, s3, s4, s5, .val (.int q), .val (.int c'), .val (.long d), .second, .val (.ref b83), .val (.ref b84), .val (.int (q &&& (3 : Int32))), .val (.int (((q.toUInt32 >>> ((2 : Int32) &&& 31).toUInt32).toInt32) &&& (3 : Int32))), .val (.ref b105), .val (.ref b106), .unset, .unset, .unset, .unset, .unset, .unset, .unset, .unset, .unset, .unset, .unset] [(.int (0 : Int32))])
  refine own_go (fun _ k => XS.istore X106.here hx rfl (hb hby at_136) rfl (l' := #[.val (.int a), .val (.long b), .second, s3, s4, s5, .val (.int q), .val (.int c'), .val (.long d), .second, .val (.ref b83), .val (.ref b84), .val (.int (q &&& (3 : Int32))), .val (.int (((q.toUInt32 >>> ((2 : Int32) &&& 31).toUInt32).toInt32) &&& (3 : Int32))), .val (.ref b105), .val (.ref b106), .val (.int (0 : Int32)), .unset, .unset, .unset, .unset, .unset, .unset, .unset, .unset, .unset, .unset]) rfl k) ?_
  show own_Go p e below _ T106 (mkF m 138 #[.val (.int a), .val (.long b), .second, s3, s4, s5, .val (.int q), .val (.int c'), .val (.long d), .second, .val (.ref b83), .val (.ref b84), .val (.int (q &&& (3 : Int32))), .val (.int (((q.toUInt32 >>> ((2 : Int32) &&& 31).toUInt32).toInt32) &&& (3 : Int32))), .val (.ref b105), .val (.ref b106), .val (.int (0 : Int32)), .unset, .unset, .unset, .unset, .unset, .unset, .unset, .unset, .unset, .unset] [])
  refine own_go (fun _ k => XS.iload X106.here hx rfl (hb hby at_138) rfl  k) ?_
  show own_Go p e below _ T106 (mkF m 140 #[.val (.int a), .val (.long b), .second, s3, s4, s5, .val (.int q), .val (.int c'), .val (.long d), .second, .val (.ref b83), .val (.ref b84), .val (.int (q &&& (3 : Int32))), .val (.int (((q.toUInt32 >>> ((2 : Int32) &&& 31).toUInt32).toInt32) &&& (3 : Int32))), .val (.ref b105), .val (.ref b106), .val (.int (0 : Int32)), .unset, .unset, .unset, .unset, .unset, .unset, .unset, .unset, .unset, .unset] [(.int (0 : Int32))])
  refine own_go (fun _ k => XS.istore X106.here hx rfl (hb hby at_140) rfl (l' := #[.val (.int a), .val (.long b), .second, s3, s4, s5, .val (.int q), .val (.int c'), .val (.long d), .second, .val (.ref b83), .val (.ref b84), .val (.int (q &&& (3 : Int32))), .val (.int (((q.toUInt32 >>> ((2 : Int32) &&& 31).toUInt32).toInt32) &&& (3 : Int32))), .val (.ref b105), .val (.ref b106), .val (.int (0 : Int32)), .val (.int (0 : Int32)), .unset, .unset, .unset, .unset, .unset, .unset, .unset, .unset, .unset]) rfl k) ?_
  show own_Go p e below _ T106 (mkF m 142 #[.val (.int a), .val (.long b), .second, s3, s4, s5, .val (.int q), .val (.int c'), .val (.long d), .second, .val (.ref b83), .val (.ref b84), .val (.int (q &&& (3 : Int32))), .val (.int (((q.toUInt32 >>> ((2 : Int32) &&& 31).toUInt32).toInt32) &&& (3 : Int32))), .val (.ref b105), .val (.ref b106), .val (.int (0 : Int32)), .val (.int (0 : Int32)), .unset, .unset, .unset, .unset, .unset, .unset, .unset, .unset, .unset] [])
  refine own_go (fun _ k => XS.aload X106.here hx rfl (hb hby at_142) rfl rfl k) ?_
  show own_Go p e below _ T106 (mkF m 144 #[.val (.int a), .val (.long b), .second, s3, s4, s5, .val (.int q), .val (.int c'), .val (.long d), .second, .val (.ref b83), .val (.ref b84), .val (.int (q &&& (3 : Int32))), .val (.int (((q.toUInt32 >>> ((2 : Int32) &&& 31).toUInt32).toInt32) &&& (3 : Int32))), .val (.ref b105), .val (.ref b106), .val (.int (0 : Int32)), .val (.int (0 : Int32)), .unset, .unset, .unset, .unset, .unset, .unset, .unset, .unset, .unset] [(.ref b105)])
  refine own_go (fun _ k => XS.iload X106.here hx rfl (hb hby at_144) rfl  k) ?_
  show own_Go p e below _ T106 (mkF m 146 #[.val (.int a), .val (.long b), .second, s3, s4, s5, .val (.int q), .val (.int c'), .val (.long d), .second, .val (.ref b83), .val (.ref b84), .val (.int (q &&& (3 : Int32))), .val (.int (((q.toUInt32 >>> ((2 : Int32) &&& 31).toUInt32).toInt32) &&& (3 : Int32))), .val (.ref b105), .val (.ref b106), .val (.int (0 : Int32)), .val (.int (0 : Int32)), .unset, .unset, .unset, .unset, .unset, .unset, .unset, .unset, .unset] [(.int (0 : Int32)), (.ref b105)])
  refine own_go (fun _ k => XS.aload X106.here hx rfl (hb hby at_146) rfl rfl k) ?_
  show own_Go p e below _ T106 (mkF m 148 #[.val (.int a), .val (.long b), .second, s3, s4, s5, .val (.int q), .val (.int c'), .val (.long d), .second, .val (.ref b83), .val (.ref b84), .val (.int (q &&& (3 : Int32))), .val (.int (((q.toUInt32 >>> ((2 : Int32) &&& 31).toUInt32).toInt32) &&& (3 : Int32))), .val (.ref b105), .val (.ref b106), .val (.int (0 : Int32)), .val (.int (0 : Int32)), .unset, .unset, .unset, .unset, .unset, .unset, .unset, .unset, .unset] [(.ref b83), (.int (0 : Int32)), (.ref b105)])
  refine own_go (fun _ k => XS.iconst X106.here hx rfl (hb hby at_148) k) ?_
  show own_Go p e below _ T106 (mkF m 149 #[.val (.int a), .val (.long b), .second, s3, s4, s5, .val (.int q), .val (.int c'), .val (.long d), .second, .val (.ref b83), .val (.ref b84), .val (.int (q &&& (3 : Int32))), .val (.int (((q.toUInt32 >>> ((2 : Int32) &&& 31).toUInt32).toInt32) &&& (3 : Int32))), .val (.ref b105), .val (.ref b106), .val (.int (0 : Int32)), .val (.int (0 : Int32)), .unset, .unset, .unset, .unset, .unset, .unset, .unset, .unset, .unset] [(.int (0 : Int32)), (.ref b83), (.int (0 : Int32)), (.ref b105)])
  obtain ⟨c_107, Ar_107, S_107, H_107⟩ := id F_3
  refine own_go (fun _ k => X106.iaload hx (j := (0 : Int32)) (v := (.int a)) (by rw [e106]; exact Ar_107.1) (State.isArrayOf_alike hZ.alike Ar_107.2.1) Ar_107.2.2 (inb_of S_107 ⟨by decide, by decide⟩) (H_107 0 _ rfl) (g := (mkF m 149 #[.val (.int a), .val (.long b), .second, s3, s4, s5, .val (.int q), .val (.int c'), .val (.long d), .second, .val (.ref b83), .val (.ref b84), .val (.int (q &&& (3 : Int32))), .val (.int (((q.toUInt32 >>> ((2 : Int32) &&& 31).toUInt32).toInt32) &&& (3 : Int32))), .val (.ref b105), .val (.ref b106), .val (.int (0 : Int32)), .val (.int (0 : Int32)), .unset, .unset, .unset, .unset, .unset, .unset, .unset, .unset, .unset] [(.int (0 : Int32)), (.ref b83), (.int (0 : Int32)), (.ref b105)])) rfl rfl (hb hby at_149) _ k) ?_
  show own_Go p e below _ T106 (mkF m 150 #[.val (.int a), .val (.long b), .second, s3, s4, s5, .val (.int q), .val (.int c'), .val (.long d), .second, .val (.ref b83), .val (.ref b84), .val (.int (q &&& (3 : Int32))), .val (.int (((q.toUInt32 >>> ((2 : Int32) &&& 31).toUInt32).toInt32) &&& (3 : Int32))), .val (.ref b105), .val (.ref b106), .val (.int (0 : Int32)), .val (.int (0 : Int32)), .unset, .unset, .unset, .unset, .unset, .unset, .unset, .unset, .unset] [(.int a), (.int (0 : Int32)), (.ref b105)])
  obtain ⟨c_108, Ar_108, S_108, H_108⟩ := id U_1
  obtain ⟨T109, h109, X109, e109, W109, st109⟩ := stI X106 hx hZ e106 Ar_108 (j := (0 : Int32)) (inb_of S_108 ⟨by decide, by decide⟩) (g := (mkF m 150 #[.val (.int a), .val (.long b), .second, s3, s4, s5, .val (.int q), .val (.int c'), .val (.long d), .second, .val (.ref b83), .val (.ref b84), .val (.int (q &&& (3 : Int32))), .val (.int (((q.toUInt32 >>> ((2 : Int32) &&& 31).toUInt32).toInt32) &&& (3 : Int32))), .val (.ref b105), .val (.ref b106), .val (.int (0 : Int32)), .val (.int (0 : Int32)), .unset, .unset, .unset, .unset, .unset, .unset, .unset, .unset, .unset] [(.int a), (.int (0 : Int32)), (.ref b105)])) rfl rfl (hb hby at_150)
  have N109 := Fr.snoc X109 N104 g14
  refine own_go st109 ?_
  show own_Go p e below _ T109 (mkF m 151 #[.val (.int a), .val (.long b), .second, s3, s4, s5, .val (.int q), .val (.int c'), .val (.long d), .second, .val (.ref b83), .val (.ref b84), .val (.int (q &&& (3 : Int32))), .val (.int (((q.toUInt32 >>> ((2 : Int32) &&& 31).toUInt32).toInt32) &&& (3 : Int32))), .val (.ref b105), .val (.ref b106), .val (.int (0 : Int32)), .val (.int (0 : Int32)), .unset, .unset, .unset, .unset, .unset, .unset, .unset, .unset, .unset] [])
  have U_2 := own_Af_push (x := (a, b)) Ar_108 S_108 H_108 W109 rfl
  have F_4 := own_Af_other F_3 W109 (by omega)
  have G_4 := own_As_other G_3 W109 (by omega)
  have T_1 := own_As_other T_0 W109 (by omega)
  refine own_go (fun _ k => XS.aload X109.here hx rfl (hb hby at_151) rfl rfl k) ?_
  show own_Go p e below _ T109 (mkF m 153 #[.val (.int a), .val (.long b), .second, s3, s4, s5, .val (.int q), .val (.int c'), .val (.long d), .second, .val (.ref b83), .val (.ref b84), .val (.int (q &&& (3 : Int32))), .val (.int (((q.toUInt32 >>> ((2 : Int32) &&& 31).toUInt32).toInt32) &&& (3 : Int32))), .val (.ref b105), .val (.ref b106), .val (.int (0 : Int32)), .val (.int (0 : Int32)), .unset, .unset, .unset, .unset, .unset, .unset, .unset, .unset, .unset] [(.ref b106)])
  refine own_go (fun _ k => XS.iload X109.here hx rfl (hb hby at_153) rfl  k) ?_
  show own_Go p e below _ T109 (mkF m 155 #[.val (.int a), .val (.long b), .second, s3, s4, s5, .val (.int q), .val (.int c'), .val (.long d), .second, .val (.ref b83), .val (.ref b84), .val (.int (q &&& (3 : Int32))), .val (.int (((q.toUInt32 >>> ((2 : Int32) &&& 31).toUInt32).toInt32) &&& (3 : Int32))), .val (.ref b105), .val (.ref b106), .val (.int (0 : Int32)), .val (.int (0 : Int32)), .unset, .unset, .unset, .unset, .unset, .unset, .unset, .unset, .unset] [(.int (0 : Int32)), (.ref b106)])
  refine own_go (fun _ k => XS.aload X109.here hx rfl (hb hby at_155) rfl rfl k) ?_
  show own_Go p e below _ T109 (mkF m 157 #[.val (.int a), .val (.long b), .second, s3, s4, s5, .val (.int q), .val (.int c'), .val (.long d), .second, .val (.ref b83), .val (.ref b84), .val (.int (q &&& (3 : Int32))), .val (.int (((q.toUInt32 >>> ((2 : Int32) &&& 31).toUInt32).toInt32) &&& (3 : Int32))), .val (.ref b105), .val (.ref b106), .val (.int (0 : Int32)), .val (.int (0 : Int32)), .unset, .unset, .unset, .unset, .unset, .unset, .unset, .unset, .unset] [(.ref b84), (.int (0 : Int32)), (.ref b106)])
  refine own_go (fun _ k => XS.iconst X109.here hx rfl (hb hby at_157) k) ?_
  show own_Go p e below _ T109 (mkF m 158 #[.val (.int a), .val (.long b), .second, s3, s4, s5, .val (.int q), .val (.int c'), .val (.long d), .second, .val (.ref b83), .val (.ref b84), .val (.int (q &&& (3 : Int32))), .val (.int (((q.toUInt32 >>> ((2 : Int32) &&& 31).toUInt32).toInt32) &&& (3 : Int32))), .val (.ref b105), .val (.ref b106), .val (.int (0 : Int32)), .val (.int (0 : Int32)), .unset, .unset, .unset, .unset, .unset, .unset, .unset, .unset, .unset] [(.int (0 : Int32)), (.ref b84), (.int (0 : Int32)), (.ref b106)])
  obtain ⟨c_110, Ar_110, S_110, H_110⟩ := id G_4
  refine own_go (fun _ k => X109.laload hx (j := (0 : Int32)) (v := (.long b)) (by rw [e109]; exact Ar_110.1) (State.isArrayOf_alike hZ.alike Ar_110.2.1) Ar_110.2.2 (inb_of S_110 ⟨by decide, by decide⟩) (H_110 0 _ rfl) (g := (mkF m 158 #[.val (.int a), .val (.long b), .second, s3, s4, s5, .val (.int q), .val (.int c'), .val (.long d), .second, .val (.ref b83), .val (.ref b84), .val (.int (q &&& (3 : Int32))), .val (.int (((q.toUInt32 >>> ((2 : Int32) &&& 31).toUInt32).toInt32) &&& (3 : Int32))), .val (.ref b105), .val (.ref b106), .val (.int (0 : Int32)), .val (.int (0 : Int32)), .unset, .unset, .unset, .unset, .unset, .unset, .unset, .unset, .unset] [(.int (0 : Int32)), (.ref b84), (.int (0 : Int32)), (.ref b106)])) rfl rfl (hb hby at_158) _ k) ?_
  show own_Go p e below _ T109 (mkF m 159 #[.val (.int a), .val (.long b), .second, s3, s4, s5, .val (.int q), .val (.int c'), .val (.long d), .second, .val (.ref b83), .val (.ref b84), .val (.int (q &&& (3 : Int32))), .val (.int (((q.toUInt32 >>> ((2 : Int32) &&& 31).toUInt32).toInt32) &&& (3 : Int32))), .val (.ref b105), .val (.ref b106), .val (.int (0 : Int32)), .val (.int (0 : Int32)), .unset, .unset, .unset, .unset, .unset, .unset, .unset, .unset, .unset] [(.long b), (.int (0 : Int32)), (.ref b106)])
  obtain ⟨c_111, Ar_111, S_111, H_111⟩ := id T_1
  obtain ⟨T112, h112, X112, e112, W112, st112⟩ := stJ X109 hx hZ e109 Ar_111 (j := (0 : Int32)) (inb_of S_111 ⟨by decide, by decide⟩) (g := (mkF m 159 #[.val (.int a), .val (.long b), .second, s3, s4, s5, .val (.int q), .val (.int c'), .val (.long d), .second, .val (.ref b83), .val (.ref b84), .val (.int (q &&& (3 : Int32))), .val (.int (((q.toUInt32 >>> ((2 : Int32) &&& 31).toUInt32).toInt32) &&& (3 : Int32))), .val (.ref b105), .val (.ref b106), .val (.int (0 : Int32)), .val (.int (0 : Int32)), .unset, .unset, .unset, .unset, .unset, .unset, .unset, .unset, .unset] [(.long b), (.int (0 : Int32)), (.ref b106)])) rfl rfl (hb hby at_159)
  have N112 := Fr.snoc X112 N109 g15
  refine own_go st112 ?_
  show own_Go p e below _ T112 (mkF m 160 #[.val (.int a), .val (.long b), .second, s3, s4, s5, .val (.int q), .val (.int c'), .val (.long d), .second, .val (.ref b83), .val (.ref b84), .val (.int (q &&& (3 : Int32))), .val (.int (((q.toUInt32 >>> ((2 : Int32) &&& 31).toUInt32).toInt32) &&& (3 : Int32))), .val (.ref b105), .val (.ref b106), .val (.int (0 : Int32)), .val (.int (0 : Int32)), .unset, .unset, .unset, .unset, .unset, .unset, .unset, .unset, .unset] [])
  have T_2 := own_As_push (x := (a, b)) Ar_111 S_111 H_111 W112 rfl
  have F_5 := own_Af_other F_4 W112 (by omega)
  have G_5 := own_As_other G_4 W112 (by omega)
  have U_3 := own_Af_other U_2 W112 (by omega)
  refine own_go (fun _ k => XS.iinc X112.here hx rfl (hb hby at_160) rfl (l' := #[.val (.int a), .val (.long b), .second, s3, s4, s5, .val (.int q), .val (.int c'), .val (.long d), .second, .val (.ref b83), .val (.ref b84), .val (.int (q &&& (3 : Int32))), .val (.int (((q.toUInt32 >>> ((2 : Int32) &&& 31).toUInt32).toInt32) &&& (3 : Int32))), .val (.ref b105), .val (.ref b106), .val (.int ((0 : Int32) + (1 : Int32))), .val (.int (0 : Int32)), .unset, .unset, .unset, .unset, .unset, .unset, .unset, .unset, .unset]) rfl k) ?_
  show own_Go p e below _ T112 (mkF m 163 #[.val (.int a), .val (.long b), .second, s3, s4, s5, .val (.int q), .val (.int c'), .val (.long d), .second, .val (.ref b83), .val (.ref b84), .val (.int (q &&& (3 : Int32))), .val (.int (((q.toUInt32 >>> ((2 : Int32) &&& 31).toUInt32).toInt32) &&& (3 : Int32))), .val (.ref b105), .val (.ref b106), .val (.int ((0 : Int32) + (1 : Int32))), .val (.int (0 : Int32)), .unset, .unset, .unset, .unset, .unset, .unset, .unset, .unset, .unset] [])
  have e01 : ((0 : Int32) + (1 : Int32)) = Int32.ofNat 1 := by decide
  rw [e01]
  exact own_t163 _ _ _ _ _ _ _ _ _ _ _ _ b83 b84 b105 b106 (a, b) (c', d) (own_pf (q &&& (3 : Int32)) a c', own_ps (q &&& (3 : Int32)) b d) (own_pf (((q.toUInt32 >>> ((2 : Int32) &&& 31).toUInt32).toInt32) &&& (3 : Int32)) a c', own_ps (((q.toUInt32 >>> ((2 : Int32) &&& 31).toUInt32).toInt32) &&& (3 : Int32)) b d) [(a, b)] X112 hx hZ hw hby hml hown hret hlk e112 (by rw [W112.size, W109.size]; exact Zs4) N112 g14 g15 o1 o2 o3 F_5 G_5 U_3 T_2 (Or.inr ⟨fun i => by simp, rfl, rfl⟩)
set_option maxRecDepth 65536 in
set_option maxHeartbeats 40000000 in
theorem own_t13 {p : Program} {l : Launch} {e : Env} {s : State} {m : MethodId} {args : Array Value} {below : List Frame} {meth : Method} {c : Code} {T0 : State} {locs : List Loc} {Z : State} {a0 : Array Value} {h0 : Heap} {n0 : Nat} (a : Int32) (b : Int64) (c0 : Int32) (d0 : Int64) (q c' : Int32) (X0 : Stand p l e room_1 s m args below meth c T0 locs 0 0)
    (hx : p.tables.exec = Jvm.exec) (hZ : Z.Warmed39 s.vm) (hw : ∀ d ∈ tables_1, d.before a0 Z = true) (hby : c.code = code) (hml : c.maxLocals = 27) (hown : s.vm.findClass "com/example/window_payoff_solver/windowpayoffsolver/window/PairTableIndexPinLaw" = some m.cls) (hret : meth.sig.returnType = some .boolean) (hlk : meth.locks = false) (e0 : T0.heap = h0) (Z0 : n0 ≤ h0.size) (N0 : Fr n0 locs) :
    own_Go p e below (own_P (own_R (fun v _ L => v = some (.int 1) ∧ Fr n0 L)) room_1 s) T0 (mkF m 13 #[.val (.int a), .val (.long b), .second, .val (.int c0), .val (.long d0), .second, .val (.int q), .unset, .unset, .unset, .unset, .unset, .unset, .unset, .unset, .unset, .unset, .unset, .unset, .unset, .unset, .unset, .unset, .unset, .unset, .unset, .unset] [(.int c')]) := by
  refine own_go (fun _ k => XS.istore X0.here hx rfl (hb hby at_13) rfl (l' := #[.val (.int a), .val (.long b), .second, .val (.int c0), .val (.long d0), .second, .val (.int q), .val (.int c'), .unset, .unset, .unset, .unset, .unset, .unset, .unset, .unset, .unset, .unset, .unset, .unset, .unset, .unset, .unset, .unset, .unset, .unset, .unset]) rfl k) ?_
  show own_Go p e below _ T0 (mkF m 15 #[.val (.int a), .val (.long b), .second, .val (.int c0), .val (.long d0), .second, .val (.int q), .val (.int c'), .unset, .unset, .unset, .unset, .unset, .unset, .unset, .unset, .unset, .unset, .unset, .unset, .unset, .unset, .unset, .unset, .unset, .unset, .unset] [])
  refine own_go (fun _ k => XS.iload X0.here hx rfl (hb hby at_15) rfl  k) ?_
  show own_Go p e below _ T0 (mkF m 17 #[.val (.int a), .val (.long b), .second, .val (.int c0), .val (.long d0), .second, .val (.int q), .val (.int c'), .unset, .unset, .unset, .unset, .unset, .unset, .unset, .unset, .unset, .unset, .unset, .unset, .unset, .unset, .unset, .unset, .unset, .unset, .unset] [(.int q)])
  refine own_go (fun _ k => XS.bipush X0.here hx rfl (hb hby at_17) k) ?_
  show own_Go p e below _ T0 (mkF m 19 #[.val (.int a), .val (.long b), .second, .val (.int c0), .val (.long d0), .second, .val (.int q), .val (.int c'), .unset, .unset, .unset, .unset, .unset, .unset, .unset, .unset, .unset, .unset, .unset, .unset, .unset, .unset, .unset, .unset, .unset, .unset, .unset] [(.int (32 : Int32)), (.int q)])
  refine own_go (fun _ k => XS.iand X0.here hx rfl (hb hby at_19) rfl k) ?_
  show own_Go p e below _ T0 (mkF m 20 #[.val (.int a), .val (.long b), .second, .val (.int c0), .val (.long d0), .second, .val (.int q), .val (.int c'), .unset, .unset, .unset, .unset, .unset, .unset, .unset, .unset, .unset, .unset, .unset, .unset, .unset, .unset, .unset, .unset, .unset, .unset, .unset] [(.int (q &&& (32 : Int32)))])
  by_cases hc : (q &&& (32 : Int32)) = (0 : Int32)
  · refine own_go (fun _ k => XS.ifYes X0.here hx rfl (pc0 := 20) (pc' := 27) rfl (hb hby at_20) rfl ((if0 _ _).trans (teq hc).1) (by decide) (by decide) k) ?_
    show own_Go p e below _ T0 (mkF m 27 #[.val (.int a), .val (.long b), .second, .val (.int c0), .val (.long d0), .second, .val (.int q), .val (.int c'), .unset, .unset, .unset, .unset, .unset, .unset, .unset, .unset, .unset, .unset, .unset, .unset, .unset, .unset, .unset, .unset, .unset, .unset, .unset] [])
    refine own_go (fun _ k => XS.lload X0.here hx rfl (hb hby at_27) rfl  k) ?_
    show own_Go p e below _ T0 (mkF m 29 #[.val (.int a), .val (.long b), .second, .val (.int c0), .val (.long d0), .second, .val (.int q), .val (.int c'), .unset, .unset, .unset, .unset, .unset, .unset, .unset, .unset, .unset, .unset, .unset, .unset, .unset, .unset, .unset, .unset, .unset, .unset, .unset] [(.long d0)])
    exact own_t29 a b _ _ _ q c' _ X0 hx hZ hw hby hml hown hret hlk e0 Z0 N0
  · refine own_go (fun _ k => XS.ifNo X0.here hx rfl (hb hby at_20) rfl ((if0 _ _).trans (feq hc).1) k) ?_
    show own_Go p e below _ T0 (mkF m 23 #[.val (.int a), .val (.long b), .second, .val (.int c0), .val (.long d0), .second, .val (.int q), .val (.int c'), .unset, .unset, .unset, .unset, .unset, .unset, .unset, .unset, .unset, .unset, .unset, .unset, .unset, .unset, .unset, .unset, .unset, .unset, .unset] [])
    refine own_go (fun _ k => XS.lloadN X0.here hx rfl (hb hby at_23) rfl  k) ?_
    show own_Go p e below _ T0 (mkF m 24 #[.val (.int a), .val (.long b), .second, .val (.int c0), .val (.long d0), .second, .val (.int q), .val (.int c'), .unset, .unset, .unset, .unset, .unset, .unset, .unset, .unset, .unset, .unset, .unset, .unset, .unset, .unset, .unset, .unset, .unset, .unset, .unset] [(.long b)])
    refine own_go (fun _ k => XS.goto X0.here hx rfl (pc0 := 24) (pc' := 29) rfl (hb hby at_24) (by decide) (by decide) k) ?_
    show own_Go p e below _ T0 (mkF m 29 #[.val (.int a), .val (.long b), .second, .val (.int c0), .val (.long d0), .second, .val (.int q), .val (.int c'), .unset, .unset, .unset, .unset, .unset, .unset, .unset, .unset, .unset, .unset, .unset, .unset, .unset, .unset, .unset, .unset, .unset, .unset, .unset] [(.long b)])
    exact own_t29 a b _ _ _ q c' _ X0 hx hZ hw hby hml hown hret hlk e0 Z0 N0
theorem ef_0 (m : MethodId) (x0 : Int32) (x1 : Int64) (x2 : Int32) (x3 : Int64) (x4 : Int32) : entryFrame m #[(.int x0), (.long x1), (.int x2), (.long x3), (.int x4)] maxLocals = mkF m 0 #[.val (.int x0), .val (.long x1), .second, .val (.int x2), .val (.long x3), .second, .val (.int x4), .unset, .unset, .unset, .unset, .unset, .unset, .unset, .unset, .unset, .unset, .unset, .unset, .unset, .unset, .unset, .unset, .unset, .unset, .unset, .unset] [] := by first | (simp [entryFrame, mkF, argsToLocals, Value.category, maxLocals]; done) | rfl
set_option maxRecDepth 65536 in
set_option maxHeartbeats 40000000 in
theorem rm0 (l : Launch) (Z : State) (a0 : Array Value) (hw : ∀ d ∈ tables_1, d.before a0 Z = true) (ws : List Jvm.Cond) (pa : Int32) (qb : Int64) (c0 : Int32) (d0 : Int64) (q : Int32) (h0 : Heap) (n0 : Nat) (Z0 : n0 ≤ h0.size)  :
    MetFree l x (head1 (Jvm.Cond.code x code maxLocals ret :: ws) room_1) (fun a U => a = #[(.int pa), (.long qb), (.int c0), (.long d0), (.int q)] ∧ Z.Warmed39 U.vm ∧ U.heap = h0) (fun _ _ _ _ _ => True) (fun _ U o U' => ∃ v L, o = .returned v ∧ (own_R (fun v _ L => v = some (.int 1) ∧ Fr n0 L)) v U'.heap L ∧ FrameEnd U o U' L room_1.cells room_1.slots) := by
  refine MetFree.of_bodySF (plainFor_of_name pn_0) hisR ?_
  intro p e s m args below meth c s₁ Bd hml0 hP hK
  obtain ⟨rfl, hZ, hh⟩ := hP
  have hx := Bd.exec
  have hby := Bd.bytes
  have hml : c.maxLocals = 27 := hml0
  have hown : s.vm.findClass "com/example/window_payoff_solver/windowpayoffsolver/window/PairTableIndexPinLaw" = some m.cls := findClass_of_methodNamed Bd.named
  have hnm := (name_of_methodNamed Bd.named Bd.method).1
  have hret := Bd.returns
  have hlk : meth.locks = false := Bd.notSynchronized
  have X0 : Stand p l e room_1 s m #[(.int pa), (.long qb), (.int c0), (.long d0), (.int q)] below meth c s₁ [] 0 0 := Stand.of_body Bd
  have e0 : s₁.heap = h0 := by rw [← hh, Bd.state]; rfl
  have N0 := Fr.nil n0
  show own_Go p e below (own_P (own_R (fun v _ L => v = some (.int 1) ∧ Fr n0 L)) room_1 s) s₁ (entryFrame m #[(.int pa), (.long qb), (.int c0), (.long d0), (.int q)] maxLocals)
  rw [ef_0 m pa qb c0 d0 q]
  show own_Go p e below _ s₁ (mkF m 0 #[.val (.int pa), .val (.long qb), .second, .val (.int c0), .val (.long d0), .second, .val (.int q), .unset, .unset, .unset, .unset, .unset, .unset, .unset, .unset, .unset, .unset, .unset, .unset, .unset, .unset, .unset, .unset, .unset, .unset, .unset, .unset] [])
  refine own_go (fun _ k => XS.iload X0.here hx rfl (hb hby at_0) rfl  k) ?_
  show own_Go p e below _ s₁ (mkF m 2 #[.val (.int pa), .val (.long qb), .second, .val (.int c0), .val (.long d0), .second, .val (.int q), .unset, .unset, .unset, .unset, .unset, .unset, .unset, .unset, .unset, .unset, .unset, .unset, .unset, .unset, .unset, .unset, .unset, .unset, .unset, .unset] [(.int q)])
  refine own_go (fun _ k => XS.bipush X0.here hx rfl (hb hby at_2) k) ?_
  show own_Go p e below _ s₁ (mkF m 4 #[.val (.int pa), .val (.long qb), .second, .val (.int c0), .val (.long d0), .second, .val (.int q), .unset, .unset, .unset, .unset, .unset, .unset, .unset, .unset, .unset, .unset, .unset, .unset, .unset, .unset, .unset, .unset, .unset, .unset, .unset, .unset] [(.int (16 : Int32)), (.int q)])
  refine own_go (fun _ k => XS.iand X0.here hx rfl (hb hby at_4) rfl k) ?_
  show own_Go p e below _ s₁ (mkF m 5 #[.val (.int pa), .val (.long qb), .second, .val (.int c0), .val (.long d0), .second, .val (.int q), .unset, .unset, .unset, .unset, .unset, .unset, .unset, .unset, .unset, .unset, .unset, .unset, .unset, .unset, .unset, .unset, .unset, .unset, .unset, .unset] [(.int (q &&& (16 : Int32)))])
  by_cases hc : (q &&& (16 : Int32)) = (0 : Int32)
  · refine own_go (fun _ k => XS.ifYes X0.here hx rfl (pc0 := 5) (pc' := 12) rfl (hb hby at_5) rfl ((if0 _ _).trans (teq hc).1) (by decide) (by decide) k) ?_
    show own_Go p e below _ s₁ (mkF m 12 #[.val (.int pa), .val (.long qb), .second, .val (.int c0), .val (.long d0), .second, .val (.int q), .unset, .unset, .unset, .unset, .unset, .unset, .unset, .unset, .unset, .unset, .unset, .unset, .unset, .unset, .unset, .unset, .unset, .unset, .unset, .unset] [])
    refine own_go (fun _ k => XS.iloadN X0.here hx rfl (hb hby at_12) rfl  k) ?_
    show own_Go p e below _ s₁ (mkF m 13 #[.val (.int pa), .val (.long qb), .second, .val (.int c0), .val (.long d0), .second, .val (.int q), .unset, .unset, .unset, .unset, .unset, .unset, .unset, .unset, .unset, .unset, .unset, .unset, .unset, .unset, .unset, .unset, .unset, .unset, .unset, .unset] [(.int c0)])
    exact own_t13 pa qb c0 d0 q _ X0 hx hZ hw hby hml hown hret hlk e0 Z0 N0
  · refine own_go (fun _ k => XS.ifNo X0.here hx rfl (hb hby at_5) rfl ((if0 _ _).trans (feq hc).1) k) ?_
    show own_Go p e below _ s₁ (mkF m 8 #[.val (.int pa), .val (.long qb), .second, .val (.int c0), .val (.long d0), .second, .val (.int q), .unset, .unset, .unset, .unset, .unset, .unset, .unset, .unset, .unset, .unset, .unset, .unset, .unset, .unset, .unset, .unset, .unset, .unset, .unset, .unset] [])
    refine own_go (fun _ k => XS.iloadN X0.here hx rfl (hb hby at_8) rfl  k) ?_
    show own_Go p e below _ s₁ (mkF m 9 #[.val (.int pa), .val (.long qb), .second, .val (.int c0), .val (.long d0), .second, .val (.int q), .unset, .unset, .unset, .unset, .unset, .unset, .unset, .unset, .unset, .unset, .unset, .unset, .unset, .unset, .unset, .unset, .unset, .unset, .unset, .unset] [(.int pa)])
    refine own_go (fun _ k => XS.goto X0.here hx rfl (pc0 := 9) (pc' := 13) rfl (hb hby at_9) (by decide) (by decide) k) ?_
    show own_Go p e below _ s₁ (mkF m 13 #[.val (.int pa), .val (.long qb), .second, .val (.int c0), .val (.long d0), .second, .val (.int q), .unset, .unset, .unset, .unset, .unset, .unset, .unset, .unset, .unset, .unset, .unset, .unset, .unset, .unset, .unset, .unset, .unset, .unset, .unset, .unset] [(.int pa)])
    exact own_t13 pa qb c0 d0 q _ X0 hx hZ hw hby hml hown hret hlk e0 Z0 N0
set_option maxRecDepth 65536 in
set_option maxHeartbeats 40000000 in
theorem comes_1 {Post : Tables → Env → Array Value → State → Outcome → State → Prop} (hpost : ∀ tb e args s v u, (limb_1_1.after args s (.returned v) u = true ∧ limb_1_2.after args s (.returned v) u = true ∧ True) → FrameEnd s (.returned v) u (Jvm.fieldLocs frame_1_writes args s ++ Jvm.arrayLocs frame_1_arrays args s ++ Jvm.staticLocs frame_1_statics s) 24 256 → Post tb e args s (.returned v) u) :
    ArmFor flags0 classFile x code maxLocals ret World_1 tables_1 room_1 Calls_1 rest_1 Pre_1 Post := by
  intro l hfl _ _ p e ha hc hk s m args below hf hA hF happ hP
  obtain ⟨hcalls, hrest, hpre⟩ := hP
  obtain ⟨-, -, -, hnamed, -, -, -, hat⟩ := (Spec.applies_iff hf).mp happ
  obtain ⟨hg, hn⟩ := and_e (Cond.before_iff.mp (show (Jvm.Cond.and given_1 narrow_1).before args s = true from hpre))
  obtain ⟨k0, g0⟩ := and_e hg
  obtain ⟨k1, g1⟩ := and_e g0
  obtain ⟨k2, g2⟩ := and_e g1
  obtain ⟨k3, g3⟩ := and_e g2
  obtain ⟨k4, g4⟩ := and_e g3
  obtain ⟨w0, w1, w2, w3, w4, rfl⟩ : ∃ w0 w1 w2 w3 w4 : Value, args = #[w0, w1, w2, w3, w4] := by
    have hs : args.size = 5 := by simpa [Cond.value, given_1] using k0
    obtain ⟨L⟩ := args
    match L, hs with
    | [w0, w1, w2, w3, w4], _ => exact ⟨w0, w1, w2, w3, w4, rfl⟩
  have hw := fun d (hd : d ∈ tables_1) => atoms_spec (ws := Jvm.Cond.code x code maxLocals ret :: tables_1) hat d (List.mem_cons_of_mem _ hd)
  obtain ⟨i0, ei0⟩ := is_v k1
  obtain rfl : w0 = (.int i0) := Option.some.inj ei0
  obtain ⟨i1, ei1⟩ := isL_v k2
  obtain rfl : w1 = (.long i1) := Option.some.inj ei1
  obtain ⟨i2, ei2⟩ := is_v k3
  obtain rfl : w2 = (.int i2) := Option.some.inj ei2
  obtain ⟨i3, ei3⟩ := isL_v k4
  obtain rfl : w3 = (.long i3) := Option.some.inj ei3
  obtain ⟨i4, ei4⟩ := is_v g4
  obtain rfl : w4 = (.int i4) := Option.some.inj ei4
  obtain ⟨n, o, h1, h2, h3, _, L, rfl, ⟨rfl, N⟩, hq⟩ := rm0 l s _ hw tables_1 i0 i1 i2 i3 i4 s.heap s.heap.size (Nat.le_refl _) p e ha hc hk s m _ below hf ((Spec.applies_iff_loose hf).mp happ).1 ⟨rfl, State.Warmed39.refl s, rfl⟩ trivial
  refine ⟨n, _, h1, h2, h3, hpost _ _ _ _ _ _ ⟨Cond.after_iff.mpr rfl, Cond.after_iff.mpr (eq_i res_at (Term.int_eval (1)) rfl), trivial⟩ ⟨hq.1, hq.2.1, (hq.2.2.sift fun y hy => Or.inr (N y hy)).mono (by decide) (by decide)⟩⟩
theorem main_1_1 : Claimed_1_1 := comes_1 fun _ _ _ _ _ _ h hF => ⟨h.1, hF⟩
theorem main_1_2 : Claimed_1_2 := comes_1 fun _ _ _ _ _ _ h hF => ⟨h.2.1, hF⟩
end Jvm.Pilot.@@N@@
namespace Jvm.Pilot.@@N@@
open Jvm Jvm.ClassFile Sem Op Lib Jvm.Free Jvm.Stand Jvm.Pilot.@@N@@.Jvm.D
/-! MADE BY PROGRAM (witnessworld.py) out of the Statement's table words and the real class files: 16 classes; the members and pool entries that the words name. The judged class is class 1, her method 4. -/
namespace start1
open Jvm.ClassFile
def u (s : String) : CpInfo := .utf8 (stringToUtf16 s)
/-- a pool by its gaps: so many unusable entries, then the entry; so many at the end -/
def gap : Nat → List CpInfo → List CpInfo
  | 0, r => r
  | n + 1, r => .unusable :: gap n r
def poolList (es : List (Nat × CpInfo)) (last : Nat) : List CpInfo := es.foldr (fun e r => gap e.1 (e.2 :: r)) (gap last [])
def pool (es : List (Nat × CpInfo)) (last : Nat) : Array CpInfo := ⟨poolList es last⟩
def fileOf (pool : Array CpInfo) (this : Nat) (attrs : Array Attribute := #[]) (ms : Array MethodInfo := #[]) (fl : Nat := 33) (sup : Nat := 0) (ifs : Array Nat := #[]) (fds : Array FieldInfo := #[]) : ClassFile where
  minorVersion := 0
  majorVersion := 65
  constantPool := pool
  accessFlags := fl
  thisClass := this
  superClass := sup
  interfaces := ifs
  fields := fds
  methods := ms
  attributes := attrs
def plain (name : String) (sup : Option ClassId) : Class where
  name := name
  kind := .ordinary
  loader := none
  accessFlags := 33
  super := sup
  interfaces := #[]
  cf := none
  fields := #[]
  methods := #[]
  instanceTypes := #[]
  staticTypes := #[]
  resolved := #[]
  callSites := []
  init := .initialized
  statics := none
  mirror := none

def pool0 : Array CpInfo := pool [(5, u "<init>"), (0, u "()V"), (1, .class_ 10), (1, u "java/lang/Object")] 113

def k0c0 : Code := { maxStack := 0, maxLocals := 1, code := object_method_1_code, exceptionTable := #[], attributes := #[] }
def k0m0 : Method := { name := "<init>", desc := "()V", sig := { parameters := [], returnType := none }, accessFlags := 1, code := some k0c0 }
/-- java/lang/Object -/
def k0 : Class := { plain "java/lang/Object" none with
  accessFlags := 33
  interfaces := #[]
  cf := some (fileOf pool0 8 #[] #[{ accessFlags := 1, nameIndex := 5, descriptorIndex := 6, attributes := #[] }] 33 0 #[] #[])
  fields := #[]
  methods := #[k0m0]
  instanceTypes := #[]
  staticTypes := #[]
  resolved := Array.replicate 124 none
  statics := none }

def pool1 : Array CpInfo := pool [(2, .class_ 4), (0, .nameAndType 5 6), (0, u "java/lang/Object"), (0, u "<init>"), (0, u "()V"), (0, .methodref 8 9), (0, .class_ 10), (0, .nameAndType 11 12), (0, u "com/example/window_payoff_solver/windowpayoffsolver/window/PairTableIndexPinLaw"), (0, u "pickFirst"), (0, u "(III)I"), (0, .methodref 8 14), (0, .nameAndType 15 16), (0, u "pickSecond"), (0, u "(IJJ)J"), (0, .methodref 8 18), (0, .nameAndType 19 20), (0, u "same"), (0, u "([I[JII)Z"), (0, .class_ 22), (0, u "com/example/window_payoff_solver/windowpayoffsolver/window/PairTable"), (0, .methodref 21 3), (0, .methodref 21 25), (0, .nameAndType 26 27), (0, u "index"), (0, u "(IJ)I"), (0, .methodref 21 29), (0, .nameAndType 30 31), (0, u "size"), (0, u "()I"), (0, .methodref 21 33), (0, .nameAndType 34 35), (0, u "first"), (0, u "(I)I"), (0, .methodref 21 37), (0, .nameAndType 38 39), (0, u "second"), (0, u "(I)J"), (3, u "law"), (0, u "(IJIJI)Z")] 6

def k1m0 : Method := { name := "<init>", desc := "()V", sig := { parameters := [], returnType := none }, accessFlags := 1, code := none }
def k1c1 : Code := { maxStack := 2, maxLocals := 3, code := method_2_code, exceptionTable := #[], attributes := #[] }
def k1m1 : Method := { name := "pickFirst", desc := "(III)I", sig := { parameters := [.int, .int, .int], returnType := some .int }, accessFlags := 10, code := some k1c1 }
def k1c2 : Code := { maxStack := 2, maxLocals := 5, code := method_3_code, exceptionTable := #[], attributes := #[] }
def k1m2 : Method := { name := "pickSecond", desc := "(IJJ)J", sig := { parameters := [.int, .long, .long], returnType := some .long }, accessFlags := 10, code := some k1c2 }
def k1c3 : Code := { maxStack := 4, maxLocals := 4, code := method_4_code, exceptionTable := #[], attributes := #[] }
def k1m3 : Method := { name := "same", desc := "([I[JII)Z", sig := { parameters := [(.array .int), (.array .long), .int, .int], returnType := some .boolean }, accessFlags := 10, code := some k1c3 }
def k1c4 : Code := { maxStack := 7, maxLocals := 27, code := code, exceptionTable := #[], attributes := #[] }
def k1m4 : Method := { name := "law", desc := "(IJIJI)Z", sig := { parameters := [.int, .long, .int, .long, .int], returnType := some .boolean }, accessFlags := 9, code := some k1c4 }
/-- com/example/window_payoff_solver/windowpayoffsolver/window/PairTableIndexPinLaw -/
def k1 : Class := { plain "com/example/window_payoff_solver/windowpayoffsolver/window/PairTableIndexPinLaw" (some 0) with
  accessFlags := 49
  interfaces := #[]
  cf := some (fileOf pool1 8 #[] #[{ accessFlags := 1, nameIndex := 5, descriptorIndex := 6, attributes := #[] }, { accessFlags := 10, nameIndex := 11, descriptorIndex := 12, attributes := #[] }, { accessFlags := 10, nameIndex := 15, descriptorIndex := 16, attributes := #[] }, { accessFlags := 10, nameIndex := 19, descriptorIndex := 20, attributes := #[] }, { accessFlags := 9, nameIndex := 43, descriptorIndex := 44, attributes := #[] }] 49 2 #[] #[])
  fields := #[]
  methods := #[k1m0, k1m1, k1m2, k1m3, k1m4]
  instanceTypes := #[]
  staticTypes := #[]
  resolved := Array.replicate 51 none
  statics := none }

def pool2 : Array CpInfo := pool [(1, .methodref 2 3), (0, .class_ 4), (0, .nameAndType 5 6), (0, u "java/lang/Object"), (0, u "<init>"), (0, u "()V"), (0, .class_ 8), (0, u "com/example/window_payoff_solver/windowpayoffsolver/window/PairTable"), (0, .fieldref 7 10), (0, .nameAndType 11 12), (0, u "firsts"), (0, u "[I"), (0, .fieldref 7 14), (0, .nameAndType 15 16), (0, u "seconds"), (0, u "[J"), (0, .fieldref 7 18), (0, .nameAndType 19 12), (0, u "slots"), (0, .methodref 7 21), (0, .nameAndType 22 23), (0, u "slot"), (0, u "(IJ)I"), (0, .fieldref 7 25), (0, .nameAndType 26 27), (0, u "size"), (0, u "I"), (0, .integer 536870912), (12, .integer 2654435769), (0, .methodref 43 44), (0, .class_ 45), (0, .nameAndType 46 47), (0, u "java/lang/Long"), (0, u "hashCode"), (0, u "(J)I"), (0, .integer 2246822507), (0, u "MAX_SIZE"), (1, u "FULL"), (1, u "INITIAL_CAPACITY"), (3, u "index"), (1, u "()I"), (0, u "first"), (0, u "(I)I"), (0, u "second"), (0, u "(I)J")] 2

def k2c0 : Code := { maxStack := 2, maxLocals := 1, code := prog_81_method_1_code, exceptionTable := #[], attributes := #[] }
def k2m0 : Method := { name := "<init>", desc := "()V", sig := { parameters := [], returnType := none }, accessFlags := 0, code := some k2c0 }
def k2c1 : Code := { maxStack := 4, maxLocals := 6, code := prog_81_method_2_code, exceptionTable := #[], attributes := #[] }
def k2m1 : Method := { name := "index", desc := "(IJ)I", sig := { parameters := [.int, .long], returnType := some .int }, accessFlags := 0, code := some k2c1 }
def k2c2 : Code := { maxStack := 1, maxLocals := 1, code := prog_81_method_3_code, exceptionTable := #[], attributes := #[] }
def k2m2 : Method := { name := "size", desc := "()I", sig := { parameters := [], returnType := some .int }, accessFlags := 0, code := some k2c2 }
def k2c3 : Code := { maxStack := 2, maxLocals := 2, code := prog_81_method_4_code, exceptionTable := #[], attributes := #[] }
def k2m3 : Method := { name := "first", desc := "(I)I", sig := { parameters := [.int], returnType := some .int }, accessFlags := 0, code := some k2c3 }
def k2c4 : Code := { maxStack := 2, maxLocals := 2, code := prog_81_method_5_code, exceptionTable := #[], attributes := #[] }
def k2m4 : Method := { name := "second", desc := "(I)J", sig := { parameters := [.int], returnType := some .long }, accessFlags := 0, code := some k2c4 }
def k2c5 : Code := { maxStack := 3, maxLocals := 5, code := prog_81_method_6_code, exceptionTable := #[], attributes := #[] }
def k2m5 : Method := { name := "slot", desc := "(IJ)I", sig := { parameters := [.int, .long], returnType := some .int }, accessFlags := 2, code := some k2c5 }
/-- com/example/window_payoff_solver/windowpayoffsolver/window/PairTable -/
def k2 : Class := { plain "com/example/window_payoff_solver/windowpayoffsolver/window/PairTable" (some 0) with
  accessFlags := 32
  interfaces := #[]
  cf := some (fileOf pool2 7 #[] #[{ accessFlags := 0, nameIndex := 5, descriptorIndex := 6, attributes := #[] }, { accessFlags := 0, nameIndex := 57, descriptorIndex := 23, attributes := #[] }, { accessFlags := 0, nameIndex := 26, descriptorIndex := 59, attributes := #[] }, { accessFlags := 0, nameIndex := 60, descriptorIndex := 61, attributes := #[] }, { accessFlags := 0, nameIndex := 62, descriptorIndex := 63, attributes := #[] }, { accessFlags := 2, nameIndex := 22, descriptorIndex := 23, attributes := #[] }] 32 2 #[] #[{ accessFlags := 24, nameIndex := 49, descriptorIndex := 27, attributes := #[] }, { accessFlags := 24, nameIndex := 51, descriptorIndex := 27, attributes := #[] }, { accessFlags := 26, nameIndex := 53, descriptorIndex := 27, attributes := #[] }, { accessFlags := 2, nameIndex := 26, descriptorIndex := 27, attributes := #[] }, { accessFlags := 2, nameIndex := 11, descriptorIndex := 12, attributes := #[] }, { accessFlags := 2, nameIndex := 15, descriptorIndex := 16, attributes := #[] }, { accessFlags := 2, nameIndex := 19, descriptorIndex := 12, attributes := #[] }])
  fields := #[{ name := "MAX_SIZE", type := .int, accessFlags := 24, slot := 0, constantValue := 0 }, { name := "FULL", type := .int, accessFlags := 24, slot := 1, constantValue := 0 }, { name := "INITIAL_CAPACITY", type := .int, accessFlags := 26, slot := 2, constantValue := 0 }, { name := "size", type := .int, accessFlags := 2, slot := 0, constantValue := 0 }, { name := "firsts", type := (.array .int), accessFlags := 2, slot := 1, constantValue := 0 }, { name := "seconds", type := (.array .long), accessFlags := 2, slot := 2, constantValue := 0 }, { name := "slots", type := (.array .int), accessFlags := 2, slot := 3, constantValue := 0 }]
  methods := #[k2m0, k2m1, k2m2, k2m3, k2m4, k2m5]
  instanceTypes := #[.int, (.array .int), (.array .long), (.array .int)]
  staticTypes := #[.int, .int, .int]
  resolved := Array.replicate 66 none
  statics := none }

def pool3 : Array CpInfo := pool [(1, .class_ 2), (0, u "java/io/Serializable"), (0, .class_ 4), (0, u "java/lang/Object")] 2

/-- java/io/Serializable -/
def k3 : Class := { plain "java/io/Serializable" (some 0) with
  accessFlags := 1537
  interfaces := #[]
  cf := some (fileOf pool3 1 #[] #[] 1537 3 #[] #[])
  fields := #[]
  methods := #[]
  instanceTypes := #[]
  staticTypes := #[]
  resolved := Array.replicate 7 none
  statics := none }

def pool4 : Array CpInfo := pool [(2, .class_ 4), (1, u "java/lang/Object"), (0, u "<init>"), (0, u "()V"), (1, .class_ 10), (1, u "java/lang/Number"), (2, .class_ 14), (0, u "java/io/Serializable"), (0, u "serialVersionUID"), (0, u "J")] 20

def k4m0 : Method := { name := "<init>", desc := "()V", sig := { parameters := [], returnType := none }, accessFlags := 1, code := none }
/-- java/lang/Number -/
def k4 : Class := { plain "java/lang/Number" (some 0) with
  accessFlags := 1057
  interfaces := #[3]
  cf := some (fileOf pool4 8 #[] #[{ accessFlags := 1, nameIndex := 5, descriptorIndex := 6, attributes := #[] }] 1057 2 #[13] #[{ accessFlags := 26, nameIndex := 15, descriptorIndex := 16, attributes := #[] }])
  fields := #[{ name := "serialVersionUID", type := .long, accessFlags := 26, slot := 0, constantValue := 0 }]
  methods := #[k4m0]
  instanceTypes := #[]
  staticTypes := #[.long]
  resolved := Array.replicate 37 none
  statics := none }

def pool5 : Array CpInfo := pool [(1, .class_ 2), (0, u "java/lang/Comparable"), (0, .class_ 4), (0, u "java/lang/Object")] 7

/-- java/lang/Comparable -/
def k5 : Class := { plain "java/lang/Comparable" (some 0) with
  accessFlags := 1537
  interfaces := #[]
  cf := some (fileOf pool5 1 #[] #[] 1537 3 #[] #[])
  fields := #[]
  methods := #[]
  instanceTypes := #[]
  staticTypes := #[]
  resolved := Array.replicate 12 none
  statics := none }

def pool6 : Array CpInfo := pool [(1, .class_ 2), (0, u "java/lang/constant/Constable"), (0, .class_ 4), (0, u "java/lang/Object")] 6

/-- java/lang/constant/Constable -/
def k6 : Class := { plain "java/lang/constant/Constable" (some 0) with
  accessFlags := 1537
  interfaces := #[]
  cf := some (fileOf pool6 1 #[] #[] 1537 3 #[] #[])
  fields := #[]
  methods := #[]
  instanceTypes := #[]
  staticTypes := #[]
  resolved := Array.replicate 11 none
  statics := none }

def pool7 : Array CpInfo := pool [(1, .class_ 2), (0, u "java/lang/constant/ConstantDesc"), (0, .class_ 4), (0, u "java/lang/Object")] 32

/-- java/lang/constant/ConstantDesc -/
def k7 : Class := { plain "java/lang/constant/ConstantDesc" (some 0) with
  accessFlags := 1537
  interfaces := #[]
  cf := some (fileOf pool7 1 #[] #[] 1537 3 #[] #[])
  fields := #[]
  methods := #[]
  instanceTypes := #[]
  staticTypes := #[]
  resolved := Array.replicate 37 none
  statics := none }

def pool8 : Array CpInfo := pool [(1, .class_ 2), (0, u "java/lang/Long"), (98, u "(J)I"), (133, .class_ 237), (1, u "java/lang/Long$LongCache"), (33, .class_ 272), (0, u "java/lang/Number"), (2, u "value"), (0, u "J"), (2, u "hashCode"), (81, u "TYPE"), (0, u "Ljava/lang/Class;"), (0, .class_ 364), (0, u "java/lang/Comparable"), (0, .class_ 366), (0, u "java/lang/constant/Constable"), (0, .class_ 368), (0, u "java/lang/constant/ConstantDesc"), (0, u "MIN_VALUE"), (1, u "MAX_VALUE"), (4, u "SIZE"), (0, u "I"), (1, u "BYTES"), (1, u "serialVersionUID")] 142

def k8c0 : Code := { maxStack := 5, maxLocals := 2, code := jdk_35_method_36_code, exceptionTable := #[], attributes := #[] }
def k8m0 : Method := { name := "hashCode", desc := "(J)I", sig := { parameters := [.long], returnType := some .int }, accessFlags := 9, code := some k8c0 }
/-- java/lang/Long -/
def k8 : Class := { plain "java/lang/Long" (some 4) with
  accessFlags := 49
  interfaces := #[5, 6, 7]
  cf := some (fileOf pool8 1 #[.nestMembers #[235]] #[{ accessFlags := 9, nameIndex := 279, descriptorIndex := 101, attributes := #[] }] 49 271 #[363, 365, 367] #[{ accessFlags := 25, nameIndex := 369, descriptorIndex := 276, attributes := #[] }, { accessFlags := 25, nameIndex := 371, descriptorIndex := 276, attributes := #[] }, { accessFlags := 25, nameIndex := 361, descriptorIndex := 362, attributes := #[] }, { accessFlags := 18, nameIndex := 275, descriptorIndex := 276, attributes := #[] }, { accessFlags := 25, nameIndex := 376, descriptorIndex := 377, attributes := #[] }, { accessFlags := 25, nameIndex := 379, descriptorIndex := 377, attributes := #[] }, { accessFlags := 26, nameIndex := 381, descriptorIndex := 276, attributes := #[] }])
  fields := #[{ name := "MIN_VALUE", type := .long, accessFlags := 25, slot := 0, constantValue := 0 }, { name := "MAX_VALUE", type := .long, accessFlags := 25, slot := 1, constantValue := 0 }, { name := "TYPE", type := (.object "java/lang/Class"), accessFlags := 25, slot := 2, constantValue := 0 }, { name := "value", type := .long, accessFlags := 18, slot := 0, constantValue := 0 }, { name := "SIZE", type := .int, accessFlags := 25, slot := 3, constantValue := 0 }, { name := "BYTES", type := .int, accessFlags := 25, slot := 4, constantValue := 0 }, { name := "serialVersionUID", type := .long, accessFlags := 26, slot := 5, constantValue := 0 }]
  methods := #[k8m0]
  instanceTypes := #[.long]
  staticTypes := #[.long, .long, (.object "java/lang/Class"), .int, .int, .long]
  resolved := Array.replicate 524 none
  statics := none }

def pool9 : Array CpInfo := pool [(1, u "java/lang/Cloneable"), (0, .class_ 1), (0, u "java/lang/Object"), (0, .class_ 3)] 3

/-- java/lang/Cloneable -/
def k9 : Class := { plain "java/lang/Cloneable" (some 0) with
  accessFlags := 1537
  interfaces := #[]
  cf := some (fileOf pool9 2 #[] #[] 1537 4 #[] #[])
  fields := #[]
  methods := #[]
  instanceTypes := #[]
  staticTypes := #[]
  resolved := Array.replicate 8 none
  statics := none }

/-- the primitive byte -/
def k10 : Class := { plain "byte" none with kind := .primitive 'B', accessFlags := 0x411 }
/-- [B -/
def k11 : Class := { plain "[B" (some 0) with kind := .array 10 .byte, interfaces := #[9, 3], accessFlags := 1041 }

/-- the primitive int -/
def k12 : Class := { plain "int" none with kind := .primitive 'I', accessFlags := 0x411 }
/-- [I -/
def k13 : Class := { plain "[I" (some 0) with kind := .array 12 .int, interfaces := #[9, 3], accessFlags := 1041 }

/-- the primitive long -/
def k14 : Class := { plain "long" none with kind := .primitive 'J', accessFlags := 0x411 }
/-- [J -/
def k15 : Class := { plain "[J" (some 0) with kind := .array 14 .long, interfaces := #[9, 3], accessFlags := 1041 }

def heap : Heap := #[]
def classes : Array Class := #[k0, k1, k2, k3, k4, k5, k6, k7, k8, k9, k10, k11, k12, k13, k14, k15]
def interned : List (Array UInt16 × Addr) := []
def slotsUsed : Nat := 0
def theMethod : MethodId := ⟨1, 4⟩
def args0 : Array Value := #[.int 5, .long 3, .int 7, .long 9, .int 2]
def aboutOver (below : List Frame) : State where
  vm := { classes := classes, interned := interned.toArray }
  heap := heap
  slotsUsed := slotsUsed
  threads := #[{ frames := .invoking theMethod args0 :: below }]
def below0 : List Frame := [.native { method := ⟨0, 0⟩, args := #[] }]
def about1 : State := aboutOver below0
def p0 : Program := .bare "" "" ""
def e0 : Env := launch0.env 0 0 0
theorem w_frames : about1.frames = Frame.invoking theMethod args0 :: below0 := rfl
set_option maxRecDepth 65536 in
theorem w_args : argsFit about1.vm theMethod args0 = true := by decide +kernel
set_option maxRecDepth 65536 in
theorem w_heap : heapFits about1 = true := by decide +kernel
set_option maxRecDepth 65536 in
theorem w_runnable : about1.curStatus? = some .runnable := by decide +kernel
set_option maxRecDepth 65536 in
theorem w_alone : about1.alone = true := by decide +kernel
set_option maxRecDepth 65536 in
theorem w_named : about1.methodNamed? x = some theMethod := by decide +kernel
set_option maxRecDepth 65536 in
theorem w_hears : about1.hears theMethod below0 = true := by decide +kernel
set_option maxRecDepth 65536 in
theorem w_ripe : about1.ripe theMethod args0 below0 = true := by decide +kernel
theorem w_running : about1.status = .running := rfl
set_option maxRecDepth 65536 in
theorem w_room : about1.hasRoom e0.platform room_1 = true :=
  launch0.hasRoom_least _ room_1 (by decide +kernel) (by decide +kernel) (by decide +kernel) (by decide +kernel) (by decide +kernel) (by decide +kernel)
theorem allAtoms_all (ts : List Jvm.Cond) (a : Array Jvm.Value) (st : Jvm.State) : (allAtoms ts).before a st = ts.all (fun c => c.before a st) := by
  induction ts with
  | nil => rfl
  | cons c t ih =>
    show (Jvm.Cond.and c (allAtoms t)).before a st = _
    rw [Jvm.Cond.before_and, ih, List.all_cons]
def words1 : List Jvm.Cond := Jvm.Cond.code x code maxLocals ret :: tables_1
/-- a 'code' word, met by the world's own term for the bytes: nothing is compared byte by byte -/
theorem code_word {y : MethodName} {bytes : ByteArray} {mx : Nat} {rt : Option FieldType} {a : Array Value} {s : State} {m : MethodId} {meth : Method} {c : Code} (h1 : s.methodNamed? y = some m) (h2 : s.vm.method? m = some meth) (h3 : meth.code = some c) (h4 : c.code = bytes)
    (h5 : (c.maxLocals == mx && c.exceptionTable.isEmpty && decide (c.maxStack ≤ mostOperands) && decide (meth.sig.returnType = rt) && !meth.locks && decide (parseMethodDescriptor y.desc = some meth.sig)) = true) : (Jvm.Cond.code y bytes mx rt).before a s = true := by
  simp only [Bool.and_eq_true, beq_iff_eq, Bool.not_eq_true', decide_eq_true_eq] at h5
  obtain ⟨⟨⟨⟨⟨g1, g2⟩, g3⟩, g4⟩, g5⟩, g6⟩ := h5
  simp [Cond.before, Cond.holds, Cond.value, h1, h2, h3, h4, g1, g2, g3, g4, g5, g6]
def isCode : Jvm.Cond → Bool
  | .code _ _ _ _ => true
  | _ => false
theorem all_split {L : List Jvm.Cond} {P : Jvm.Cond → Bool} (h1 : L.all (fun c => isCode c || P c) = true) (h2 : ∀ c ∈ L.filter isCode, P c = true) : L.all P = true := by
  refine List.all_eq_true.mpr fun c hc => ?_
  have h := List.all_eq_true.mp h1 c hc
  rcases Bool.eq_false_or_eq_true (isCode c) with hi | hi
  · exact h2 c (List.mem_filter.mpr ⟨hc, hi⟩)
  · simpa [hi] using h
set_option maxRecDepth 65536 in
theorem w_c0 : (Jvm.Cond.code x code maxLocals ret).before args0 about1 = true := code_word (m := ⟨1, 4⟩) (meth := k1m4) (c := k1c4) (by decide +kernel) rfl rfl rfl (by decide +kernel)
set_option maxRecDepth 65536 in
theorem w_c1 : (Jvm.Cond.code ({ cls := "com/example/window_payoff_solver/windowpayoffsolver/window/PairTableIndexPinLaw", name := "pickFirst", desc := "(III)I" } : Jvm.MethodName) method_2_code (3 : Nat) (Option.some Jvm.ClassFile.FieldType.int)).before args0 about1 = true := code_word (m := ⟨1, 1⟩) (meth := k1m1) (c := k1c1) (by decide +kernel) rfl rfl rfl (by decide +kernel)
set_option maxRecDepth 65536 in
theorem w_c2 : (Jvm.Cond.code ({ cls := "com/example/window_payoff_solver/windowpayoffsolver/window/PairTableIndexPinLaw", name := "pickSecond", desc := "(IJJ)J" } : Jvm.MethodName) method_3_code (5 : Nat) (Option.some Jvm.ClassFile.FieldType.long)).before args0 about1 = true := code_word (m := ⟨1, 2⟩) (meth := k1m2) (c := k1c2) (by decide +kernel) rfl rfl rfl (by decide +kernel)
set_option maxRecDepth 65536 in
theorem w_c3 : (Jvm.Cond.code ({ cls := "com/example/window_payoff_solver/windowpayoffsolver/window/PairTableIndexPinLaw", name := "same", desc := "([I[JII)Z" } : Jvm.MethodName) method_4_code (4 : Nat) (Option.some Jvm.ClassFile.FieldType.boolean)).before args0 about1 = true := code_word (m := ⟨1, 3⟩) (meth := k1m3) (c := k1c3) (by decide +kernel) rfl rfl rfl (by decide +kernel)
set_option maxRecDepth 65536 in
theorem w_c4 : (Jvm.Cond.code ({ cls := "com/example/window_payoff_solver/windowpayoffsolver/window/PairTable", name := "<init>", desc := "()V" } : Jvm.MethodName) prog_81_method_1_code (1 : Nat) (Option.none : Option Jvm.ClassFile.FieldType)).before args0 about1 = true := code_word (m := ⟨2, 0⟩) (meth := k2m0) (c := k2c0) (by decide +kernel) rfl rfl rfl (by decide +kernel)
set_option maxRecDepth 65536 in
theorem w_c5 : (Jvm.Cond.code ({ cls := "java/lang/Object", name := "<init>", desc := "()V" } : Jvm.MethodName) object_method_1_code (1 : Nat) (Option.none : Option Jvm.ClassFile.FieldType)).before args0 about1 = true := code_word (m := ⟨0, 0⟩) (meth := k0m0) (c := k0c0) (by decide +kernel) rfl rfl rfl (by decide +kernel)
set_option maxRecDepth 65536 in
theorem w_c6 : (Jvm.Cond.code ({ cls := "com/example/window_payoff_solver/windowpayoffsolver/window/PairTable", name := "index", desc := "(IJ)I" } : Jvm.MethodName) prog_81_method_2_code (6 : Nat) (Option.some Jvm.ClassFile.FieldType.int)).before args0 about1 = true := code_word (m := ⟨2, 1⟩) (meth := k2m1) (c := k2c1) (by decide +kernel) rfl rfl rfl (by decide +kernel)
set_option maxRecDepth 65536 in
theorem w_c7 : (Jvm.Cond.code ({ cls := "com/example/window_payoff_solver/windowpayoffsolver/window/PairTable", name := "slot", desc := "(IJ)I" } : Jvm.MethodName) prog_81_method_6_code (5 : Nat) (Option.some Jvm.ClassFile.FieldType.int)).before args0 about1 = true := code_word (m := ⟨2, 5⟩) (meth := k2m5) (c := k2c5) (by decide +kernel) rfl rfl rfl (by decide +kernel)
set_option maxRecDepth 65536 in
theorem w_c8 : (Jvm.Cond.code ({ cls := "java/lang/Long", name := "hashCode", desc := "(J)I" } : Jvm.MethodName) jdk_35_method_36_code (2 : Nat) (Option.some Jvm.ClassFile.FieldType.int)).before args0 about1 = true := code_word (m := ⟨8, 0⟩) (meth := k8m0) (c := k8c0) (by decide +kernel) rfl rfl rfl (by decide +kernel)
set_option maxRecDepth 65536 in
theorem w_c9 : (Jvm.Cond.code ({ cls := "com/example/window_payoff_solver/windowpayoffsolver/window/PairTable", name := "size", desc := "()I" } : Jvm.MethodName) prog_81_method_3_code (1 : Nat) (Option.some Jvm.ClassFile.FieldType.int)).before args0 about1 = true := code_word (m := ⟨2, 2⟩) (meth := k2m2) (c := k2c2) (by decide +kernel) rfl rfl rfl (by decide +kernel)
set_option maxRecDepth 65536 in
theorem w_c10 : (Jvm.Cond.code ({ cls := "com/example/window_payoff_solver/windowpayoffsolver/window/PairTable", name := "first", desc := "(I)I" } : Jvm.MethodName) prog_81_method_4_code (2 : Nat) (Option.some Jvm.ClassFile.FieldType.int)).before args0 about1 = true := code_word (m := ⟨2, 3⟩) (meth := k2m3) (c := k2c3) (by decide +kernel) rfl rfl rfl (by decide +kernel)
set_option maxRecDepth 65536 in
theorem w_c11 : (Jvm.Cond.code ({ cls := "com/example/window_payoff_solver/windowpayoffsolver/window/PairTable", name := "second", desc := "(I)J" } : Jvm.MethodName) prog_81_method_5_code (2 : Nat) (Option.some Jvm.ClassFile.FieldType.long)).before args0 about1 = true := code_word (m := ⟨2, 4⟩) (meth := k2m4) (c := k2c4) (by decide +kernel) rfl rfl rfl (by decide +kernel)
def codes1 : List Jvm.Cond := [Jvm.Cond.code x code maxLocals ret, Jvm.Cond.code ({ cls := "com/example/window_payoff_solver/windowpayoffsolver/window/PairTableIndexPinLaw", name := "pickFirst", desc := "(III)I" } : Jvm.MethodName) method_2_code (3 : Nat) (Option.some Jvm.ClassFile.FieldType.int), Jvm.Cond.code ({ cls := "com/example/window_payoff_solver/windowpayoffsolver/window/PairTableIndexPinLaw", name := "pickSecond", desc := "(IJJ)J" } : Jvm.MethodName) method_3_code (5 : Nat) (Option.some Jvm.ClassFile.FieldType.long), Jvm.Cond.code ({ cls := "com/example/window_payoff_solver/windowpayoffsolver/window/PairTableIndexPinLaw", name := "same", desc := "([I[JII)Z" } : Jvm.MethodName) method_4_code (4 : Nat) (Option.some Jvm.ClassFile.FieldType.boolean), Jvm.Cond.code ({ cls := "com/example/window_payoff_solver/windowpayoffsolver/window/PairTable", name := "<init>", desc := "()V" } : Jvm.MethodName) prog_81_method_1_code (1 : Nat) (Option.none : Option Jvm.ClassFile.FieldType), Jvm.Cond.code ({ cls := "java/lang/Object", name := "<init>", desc := "()V" } : Jvm.MethodName) object_method_1_code (1 : Nat) (Option.none : Option Jvm.ClassFile.FieldType), Jvm.Cond.code ({ cls := "com/example/window_payoff_solver/windowpayoffsolver/window/PairTable", name := "index", desc := "(IJ)I" } : Jvm.MethodName) prog_81_method_2_code (6 : Nat) (Option.some Jvm.ClassFile.FieldType.int), Jvm.Cond.code ({ cls := "com/example/window_payoff_solver/windowpayoffsolver/window/PairTable", name := "slot", desc := "(IJ)I" } : Jvm.MethodName) prog_81_method_6_code (5 : Nat) (Option.some Jvm.ClassFile.FieldType.int), Jvm.Cond.code ({ cls := "java/lang/Long", name := "hashCode", desc := "(J)I" } : Jvm.MethodName) jdk_35_method_36_code (2 : Nat) (Option.some Jvm.ClassFile.FieldType.int), Jvm.Cond.code ({ cls := "com/example/window_payoff_solver/windowpayoffsolver/window/PairTable", name := "size", desc := "()I" } : Jvm.MethodName) prog_81_method_3_code (1 : Nat) (Option.some Jvm.ClassFile.FieldType.int), Jvm.Cond.code ({ cls := "com/example/window_payoff_solver/windowpayoffsolver/window/PairTable", name := "first", desc := "(I)I" } : Jvm.MethodName) prog_81_method_4_code (2 : Nat) (Option.some Jvm.ClassFile.FieldType.int), Jvm.Cond.code ({ cls := "com/example/window_payoff_solver/windowpayoffsolver/window/PairTable", name := "second", desc := "(I)J" } : Jvm.MethodName) prog_81_method_5_code (2 : Nat) (Option.some Jvm.ClassFile.FieldType.long)]
set_option maxRecDepth 65536 in
theorem codes_eq : words1.filter isCode = codes1 := rfl
theorem w_codes : ∀ c ∈ words1.filter isCode, c.before args0 about1 = true := by
  rw [codes_eq]
  intro c hc
  simp only [codes1, List.mem_cons, List.not_mem_nil, or_false] at hc
  rcases hc with rfl | rfl | rfl | rfl | rfl | rfl | rfl | rfl | rfl | rfl | rfl | rfl
  · exact w_c0
  · exact w_c1
  · exact w_c2
  · exact w_c3
  · exact w_c4
  · exact w_c5
  · exact w_c6
  · exact w_c7
  · exact w_c8
  · exact w_c9
  · exact w_c10
  · exact w_c11
set_option maxRecDepth 65536 in
theorem w_t1 : (words1.take 24).all (fun c => isCode c || c.before args0 about1) = true := by decide +kernel
set_option maxRecDepth 65536 in
theorem w_t2 : ((words1.drop 24).take 24).all (fun c => isCode c || c.before args0 about1) = true := by decide +kernel
set_option maxRecDepth 65536 in
theorem w_t3 : ((words1.drop 24).drop 24).all (fun c => isCode c || c.before args0 about1) = true := by decide +kernel
theorem w_tables : (allAtoms (Jvm.Cond.code x code maxLocals ret :: tables_1)).before args0 about1 = true := by
  rw [allAtoms_all]
  show words1.all (fun c => c.before args0 about1) = true
  refine all_split ?_ w_codes
  rw [← List.take_append_drop 24 words1, List.all_append, w_t1, ← List.take_append_drop 24 (words1.drop 24), List.all_append, w_t2, w_t3]
  rfl
set_option maxRecDepth 65536 in
theorem w_case : (Jvm.Cond.and given_1 narrow_1).before args0 about1 = true := by decide +kernel
theorem w_applies : (headSpec (Jvm.Cond.code x code maxLocals ret :: tables_1) room_1).applies x e0.platform about1 = true :=
  (Spec.applies_iff w_frames).mpr ⟨w_running, w_runnable, w_alone, w_named, w_hears, w_ripe, w_room, w_tables⟩
theorem atStart : AtStart classFile x code maxLocals ret World_1 tables_1 room_1 Calls_1 rest_1 Pre_1 launch0 p0 e0 about1 theMethod args0 below0 :=
  ⟨lists_1, trivial, launch0.admits_env _ _ _, launch0.least_env, fairChoices_fair.cas, fairChoices_fair.clock, w_frames, w_args, w_heap, w_applies, trivial, trivial, w_case⟩
end start1
theorem witness_1 : WitnessClaimed_1 := ⟨start1.p0, start1.e0, start1.about1, start1.theMethod, start1.args0, start1.below0, start1.atStart⟩
end Jvm.Pilot.@@N@@
