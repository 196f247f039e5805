import JvmDerived
import JvmDerived.Pilot.@@N@@Statement
import JvmDerived.Pilot.@@N@@Code
set_option linter.unusedVariables false
set_option linter.unusedSimpArgs false
namespace Jvm.Pilot.@@N@@
open Jvm Jvm.ClassFile Sem Op Lib Jvm.Free Jvm.Stand Jvm.LawKit Jvm.RoadKit Bundle Jvm.Pilot.@@N@@.Jvm.D
section Own
variable {p : Program} {l : Launch} {e : Env} {R : Room} {s : State} {m : MethodId} {args : Array Value} {below : List Frame} {meth : Method} {c : Code} {T : State} {locs : List Loc} {cells slots : Nat} {Z : State} {a0 : Array Value} {h : Heap}
/-- from this frame on the run ends, and P holds at the end -/
def own_Go (p : Program) (e : Env) (below : List Frame) (P : Outcome → State → Prop) (T : State) (f : JFrame) : Prop :=
  ∃ s₂ o, Steps p.tables e below (T.setTop f) s₂ ∧ s₂.status = .running ∧ Ended s₂ below o ∧ P o s₂
theorem own_go {P : Outcome → State → Prop} {T T' : State} {f f' : JFrame} (st : ∀ target, Steps p.tables e below (T'.setTop f') target → Steps p.tables e below (T.setTop f) target) (hg : own_Go p e below P T' f') : own_Go p e below P T f := by
  obtain ⟨s₂, o, h1, h2⟩ := hg
  exact ⟨s₂, o, st _ h1, h2⟩
/-- what a contract says of the end -/
def own_P (Q : Option Value → Heap → List Loc → Prop) (rm : Room) (s : State) (o : Outcome) (U : State) : Prop :=
  ∃ v L, o = .returned v ∧ Q v U.heap L ∧ FrameEnd s o U L rm.cells rm.slots
/-- a contract of a body that writes nothing and returns v -/
def own_pure (v : Option Value) (h0 : Heap) (n0 : Nat) (w : Option Value) (h : Heap) (L : List Loc) : Prop := w = v ∧ Fr n0 L ∧ h = h0
/-- a contract's word, held together -/
def own_R (Q : Option Value → Heap → List Loc → Prop) : Option Value → Heap → List Loc → Prop := Q
theorem own_endZ {Q : Option Value → Heap → List Loc → Prop} (X : Stand p l e R s m args below meth c T locs cells slots) (hx : p.tables.exec = Jvm.exec) (hret : meth.sig.returnType = some .boolean) (hlk : meth.locks = false) {pc : Nat} {Ls : Array Slot} {z : Int32} {rest : List Value}
    (hd : decode c.code pc = .ok (.ireturn, 1)) (hn : narrow .boolean (.int z) = .int z) (hc : cells ≤ R.cells) (hs : slots ≤ R.slots) (hQ : Q (some (.int z)) T.heap locs) : own_Go p e below (own_P Q R s) T (mkF m pc Ls (.int z :: rest)) := by
  obtain ⟨fs, hr, hrun, hended, hW, hsame⟩ := X.leave (v := some (.int z)) (fun h => by rw [hret] at h; cases h) hlk
  exact ⟨_, _, retOut X hx hret hn (Or.inl ⟨rfl, Or.inr (Or.inl rfl), z, rfl⟩) hd hr, hrun, hended, _, _, rfl, hQ, ⟨_, rfl⟩, hW, hsame.mono hc hs⟩
theorem own_endI {Q : Option Value → Heap → List Loc → Prop} (X : Stand p l e R s m args below meth c T locs cells slots) (hx : p.tables.exec = Jvm.exec) (hret : meth.sig.returnType = some .int) (hlk : meth.locks = false) {pc : Nat} {Ls : Array Slot} {z : Int32} {rest : List Value}
    (hd : decode c.code pc = .ok (.ireturn, 1)) (hc : cells ≤ R.cells) (hs : slots ≤ R.slots) (hQ : Q (some (.int z)) T.heap locs) : own_Go p e below (own_P Q R s) T (mkF m pc Ls (.int z :: rest)) := by
  obtain ⟨fs, hr, hrun, hended, hW, hsame⟩ := X.leave (v := some (.int z)) (fun h => by rw [hret] at h; cases h) hlk
  exact ⟨_, _, retOut X hx hret rfl (Or.inl ⟨rfl, Or.inl rfl, z, rfl⟩) hd hr, hrun, hended, _, _, rfl, hQ, ⟨_, rfl⟩, hW, hsame.mono hc hs⟩
theorem own_endJ {Q : Option Value → Heap → List Loc → Prop} (X : Stand p l e R s m args below meth c T locs cells slots) (hx : p.tables.exec = Jvm.exec) (hret : meth.sig.returnType = some .long) (hlk : meth.locks = false) {pc : Nat} {Ls : Array Slot} {z : Int64} {rest : List Value}
    (hd : decode c.code pc = .ok (.lreturn, 1)) (hc : cells ≤ R.cells) (hs : slots ≤ R.slots) (hQ : Q (some (.long z)) T.heap locs) : own_Go p e below (own_P Q R s) T (mkF m pc Ls (.long z :: rest)) := by
  obtain ⟨fs, hr, hrun, hended, hW, hsame⟩ := X.leave (v := some (.long z)) (fun h => by rw [hret] at h; cases h) hlk
  exact ⟨_, _, retOut X hx hret rfl (Or.inr (Or.inl ⟨rfl, rfl, z, rfl⟩)) hd hr, hrun, hended, _, _, rfl, hQ, ⟨_, rfl⟩, hW, hsame.mono hc hs⟩
theorem own_endA {Q : Option Value → Heap → List Loc → Prop} {t : FieldType} (X : Stand p l e R s m args below meth c T locs cells slots) (hx : p.tables.exec = Jvm.exec) (hret : meth.sig.returnType = some t) (ht : t.isReference = true) (hlk : meth.locks = false) {pc : Nat} {Ls : Array Slot} {a : Addr} {rest : List Value}
    (hd : decode c.code pc = .ok (.areturn, 1)) (hn : narrow t (.ref a) = .ref a) (hc : cells ≤ R.cells) (hs : slots ≤ R.slots) (hQ : Q (some (.ref a)) T.heap locs) : own_Go p e below (own_P Q R s) T (mkF m pc Ls (.ref a :: rest)) := by
  obtain ⟨fs, hr, hrun, hended, hW, hsame⟩ := X.leave (v := some (.ref a)) (fun h => by rw [hret] at h; cases h) hlk
  exact ⟨_, _, retOut X hx hret hn (Or.inr (Or.inr (Or.inr (Or.inr ⟨rfl, ht, rfl⟩)))) hd hr, hrun, hended, _, _, rfl, hQ, ⟨_, rfl⟩, hW, hsame.mono hc hs⟩
theorem own_endV {Q : Option Value → Heap → List Loc → Prop} (X : Stand p l e R s m args below meth c T locs cells slots) (hx : p.tables.exec = Jvm.exec) (hret : meth.sig.returnType = none) (hlk : meth.locks = false) {pc : Nat} {Ls : Array Slot}
    (hd : decode c.code pc = .ok (.return_, 1)) (hc : cells ≤ R.cells) (hs : slots ≤ R.slots) (hQ : Q none T.heap locs) : own_Go p e below (own_P Q R s) T (mkF m pc Ls []) := by
  obtain ⟨fs, hr, hrun, hended, hW, hsame⟩ := X.leave (v := none) (fun _ => rfl) hlk
  exact ⟨_, _, X.returnOut hx hret hd hr, hrun, hended, _, _, rfl, hQ, ⟨_, rfl⟩, hW, hsame.mono hc hs⟩
/-- a static call, paid by the callee's contract -/
theorem own_callS (X : Stand p l e R s m args below meth c T locs cells slots) (hx : p.tables.exec = Jvm.exec) (hZ : Z.Warmed39 s.vm) {own : String} {index : Nat} {y : MethodName} {bytes : ByteArray} {maxL : Nat} {ret : Option FieldType} (hown : s.vm.findClass own = some m.cls)
    (w1 : (Cond.methodLink own index y).before a0 Z = true) (w2 : (Cond.static y).before a0 Z = true) (w3 : (Cond.initialized y.cls).before a0 Z = true) (w4 : (Cond.code y bytes maxL ret).before a0 Z = true) (hy : y.cls ≠ "java/lang/invoke/MethodHandle" ∧ y.cls ≠ "java/lang/invoke/VarHandle")
    {rm : Room} {as' : Array Value} {Q : Option Value → Heap → List Loc → Prop}
    (hM : MetFree l y (head1 [Cond.code y bytes maxL ret] rm) (fun a U => a = as' ∧ Z.Warmed39 U.vm ∧ U.heap = h) (fun _ _ _ _ _ => True) (fun _ U o U' => ∃ v L, o = .returned v ∧ Q v U'.heap L ∧ FrameEnd U o U' L rm.cells rm.slots))
    {Ls : Array Slot} {st : List Value} {W : Nat} (hf : rm.frames + 1 ≤ R.frames) (hl : W + (maxL + 11) + rm.locals ≤ R.locals) {pc : Nat} (hsize : Ls.size = c.maxLocals) {argsL rest : List Value} (hlen : ∀ sig, parseMethodDescriptor y.desc = some sig → argsL.length = sig.parameters.length)
    (has : argsL.toArray = as') (hstack : st = argsL.reverse ++ rest) (hW : (rest.map fun v => v.category).sum ≤ W) (hd : decode c.code pc = .ok (.invokestatic index, 3)) (eT : T.heap = h) (hc : cells + rm.cells ≤ R.cells) (hs : slots + rm.slots ≤ R.slots) :
    ∃ T' v L, Stand p l e R s m args below meth c T' (locs ++ L) (cells + rm.cells) (slots + rm.slots) ∧ Q v T'.heap L ∧ ∀ target, Steps p.tables e below (T'.setTop (mkF m (pc + 3) Ls (v.toList ++ rest))) target → Steps p.tables e below (T.setTop (mkF m pc Ls st)) target := by
  obtain ⟨v, _, ⟨T', L', k', n'⟩, -, X', ⟨L, hQ, l1, l2, l3⟩, st'⟩ := Jvm.LawKit.callS X hx (y := y) hown (mvT hZ w1) (mvT hZ w2) (mvT hZ w3) (mvT hZ w4) hy (backOf (W := W) hM hZ w4 w3 hf hl) (g := mkF m pc Ls st) rfl hsize (argsL := argsL) (rest := rest) hlen hstack (by show 2 * 0 + _ ≤ _; omega) hd (fun _ _ => ⟨has, eT, hc, hs⟩)
  dsimp only [Pt.U, Pt.locs, Pt.cells, Pt.slots] at X' l1 l2 l3 st' hQ
  subst l1 l2 l3
  exact ⟨T', v, L, X', hQ, st'⟩
/-- a constructor's call, paid by its contract -/
theorem own_callC (X : Stand p l e R s m args below meth c T locs cells slots) (hx : p.tables.exec = Jvm.exec) (hZ : Z.Warmed39 s.vm) {own : String} {index : Nat} {y : MethodName} {bytes : ByteArray} {maxL : Nat} (hy1 : y.name = "<init>") (hown : s.vm.findClass own = some m.cls)
    (w1 : (Cond.methodLink own index y).before a0 Z = true) (w2 : (Cond.instanceMethod y).before a0 Z = true) (w3 : (Cond.initialized y.cls).before a0 Z = true) (w4 : (Cond.code y bytes maxL none).before a0 Z = true) (hy : y.cls ≠ "java/lang/invoke/MethodHandle" ∧ y.cls ≠ "java/lang/invoke/VarHandle")
    {rm : Room} {as' : Array Value} {Q : Option Value → Heap → List Loc → Prop}
    (hM : MetFree l y (head1 [Cond.code y bytes maxL none] rm) (fun a U => a = as' ∧ Z.Warmed39 U.vm ∧ U.heap = h) (fun _ _ _ _ _ => True) (fun _ U o U' => ∃ v L, o = .returned v ∧ Q v U'.heap L ∧ FrameEnd U o U' L rm.cells rm.slots))
    {Ls : Array Slot} {st : List Value} {W : Nat} (hf : rm.frames + 1 ≤ R.frames) (hl : W + (maxL + 11) + rm.locals ≤ R.locals) {pc : Nat} (hsize : Ls.size = c.maxLocals) {a : Addr} {argsL rest : List Value} (hlen : ∀ sig, parseMethodDescriptor y.desc = some sig → argsL.length = sig.parameters.length)
    (has : (.ref a :: argsL).toArray = as') (hstack : st = argsL.reverse ++ .ref a :: rest) (hW : (rest.map fun v => v.category).sum ≤ W) (hd : decode c.code pc = .ok (.invokespecial index, 3)) (eT : T.heap = h) (hc : cells + rm.cells ≤ R.cells) (hs : slots + rm.slots ≤ R.slots) :
    ∃ T' v L, Stand p l e R s m args below meth c T' (locs ++ L) (cells + rm.cells) (slots + rm.slots) ∧ Q v T'.heap L ∧ ∀ target, Steps p.tables e below (T'.setTop (mkF m (pc + 3) Ls (v.toList ++ rest))) target → Steps p.tables e below (T.setTop (mkF m pc Ls st)) target := by
  obtain ⟨v, _, ⟨T', L', k', n'⟩, -, X', ⟨L, hQ, l1, l2, l3⟩, st'⟩ := X.specialBack hx (y := y) hy1 hown (mvT hZ w1) (mvT hZ w2) (mvT hZ w4) hy (backOf (W := W) hM hZ w4 w3 hf hl) (g := mkF m pc Ls st) rfl hsize (Steps.refl _) (a := a) (argsL := argsL) (rest := rest) hlen hstack (by show 2 * 0 + _ ≤ _; omega) hd (fun _ _ => ⟨has, eT, hc, hs⟩)
  dsimp only [Pt.U, Pt.locs, Pt.cells, Pt.slots] at X' l1 l2 l3 st' hQ
  subst l1 l2 l3
  exact ⟨T', v, L, X', hQ, fun _ k => st'.trans k⟩
/-- an instance method's call, paid by its contract -/
theorem own_callV (X : Stand p l e R s m args below meth c T locs cells slots) (hx : p.tables.exec = Jvm.exec) (hZ : Z.Warmed39 s.vm) {own : String} {index : Nat} {y : MethodName} {bytes : ByteArray} {maxL : Nat} {ret : Option FieldType} (hown : s.vm.findClass own = some m.cls)
    (w1 : (Cond.methodLink own index y).before a0 Z = true) (w2 : (Cond.declares y).before a0 Z = true) (w5 : (Cond.selects y.cls y y).before a0 Z = true) (w6 : (Cond.instanceMethod y).before a0 Z = true) (w3 : (Cond.initialized y.cls).before a0 Z = true) (w4 : (Cond.code y bytes maxL ret).before a0 Z = true) (hy : y.cls ≠ "java/lang/invoke/MethodHandle" ∧ y.cls ≠ "java/lang/invoke/VarHandle")
    {rm : Room} {as' : Array Value} {Q : Option Value → Heap → List Loc → Prop}
    (hM : MetFree l y (head1 [Cond.code y bytes maxL ret] rm) (fun a U => a = as' ∧ Z.Warmed39 U.vm ∧ U.heap = h) (fun _ _ _ _ _ => True) (fun _ U o U' => ∃ v L, o = .returned v ∧ Q v U'.heap L ∧ FrameEnd U o U' L rm.cells rm.slots))
    {a : Addr} (E : Exa Z h a y.cls)
    {Ls : Array Slot} {st : List Value} {W : Nat} (hf : rm.frames + 1 ≤ R.frames) (hl : W + (maxL + 11) + rm.locals ≤ R.locals) {pc : Nat} (hsize : Ls.size = c.maxLocals) {argsL rest : List Value} (hlen : ∀ sig, parseMethodDescriptor y.desc = some sig → argsL.length = sig.parameters.length)
    (has : (.ref a :: argsL).toArray = as') (hstack : st = argsL.reverse ++ .ref a :: rest) (hW : (rest.map fun v => v.category).sum ≤ W) (hd : decode c.code pc = .ok (.invokevirtual index, 3)) (eT : T.heap = h) (hc : cells + rm.cells ≤ R.cells) (hs : slots + rm.slots ≤ R.slots) :
    ∃ T' v L, Stand p l e R s m args below meth c T' (locs ++ L) (cells + rm.cells) (slots + rm.slots) ∧ Q v T'.heap L ∧ ∀ target, Steps p.tables e below (T'.setTop (mkF m (pc + 3) Ls (v.toList ++ rest))) target → Steps p.tables e below (T.setTop (mkF m pc Ls st)) target := by
  obtain ⟨cq, kq, qa, qb, qc⟩ := isOf hZ eT E
  obtain ⟨v, _, ⟨T', L', k', n'⟩, -, X', ⟨L, hQ, l1, l2, l3⟩, st'⟩ := X.virtualBack hx (y := y) (z := y) hown (mvT hZ w1) (mvT hZ w2) (notFace_of_selects (args := #[]) (mvT hZ w5)) (mvT hZ w5) (mvT hZ w6) hy (backOf (W := W) hM hZ w4 w3 hf hl) qa qc (g := mkF m pc Ls st) rfl hsize (Steps.refl _) (argsL := argsL) (rest := rest) hlen hstack (by show 2 * 0 + _ ≤ _; omega) hd (fun _ _ => ⟨has, eT, hc, hs⟩)
  dsimp only [Pt.U, Pt.locs, Pt.cells, Pt.slots] at X' l1 l2 l3 st' hQ
  subst l1 l2 l3
  exact ⟨T', v, L, X', hQ, fun _ k => st'.trans k⟩
/-- a private instance method's call by invokevirtual, paid by its contract; that the class is no interface, another method's 'selects' word says -/
theorem own_callP (X : Stand p l e R s m args below meth c T locs cells slots) (hx : p.tables.exec = Jvm.exec) (hZ : Z.Warmed39 s.vm) {own : String} {index : Nat} {y z : MethodName} {bytes : ByteArray} {maxL : Nat} {ret : Option FieldType} (hown : s.vm.findClass own = some m.cls)
    (w1 : (Cond.methodLink own index y).before a0 Z = true) (wp : (Cond.privateMethod y).before a0 Z = true) (w5 : (Cond.selects y.cls z z).before a0 Z = true) (hz : z.cls = y.cls) (w6 : (Cond.instanceMethod y).before a0 Z = true) (w3 : (Cond.initialized y.cls).before a0 Z = true) (w4 : (Cond.code y bytes maxL ret).before a0 Z = true) (hy : y.cls ≠ "java/lang/invoke/MethodHandle" ∧ y.cls ≠ "java/lang/invoke/VarHandle")
    {rm : Room} {as' : Array Value} {Q : Option Value → Heap → List Loc → Prop}
    (hM : MetFree l y (head1 [Cond.code y bytes maxL ret] rm) (fun a U => a = as' ∧ Z.Warmed39 U.vm ∧ U.heap = h) (fun _ _ _ _ _ => True) (fun _ U o U' => ∃ v L, o = .returned v ∧ Q v U'.heap L ∧ FrameEnd U o U' L rm.cells rm.slots))
    {a : Addr} (E : Exa Z h a y.cls)
    {Ls : Array Slot} {st : List Value} {W : Nat} (hf : rm.frames + 1 ≤ R.frames) (hl : W + (maxL + 11) + rm.locals ≤ R.locals) {pc : Nat} (hsize : Ls.size = c.maxLocals) {argsL rest : List Value} (hlen : ∀ sig, parseMethodDescriptor y.desc = some sig → argsL.length = sig.parameters.length)
    (has : (.ref a :: argsL).toArray = as') (hstack : st = argsL.reverse ++ .ref a :: rest) (hW : (rest.map fun v => v.category).sum ≤ W) (hd : decode c.code pc = .ok (.invokevirtual index, 3)) (eT : T.heap = h) (hc : cells + rm.cells ≤ R.cells) (hs : slots + rm.slots ≤ R.slots) :
    ∃ T' v L, Stand p l e R s m args below meth c T' (locs ++ L) (cells + rm.cells) (slots + rm.slots) ∧ Q v T'.heap L ∧ ∀ target, Steps p.tables e below (T'.setTop (mkF m (pc + 3) Ls (v.toList ++ rest))) target → Steps p.tables e below (T.setTop (mkF m pc Ls st)) target := by
  have hpriv : s.PrivateAt y := Cond.privateMethod_at (mvP hZ wp (args := #[]))
  obtain ⟨c2, r2, m2, q1, q2, q3, q4, kP, hkP, hkPi⟩ := Cond.selects_spec (show (Cond.selects y.cls z z).before args s = true from mvT hZ w5)
  have hcl : s.vm.findClass y.cls = some m2.cls := by rw [← hz]; exact findClass_of_methodNamed q3
  have hsel := selects_self_of_private (args := args) hcl hkP hkPi hpriv (mvT hZ w6) hy
  obtain ⟨cell, hcell, hobj⟩ := E.cell
  obtain ⟨v, _, ⟨T', L', k', n'⟩, -, X', ⟨L, hQ, l1, l2, l3⟩, st'⟩ := X.privateBack hx (y := y) hown (mvT hZ w1) (mvT hZ w6) hsel hpriv (mvT hZ w4) hy (backOf (W := W) hM hZ w4 w3 hf hl) (g := mkF m pc Ls st) rfl hsize (Steps.refl _) (a := a) (by rw [eT]; exact hcell) hobj (argsL := argsL) (rest := rest) hlen hstack (by show 2 * 0 + _ ≤ _; omega) hd (fun _ _ => ⟨has, eT, hc, hs⟩)
  dsimp only [Pt.U, Pt.locs, Pt.cells, Pt.slots] at X' l1 l2 l3 st' hQ
  subst l1 l2 l3
  exact ⟨T', v, L, X', hQ, fun _ k => st'.trans k⟩
end Own
theorem pd_0 : parseMethodDescriptor "(I)I" = some ⟨[.int], some .int⟩ := by decide +kernel
theorem pn_0 : plainName "com/example/chromarc/chromarc/LevelTracks" = true := by first | (simp [plainName, overriddenIn]; done) | decide +kernel
theorem pn_1 : plainName "com/example/chromarc/chromarc/LevelTracksLevelOfPinLaw" = true := by first | (simp [plainName, overriddenIn]; done) | decide +kernel
theorem d1_0 : decode prog_32_method_3_code 0 = .ok (.iload_n 0, 1) := by decide +kernel
theorem d1_1 : decode prog_32_method_3_code 1 = .ok (.i2l, 1) := by decide +kernel
theorem d1_2 : decode prog_32_method_3_code 2 = .ok (.ldc2_w 72, 3) := by decide +kernel
theorem d1_5 : decode prog_32_method_3_code 5 = .ok (.ladd, 1) := by decide +kernel
theorem d1_6 : decode prog_32_method_3_code 6 = .ok (.ldc2_w 74, 3) := by decide +kernel
theorem d1_9 : decode prog_32_method_3_code 9 = .ok (.ldiv, 1) := by decide +kernel
theorem d1_10 : decode prog_32_method_3_code 10 = .ok (.l2i, 1) := by decide +kernel
theorem d1_11 : decode prog_32_method_3_code 11 = .ok (.ireturn, 1) := by decide +kernel
/-- what levelOf returns -/
def own_lv (x : Int32) : Int32 := ((x.toInt64 + (4 : Int64)) / (3 : Int64)).toInt32
theorem own_mask (x : Int32) : 0 ≤ (x &&& (2147483647 : Int32)).toInt := by
  have := c_mask x 2147483647 31 (by decide) (by decide)
  omega
theorem own_lvI (c : Int32) (hc : 0 ≤ c.toInt) : (own_lv c).toInt = (c.toInt + 4) / 3 := by
  have h1 := c_i2l c
  have h2 := c_ladd c.toInt64 4
  have h3 := rng64 (c.toInt64 + 4)
  have r1 := rng32 c
  have e4 : (4 : Int64).toInt = 4 := rfl
  have h4 := (c_ldiv (c.toInt64 + 4) 3 3 rfl (by decide)).1 (by omega)
  have h5 := c_l2i ((c.toInt64 + 4) / 3)
  have r2 := rng32 (own_lv c)
  unfold own_lv at *
  omega
theorem own_mul (j : Int32) : ((3 : Int64) * j.toInt64).toInt = 3 * j.toInt := by
  have h1 := c_i2l j
  have h2 := c_lmul 3 j.toInt64
  have h3 := rng64 ((3 : Int64) * j.toInt64)
  have r1 := rng32 j
  have e3 : (3 : Int64).toInt = 3 := rfl
  rw [e3] at h2
  omega
theorem own_lo (j k : Int32) (a : Int64) (ha : 0 ≤ a.toInt ∧ a.toInt ≤ 100) : ((3 : Int64) * j.toInt64 - a).toInt = 3 * j.toInt - a.toInt := by
  have h1 := own_mul j
  have h2 := c_lsub ((3 : Int64) * j.toInt64) a
  have h3 := rng64 ((3 : Int64) * j.toInt64 - a)
  have r1 := rng32 j
  omega
theorem ef_1 (m : MethodId) (x0 : Int32) : entryFrame m #[(.int x0)] 1 = mkF m 0 #[.val (.int x0)] [] := by first | (simp [entryFrame, mkF, argsToLocals, Value.category]; done) | rfl
set_option maxRecDepth 65536 in
set_option maxHeartbeats 40000000 in
theorem rm1 (l : Launch) (Z : State) (a0 : Array Value) (hw : ∀ d ∈ tables_1, d.before a0 Z = true) (ws : List Jvm.Cond) (p1 : Int32) (h0 : Heap) (n0 : Nat) (Z0 : n0 ≤ h0.size)  :
    MetFree l (⟨"com/example/chromarc/chromarc/LevelTracks", "levelOf", "(I)I"⟩ : MethodName) (head1 (Jvm.Cond.code (⟨"com/example/chromarc/chromarc/LevelTracks", "levelOf", "(I)I"⟩ : MethodName) prog_32_method_3_code 1 (some .int) :: ws) ({ frames := 0, cells := 0, slots := 0, locals := 0 } : Room)) (fun a U => a = #[(.int p1)] ∧ Z.Warmed39 U.vm ∧ U.heap = h0) (fun _ _ _ _ _ => True) (fun _ U o U' => ∃ v L, o = .returned v ∧ (own_pure (some (.int (own_lv p1))) h0 n0) v U'.heap L ∧ FrameEnd U o U' L ({ frames := 0, cells := 0, slots := 0, locals := 0 } : Room).cells ({ frames := 0, cells := 0, slots := 0, locals := 0 } : Room).slots) := by
  refine MetFree.of_bodySF (plainFor_of_name pn_0) hisR ?_
  intro p e s m args below meth c s₁ Bd hml0 hP hK
  obtain ⟨rfl, hZ, hh⟩ := hP
  have hx := Bd.exec
  have hby := Bd.bytes
  have hml : c.maxLocals = 1 := hml0
  have hown : s.vm.findClass "com/example/chromarc/chromarc/LevelTracks" = some m.cls := findClass_of_methodNamed Bd.named
  have hnm := (name_of_methodNamed Bd.named Bd.method).1
  have hret := Bd.returns
  have hlk : meth.locks = false := Bd.notSynchronized
  have X0 : Stand p l e ({ frames := 0, cells := 0, slots := 0, locals := 0 } : Room) s m #[(.int p1)] below meth c s₁ [] 0 0 := Stand.of_body Bd
  have e0 : s₁.heap = h0 := by rw [← hh, Bd.state]; rfl
  have N0 := Fr.nil n0
  show own_Go p e below (own_P (own_pure (some (.int (own_lv p1))) h0 n0) ({ frames := 0, cells := 0, slots := 0, locals := 0 } : Room) s) s₁ (entryFrame m #[(.int p1)] 1)
  rw [ef_1 m p1]
  show own_Go p e below _ s₁ (mkF m 0 #[.val (.int p1)] [])
  refine own_go (fun _ k => XS.iloadN X0.here hx rfl (hb hby d1_0) rfl  k) ?_
  show own_Go p e below _ s₁ (mkF m 1 #[.val (.int p1)] [(.int p1)])
  refine own_go (fun _ k => XS.i2l X0.here hx rfl (hb hby d1_1) rfl k) ?_
  show own_Go p e below _ s₁ (mkF m 2 #[.val (.int p1)] [(.long (p1.toInt64))])
  refine own_go (fun _ k => X0.ldc2Long hx hown (mvT hZ (hw _ (List.mem_of_getElem? (i := 5) rfl))) (g := (mkF m 2 #[.val (.int p1)] [(.long (p1.toInt64))])) rfl (hb hby d1_2) _ k) ?_
  show own_Go p e below _ s₁ (mkF m 5 #[.val (.int p1)] [(.long (4 : Int64)), (.long (p1.toInt64))])
  refine own_go (fun _ k => XS.ladd X0.here hx rfl (hb hby d1_5) rfl k) ?_
  show own_Go p e below _ s₁ (mkF m 6 #[.val (.int p1)] [(.long ((p1.toInt64) + (4 : Int64)))])
  refine own_go (fun _ k => X0.ldc2Long hx hown (mvT hZ (hw _ (List.mem_of_getElem? (i := 6) rfl))) (g := (mkF m 6 #[.val (.int p1)] [(.long ((p1.toInt64) + (4 : Int64)))])) rfl (hb hby d1_6) _ k) ?_
  show own_Go p e below _ s₁ (mkF m 9 #[.val (.int p1)] [(.long (3 : Int64)), (.long ((p1.toInt64) + (4 : Int64)))])
  refine own_go (fun _ k => XS.ldiv X0.here hx rfl (hb hby d1_9) rfl (by decide) k) ?_
  show own_Go p e below _ s₁ (mkF m 10 #[.val (.int p1)] [(.long (((p1.toInt64) + (4 : Int64)) / (3 : Int64)))])
  refine own_go (fun _ k => XS.l2i X0.here hx rfl (hb hby d1_10) rfl k) ?_
  show own_Go p e below _ s₁ (mkF m 11 #[.val (.int p1)] [(.int ((((p1.toInt64) + (4 : Int64)) / (3 : Int64)).toInt32))])
  exact own_endI X0 hx hret hlk (hb hby d1_11) (by decide) (by decide) ⟨rfl, N0, e0⟩
theorem ef_0 (m : MethodId) (x0 : Int32) : entryFrame m #[(.int x0)] maxLocals = mkF m 0 #[.val (.int x0), .unset, .unset, .unset, .unset, .unset, .unset] [] := by first | (simp [entryFrame, mkF, argsToLocals, Value.category, maxLocals]; done) | rfl
set_option maxRecDepth 65536 in
set_option maxHeartbeats 40000000 in
theorem rm0 (l : Launch) (Z : State) (a0 : Array Value) (hw : ∀ d ∈ tables_1, d.before a0 Z = true) (ws : List Jvm.Cond) (p1 : Int32) (h0 : Heap) (n0 : Nat) (Z0 : n0 ≤ h0.size)  :
    MetFree l x (head1 (Jvm.Cond.code x code maxLocals ret :: ws) room_1) (fun a U => a = #[(.int p1)] ∧ Z.Warmed39 U.vm ∧ U.heap = h0) (fun _ _ _ _ _ => True) (fun _ U o U' => ∃ v L, o = .returned v ∧ (own_R (fun v _ L => v = some (.int 1) ∧ Fr n0 L)) v U'.heap L ∧ FrameEnd U o U' L room_1.cells room_1.slots) := by
  refine MetFree.of_bodySF (plainFor_of_name pn_1) hisR ?_
  intro p e s m args below meth c s₁ Bd hml0 hP hK
  obtain ⟨rfl, hZ, hh⟩ := hP
  have hx := Bd.exec
  have hby := Bd.bytes
  have hml : c.maxLocals = 7 := hml0
  have hown : s.vm.findClass "com/example/chromarc/chromarc/LevelTracksLevelOfPinLaw" = some m.cls := findClass_of_methodNamed Bd.named
  have hnm := (name_of_methodNamed Bd.named Bd.method).1
  have hret := Bd.returns
  have hlk : meth.locks = false := Bd.notSynchronized
  have X0 : Stand p l e room_1 s m #[(.int p1)] below meth c s₁ [] 0 0 := Stand.of_body Bd
  have e0 : s₁.heap = h0 := by rw [← hh, Bd.state]; rfl
  have N0 := Fr.nil n0
  show own_Go p e below (own_P (own_R (fun v _ L => v = some (.int 1) ∧ Fr n0 L)) room_1 s) s₁ (entryFrame m #[(.int p1)] maxLocals)
  rw [ef_0 m p1]
  show own_Go p e below _ s₁ (mkF m 0 #[.val (.int p1), .unset, .unset, .unset, .unset, .unset, .unset] [])
  refine own_go (fun _ k => XS.iloadN X0.here hx rfl (hb hby at_0) rfl  k) ?_
  show own_Go p e below _ s₁ (mkF m 1 #[.val (.int p1), .unset, .unset, .unset, .unset, .unset, .unset] [(.int p1)])
  refine own_go (fun _ k => X0.ldcInt hx hown (mvT hZ (hw _ (List.mem_of_getElem? (i := 0) rfl))) (g := (mkF m 1 #[.val (.int p1), .unset, .unset, .unset, .unset, .unset, .unset] [(.int p1)])) rfl (hb hby at_1) _ k) ?_
  show own_Go p e below _ s₁ (mkF m 3 #[.val (.int p1), .unset, .unset, .unset, .unset, .unset, .unset] [(.int (2147483647 : Int32)), (.int p1)])
  refine own_go (fun _ k => XS.iand X0.here hx rfl (hb hby at_3) rfl k) ?_
  show own_Go p e below _ s₁ (mkF m 4 #[.val (.int p1), .unset, .unset, .unset, .unset, .unset, .unset] [(.int (p1 &&& (2147483647 : Int32)))])
  refine own_go (fun _ k => XS.istoreN X0.here hx rfl (hb hby at_4) rfl (l' := #[.val (.int p1), .val (.int (p1 &&& (2147483647 : Int32))), .unset, .unset, .unset, .unset, .unset]) rfl k) ?_
  show own_Go p e below _ s₁ (mkF m 5 #[.val (.int p1), .val (.int (p1 &&& (2147483647 : Int32))), .unset, .unset, .unset, .unset, .unset] [])
  refine own_go (fun _ k => XS.iloadN X0.here hx rfl (hb hby at_5) rfl  k) ?_
  show own_Go p e below _ s₁ (mkF m 6 #[.val (.int p1), .val (.int (p1 &&& (2147483647 : Int32))), .unset, .unset, .unset, .unset, .unset] [(.int (p1 &&& (2147483647 : Int32)))])
  have hm := own_mask p1
  generalize hcc : (p1 &&& (2147483647 : Int32)) = cc at *
  show own_Go p e below _ s₁ (mkF m 6 #[.val (.int p1), .val (.int cc), .unset, .unset, .unset, .unset, .unset] [(.int cc)])
  by_cases hz : cc = (0 : Int32)
  · refine own_go (fun _ k => XS.ifNo X0.here hx rfl (hb hby at_6) rfl ((if0 _ _).trans (teq hz).2) k) ?_
    show own_Go p e below _ s₁ (mkF m 9 #[.val (.int p1), .val (.int cc), .unset, .unset, .unset, .unset, .unset] [])
    refine own_go (fun _ k => XS.iconst X0.here hx rfl (hb hby at_9) k) ?_
    show own_Go p e below _ s₁ (mkF m 10 #[.val (.int p1), .val (.int cc), .unset, .unset, .unset, .unset, .unset] [(.int (1 : Int32))])
    exact own_endZ X0 hx hret hlk (hb hby at_10) rfl (by decide) (by decide) ⟨rfl, N0⟩
  · refine own_go (fun _ k => XS.ifYes X0.here hx rfl (pc0 := 6) (pc' := 11) rfl (hb hby at_6) rfl ((if0 _ _).trans (feq hz).2) (by decide) (by decide) k) ?_
    show own_Go p e below _ s₁ (mkF m 11 #[.val (.int p1), .val (.int cc), .unset, .unset, .unset, .unset, .unset] [])
    refine own_go (fun _ k => XS.iloadN X0.here hx rfl (hb hby at_11) rfl  k) ?_
    show own_Go p e below _ s₁ (mkF m 12 #[.val (.int p1), .val (.int cc), .unset, .unset, .unset, .unset, .unset] [(.int cc)])
    obtain ⟨T1, v1, L1, X1, q1, st1⟩ := own_callS X0 hx hZ hown (y := (⟨"com/example/chromarc/chromarc/LevelTracks", "levelOf", "(I)I"⟩ : MethodName)) (hw _ (List.mem_of_getElem? (i := 1) rfl)) (hw _ (List.mem_of_getElem? (i := 2) rfl)) (hw _ (List.mem_of_getElem? (i := 3) rfl)) (hw _ (List.mem_of_getElem? (i := 4) rfl)) (by decide) (rm1 l Z a0 hw [] cc h0 n0 Z0) (Ls := #[.val (.int p1), .val (.int cc), .unset, .unset, .unset, .unset, .unset]) (st := [(.int cc)]) (W := 0) (by decide) (by decide) (by rw [hml]; rfl) (argsL := [(.int cc)]) (rest := []) (lenOf pd_0 rfl) rfl rfl (Nat.le_of_eq rfl) (hb hby at_12) e0 (by decide) (by decide)
    obtain ⟨rfl, N1', e1⟩ := q1
    have N1 := Fr.app N0 N1'
    refine own_go st1 ?_
    show own_Go p e below _ T1 (mkF m 15 #[.val (.int p1), .val (.int cc), .unset, .unset, .unset, .unset, .unset] [(.int (own_lv cc))])
    have hl := own_lvI cc hm
    have hz' : ¬ cc.toInt = 0 := fun q => hz (Int32.toInt_inj.mp q)
    generalize hjj : own_lv cc = j at *
    show own_Go p e below _ T1 (mkF m 15 #[.val (.int p1), .val (.int cc), .unset, .unset, .unset, .unset, .unset] [(.int j)])
    refine own_go (fun _ k => XS.istoreN X1.here hx rfl (hb hby at_15) rfl (l' := #[.val (.int p1), .val (.int cc), .val (.int j), .unset, .unset, .unset, .unset]) rfl k) ?_
    show own_Go p e below _ T1 (mkF m 16 #[.val (.int p1), .val (.int cc), .val (.int j), .unset, .unset, .unset, .unset] [])
    refine own_go (fun _ k => XS.iloadN X1.here hx rfl (hb hby at_16) rfl  k) ?_
    show own_Go p e below _ T1 (mkF m 17 #[.val (.int p1), .val (.int cc), .val (.int j), .unset, .unset, .unset, .unset] [(.int cc)])
    refine own_go (fun _ k => XS.iconst X1.here hx rfl (hb hby at_17) k) ?_
    show own_Go p e below _ T1 (mkF m 18 #[.val (.int p1), .val (.int cc), .val (.int j), .unset, .unset, .unset, .unset] [(.int (1 : Int32)), (.int cc)])
    by_cases h1 : cc = (1 : Int32)
    · refine own_go (fun _ k => XS.icmpNo X1.here hx rfl (hb hby at_18) rfl (teq h1).2 k) ?_
      show own_Go p e below _ T1 (mkF m 21 #[.val (.int p1), .val (.int cc), .val (.int j), .unset, .unset, .unset, .unset] [])
      refine own_go (fun _ k => XS.iloadN X1.here hx rfl (hb hby at_21) rfl  k) ?_
      show own_Go p e below _ T1 (mkF m 22 #[.val (.int p1), .val (.int cc), .val (.int j), .unset, .unset, .unset, .unset] [(.int j)])
      refine own_go (fun _ k => XS.iconst X1.here hx rfl (hb hby at_22) k) ?_
      show own_Go p e below _ T1 (mkF m 23 #[.val (.int p1), .val (.int cc), .val (.int j), .unset, .unset, .unset, .unset] [(.int (1 : Int32)), (.int j)])
      have hj : j = 1 := Int32.toInt_inj.mp (by rw [hl, h1]; rfl)
      refine own_go (fun _ k => XS.icmpNo X1.here hx rfl (hb hby at_23) rfl (teq hj).2 k) ?_
      show own_Go p e below _ T1 (mkF m 26 #[.val (.int p1), .val (.int cc), .val (.int j), .unset, .unset, .unset, .unset] [])
      refine own_go (fun _ k => XS.iconst X1.here hx rfl (hb hby at_26) k) ?_
      show own_Go p e below _ T1 (mkF m 27 #[.val (.int p1), .val (.int cc), .val (.int j), .unset, .unset, .unset, .unset] [(.int (1 : Int32))])
      refine own_go (fun _ k => XS.goto X1.here hx rfl (pc0 := 27) (pc' := 31) rfl (hb hby at_27) (by decide) (by decide) k) ?_
      show own_Go p e below _ T1 (mkF m 31 #[.val (.int p1), .val (.int cc), .val (.int j), .unset, .unset, .unset, .unset] [(.int (1 : Int32))])
      exact own_endZ X1 hx hret hlk (hb hby at_31) rfl (by decide) (by decide) ⟨rfl, N1⟩
    · refine own_go (fun _ k => XS.icmpYes X1.here hx rfl (pc0 := 18) (pc' := 32) rfl (hb hby at_18) rfl (feq h1).2 (by decide) (by decide) k) ?_
      show own_Go p e below _ T1 (mkF m 32 #[.val (.int p1), .val (.int cc), .val (.int j), .unset, .unset, .unset, .unset] [])
      have h1' : ¬ cc.toInt = 1 := fun q => h1 (Int32.toInt_inj.mp q)
      have r1 := rng32 cc
      refine own_go (fun _ k => X1.ldc2Long hx hown (mvT hZ (hw _ (List.mem_of_getElem? (i := 7) rfl))) (g := (mkF m 32 #[.val (.int p1), .val (.int cc), .val (.int j), .unset, .unset, .unset, .unset] [])) rfl (hb hby at_32) _ k) ?_
      show own_Go p e below _ T1 (mkF m 35 #[.val (.int p1), .val (.int cc), .val (.int j), .unset, .unset, .unset, .unset] [(.long (3 : Int64))])
      refine own_go (fun _ k => XS.iloadN X1.here hx rfl (hb hby at_35) rfl  k) ?_
      show own_Go p e below _ T1 (mkF m 36 #[.val (.int p1), .val (.int cc), .val (.int j), .unset, .unset, .unset, .unset] [(.int j), (.long (3 : Int64))])
      refine own_go (fun _ k => XS.i2l X1.here hx rfl (hb hby at_36) rfl k) ?_
      show own_Go p e below _ T1 (mkF m 37 #[.val (.int p1), .val (.int cc), .val (.int j), .unset, .unset, .unset, .unset] [(.long (j.toInt64)), (.long (3 : Int64))])
      refine own_go (fun _ k => XS.lmul X1.here hx rfl (hb hby at_37) rfl k) ?_
      show own_Go p e below _ T1 (mkF m 38 #[.val (.int p1), .val (.int cc), .val (.int j), .unset, .unset, .unset, .unset] [(.long ((3 : Int64) * (j.toInt64)))])
      refine own_go (fun _ k => X1.ldc2Long hx hown (mvT hZ (hw _ (List.mem_of_getElem? (i := 8) rfl))) (g := (mkF m 38 #[.val (.int p1), .val (.int cc), .val (.int j), .unset, .unset, .unset, .unset] [(.long ((3 : Int64) * (j.toInt64)))])) rfl (hb hby at_38) _ k) ?_
      show own_Go p e below _ T1 (mkF m 41 #[.val (.int p1), .val (.int cc), .val (.int j), .unset, .unset, .unset, .unset] [(.long (4 : Int64)), (.long ((3 : Int64) * (j.toInt64)))])
      refine own_go (fun _ k => XS.lsub X1.here hx rfl (hb hby at_41) rfl k) ?_
      show own_Go p e below _ T1 (mkF m 42 #[.val (.int p1), .val (.int cc), .val (.int j), .unset, .unset, .unset, .unset] [(.long (((3 : Int64) * (j.toInt64)) - (4 : Int64)))])
      refine own_go (fun _ k => XS.lstoreN X1.here hx rfl (hb hby at_42) rfl (l' := #[.val (.int p1), .val (.int cc), .val (.int j), .val (.long (((3 : Int64) * (j.toInt64)) - (4 : Int64))), .second, .unset, .unset]) rfl k) ?_
      show own_Go p e below _ T1 (mkF m 43 #[.val (.int p1), .val (.int cc), .val (.int j), .val (.long (((3 : Int64) * (j.toInt64)) - (4 : Int64))), .second, .unset, .unset] [])
      refine own_go (fun _ k => X1.ldc2Long hx hown (mvT hZ (hw _ (List.mem_of_getElem? (i := 7) rfl))) (g := (mkF m 43 #[.val (.int p1), .val (.int cc), .val (.int j), .val (.long (((3 : Int64) * (j.toInt64)) - (4 : Int64))), .second, .unset, .unset] [])) rfl (hb hby at_43) _ k) ?_
      show own_Go p e below _ T1 (mkF m 46 #[.val (.int p1), .val (.int cc), .val (.int j), .val (.long (((3 : Int64) * (j.toInt64)) - (4 : Int64))), .second, .unset, .unset] [(.long (3 : Int64))])
      refine own_go (fun _ k => XS.iloadN X1.here hx rfl (hb hby at_46) rfl  k) ?_
      show own_Go p e below _ T1 (mkF m 47 #[.val (.int p1), .val (.int cc), .val (.int j), .val (.long (((3 : Int64) * (j.toInt64)) - (4 : Int64))), .second, .unset, .unset] [(.int j), (.long (3 : Int64))])
      refine own_go (fun _ k => XS.i2l X1.here hx rfl (hb hby at_47) rfl k) ?_
      show own_Go p e below _ T1 (mkF m 48 #[.val (.int p1), .val (.int cc), .val (.int j), .val (.long (((3 : Int64) * (j.toInt64)) - (4 : Int64))), .second, .unset, .unset] [(.long (j.toInt64)), (.long (3 : Int64))])
      refine own_go (fun _ k => XS.lmul X1.here hx rfl (hb hby at_48) rfl k) ?_
      show own_Go p e below _ T1 (mkF m 49 #[.val (.int p1), .val (.int cc), .val (.int j), .val (.long (((3 : Int64) * (j.toInt64)) - (4 : Int64))), .second, .unset, .unset] [(.long ((3 : Int64) * (j.toInt64)))])
      refine own_go (fun _ k => X1.ldc2Long hx hown (mvT hZ (hw _ (List.mem_of_getElem? (i := 9) rfl))) (g := (mkF m 49 #[.val (.int p1), .val (.int cc), .val (.int j), .val (.long (((3 : Int64) * (j.toInt64)) - (4 : Int64))), .second, .unset, .unset] [(.long ((3 : Int64) * (j.toInt64)))])) rfl (hb hby at_49) _ k) ?_
      show own_Go p e below _ T1 (mkF m 52 #[.val (.int p1), .val (.int cc), .val (.int j), .val (.long (((3 : Int64) * (j.toInt64)) - (4 : Int64))), .second, .unset, .unset] [(.long (2 : Int64)), (.long ((3 : Int64) * (j.toInt64)))])
      refine own_go (fun _ k => XS.lsub X1.here hx rfl (hb hby at_52) rfl k) ?_
      show own_Go p e below _ T1 (mkF m 53 #[.val (.int p1), .val (.int cc), .val (.int j), .val (.long (((3 : Int64) * (j.toInt64)) - (4 : Int64))), .second, .unset, .unset] [(.long (((3 : Int64) * (j.toInt64)) - (2 : Int64)))])
      refine own_go (fun _ k => XS.lstore X1.here hx rfl (hb hby at_53) rfl (l' := #[.val (.int p1), .val (.int cc), .val (.int j), .val (.long (((3 : Int64) * (j.toInt64)) - (4 : Int64))), .second, .val (.long (((3 : Int64) * (j.toInt64)) - (2 : Int64))), .second]) rfl k) ?_
      show own_Go p e below _ T1 (mkF m 55 #[.val (.int p1), .val (.int cc), .val (.int j), .val (.long (((3 : Int64) * (j.toInt64)) - (4 : Int64))), .second, .val (.long (((3 : Int64) * (j.toInt64)) - (2 : Int64))), .second] [])
      refine own_go (fun _ k => XS.iloadN X1.here hx rfl (hb hby at_55) rfl  k) ?_
      show own_Go p e below _ T1 (mkF m 56 #[.val (.int p1), .val (.int cc), .val (.int j), .val (.long (((3 : Int64) * (j.toInt64)) - (4 : Int64))), .second, .val (.long (((3 : Int64) * (j.toInt64)) - (2 : Int64))), .second] [(.int j)])
      refine own_go (fun _ k => XS.iconst X1.here hx rfl (hb hby at_56) k) ?_
      show own_Go p e below _ T1 (mkF m 57 #[.val (.int p1), .val (.int cc), .val (.int j), .val (.long (((3 : Int64) * (j.toInt64)) - (4 : Int64))), .second, .val (.long (((3 : Int64) * (j.toInt64)) - (2 : Int64))), .second] [(.int (2 : Int32)), (.int j)])
      have hj2 : ¬ j < 2 := by rw [Int32.lt_iff_toInt_lt]; show ¬ j.toInt < 2; omega
      refine own_go (fun _ k => XS.icmpNo X1.here hx rfl (hb hby at_57) rfl (flt hj2).1 k) ?_
      show own_Go p e below _ T1 (mkF m 60 #[.val (.int p1), .val (.int cc), .val (.int j), .val (.long (((3 : Int64) * (j.toInt64)) - (4 : Int64))), .second, .val (.long (((3 : Int64) * (j.toInt64)) - (2 : Int64))), .second] [])
      refine own_go (fun _ k => XS.lloadN X1.here hx rfl (hb hby at_60) rfl  k) ?_
      show own_Go p e below _ T1 (mkF m 61 #[.val (.int p1), .val (.int cc), .val (.int j), .val (.long (((3 : Int64) * (j.toInt64)) - (4 : Int64))), .second, .val (.long (((3 : Int64) * (j.toInt64)) - (2 : Int64))), .second] [(.long (((3 : Int64) * (j.toInt64)) - (4 : Int64)))])
      refine own_go (fun _ k => XS.iloadN X1.here hx rfl (hb hby at_61) rfl  k) ?_
      show own_Go p e below _ T1 (mkF m 62 #[.val (.int p1), .val (.int cc), .val (.int j), .val (.long (((3 : Int64) * (j.toInt64)) - (4 : Int64))), .second, .val (.long (((3 : Int64) * (j.toInt64)) - (2 : Int64))), .second] [(.int cc), (.long (((3 : Int64) * (j.toInt64)) - (4 : Int64)))])
      refine own_go (fun _ k => XS.i2l X1.here hx rfl (hb hby at_62) rfl k) ?_
      show own_Go p e below _ T1 (mkF m 63 #[.val (.int p1), .val (.int cc), .val (.int j), .val (.long (((3 : Int64) * (j.toInt64)) - (4 : Int64))), .second, .val (.long (((3 : Int64) * (j.toInt64)) - (2 : Int64))), .second] [(.long (cc.toInt64)), (.long (((3 : Int64) * (j.toInt64)) - (4 : Int64)))])
      refine own_go (fun _ k => XS.lcmp X1.here hx rfl (hb hby at_63) rfl k) ?_
      show own_Go p e below _ T1 (mkF m 64 #[.val (.int p1), .val (.int cc), .val (.int j), .val (.long (((3 : Int64) * (j.toInt64)) - (4 : Int64))), .second, .val (.long (((3 : Int64) * (j.toInt64)) - (2 : Int64))), .second] [(.int (lcmpW (((3 : Int64) * (j.toInt64)) - (4 : Int64)) (cc.toInt64)))])
      have hlo : ¬ (cc.toInt64) < (((3 : Int64) * (j.toInt64)) - (4 : Int64)) := by
        rw [Int64.lt_iff_toInt_lt, own_lo j j 4 (by decide), c_i2l]; show ¬ _ < _ - 4; omega
      refine own_go (fun _ k => XS.ifNo X1.here hx rfl (hb hby at_64) rfl ((if0 _ _).trans (flt ((not_congr (lw_gt _ _)).mpr hlo)).2.2.1) k) ?_
      show own_Go p e below _ T1 (mkF m 67 #[.val (.int p1), .val (.int cc), .val (.int j), .val (.long (((3 : Int64) * (j.toInt64)) - (4 : Int64))), .second, .val (.long (((3 : Int64) * (j.toInt64)) - (2 : Int64))), .second] [])
      refine own_go (fun _ k => XS.iloadN X1.here hx rfl (hb hby at_67) rfl  k) ?_
      show own_Go p e below _ T1 (mkF m 68 #[.val (.int p1), .val (.int cc), .val (.int j), .val (.long (((3 : Int64) * (j.toInt64)) - (4 : Int64))), .second, .val (.long (((3 : Int64) * (j.toInt64)) - (2 : Int64))), .second] [(.int cc)])
      refine own_go (fun _ k => XS.i2l X1.here hx rfl (hb hby at_68) rfl k) ?_
      show own_Go p e below _ T1 (mkF m 69 #[.val (.int p1), .val (.int cc), .val (.int j), .val (.long (((3 : Int64) * (j.toInt64)) - (4 : Int64))), .second, .val (.long (((3 : Int64) * (j.toInt64)) - (2 : Int64))), .second] [(.long (cc.toInt64))])
      refine own_go (fun _ k => XS.lload X1.here hx rfl (hb hby at_69) rfl  k) ?_
      show own_Go p e below _ T1 (mkF m 71 #[.val (.int p1), .val (.int cc), .val (.int j), .val (.long (((3 : Int64) * (j.toInt64)) - (4 : Int64))), .second, .val (.long (((3 : Int64) * (j.toInt64)) - (2 : Int64))), .second] [(.long (((3 : Int64) * (j.toInt64)) - (2 : Int64))), (.long (cc.toInt64))])
      refine own_go (fun _ k => XS.lcmp X1.here hx rfl (hb hby at_71) rfl k) ?_
      show own_Go p e below _ T1 (mkF m 72 #[.val (.int p1), .val (.int cc), .val (.int j), .val (.long (((3 : Int64) * (j.toInt64)) - (4 : Int64))), .second, .val (.long (((3 : Int64) * (j.toInt64)) - (2 : Int64))), .second] [(.int (lcmpW (cc.toInt64) (((3 : Int64) * (j.toInt64)) - (2 : Int64))))])
      have hhi : ¬ (((3 : Int64) * (j.toInt64)) - (2 : Int64)) < (cc.toInt64) := by
        rw [Int64.lt_iff_toInt_lt, own_lo j j 2 (by decide), c_i2l]; show ¬ _ - 2 < _; omega
      refine own_go (fun _ k => XS.ifNo X1.here hx rfl (hb hby at_72) rfl ((if0 _ _).trans (flt ((not_congr (lw_gt _ _)).mpr hhi)).2.2.1) k) ?_
      show own_Go p e below _ T1 (mkF m 75 #[.val (.int p1), .val (.int cc), .val (.int j), .val (.long (((3 : Int64) * (j.toInt64)) - (4 : Int64))), .second, .val (.long (((3 : Int64) * (j.toInt64)) - (2 : Int64))), .second] [])
      refine own_go (fun _ k => XS.iconst X1.here hx rfl (hb hby at_75) k) ?_
      show own_Go p e below _ T1 (mkF m 76 #[.val (.int p1), .val (.int cc), .val (.int j), .val (.long (((3 : Int64) * (j.toInt64)) - (4 : Int64))), .second, .val (.long (((3 : Int64) * (j.toInt64)) - (2 : Int64))), .second] [(.int (1 : Int32))])
      refine own_go (fun _ k => XS.goto X1.here hx rfl (pc0 := 76) (pc' := 80) rfl (hb hby at_76) (by decide) (by decide) k) ?_
      show own_Go p e below _ T1 (mkF m 80 #[.val (.int p1), .val (.int cc), .val (.int j), .val (.long (((3 : Int64) * (j.toInt64)) - (4 : Int64))), .second, .val (.long (((3 : Int64) * (j.toInt64)) - (2 : Int64))), .second] [(.int (1 : Int32))])
      exact own_endZ X1 hx hret hlk (hb hby at_80) rfl (by decide) (by decide) ⟨rfl, N1⟩
set_option maxRecDepth 65536 in
set_option maxHeartbeats 40000000 in
theorem comes_1 {Post : Tables → Env → Array Value → State → Outcome → State → Prop} (hpost : ∀ tb e args s v u, (limb_1_1.after args s (.returned v) u = true ∧ limb_1_2.after args s (.returned v) u = true ∧ True) → FrameEnd s (.returned v) u (Jvm.fieldLocs frame_1_writes args s ++ Jvm.arrayLocs frame_1_arrays args s ++ Jvm.staticLocs frame_1_statics s) 0 0 → Post tb e args s (.returned v) u) :
    ArmFor flags0 classFile x code maxLocals ret World_1 tables_1 room_1 Calls_1 rest_1 Pre_1 Post := by
  intro l hfl _ _ p e ha hc hk s m args below hf hA hF happ hP
  obtain ⟨hcalls, hrest, hpre⟩ := hP
  obtain ⟨-, -, -, hnamed, -, -, -, hat⟩ := (Spec.applies_iff hf).mp happ
  obtain ⟨hg, hn⟩ := and_e (Cond.before_iff.mp (show (Jvm.Cond.and given_1 narrow_1).before args s = true from hpre))
  obtain ⟨k0, g0⟩ := and_e hg
  obtain ⟨w0, rfl⟩ : ∃ w0 : Value, args = #[w0] := by
    have hs : args.size = 1 := by simpa [Cond.value, given_1] using k0
    obtain ⟨L⟩ := args
    match L, hs with
    | [w0], _ => exact ⟨w0, rfl⟩
  have hw := fun d (hd : d ∈ tables_1) => atoms_spec (ws := Jvm.Cond.code x code maxLocals ret :: tables_1) hat d (List.mem_cons_of_mem _ hd)
  obtain ⟨i0, ei0⟩ := is_v g0
  obtain rfl : w0 = (.int i0) := Option.some.inj ei0
  obtain ⟨n, o, h1, h2, h3, _, L, rfl, ⟨rfl, N⟩, hq⟩ := rm0 l s _ hw tables_1 i0 s.heap s.heap.size (Nat.le_refl _) p e ha hc hk s m _ below hf ((Spec.applies_iff_loose hf).mp happ).1 ⟨rfl, State.Warmed39.refl s, rfl⟩ trivial
  refine ⟨n, _, h1, h2, h3, hpost _ _ _ _ _ _ ⟨Cond.after_iff.mpr rfl, Cond.after_iff.mpr (eq_i res_at (Term.int_eval (1)) rfl), trivial⟩ ⟨hq.1, hq.2.1, (hq.2.2.sift fun y hy => Or.inr (N y hy)).mono (by decide) (by decide)⟩⟩
theorem main_1_1 : Claimed_1_1 := comes_1 fun _ _ _ _ _ _ h hF => ⟨h.1, hF⟩
theorem main_1_2 : Claimed_1_2 := comes_1 fun _ _ _ _ _ _ h hF => ⟨h.2.1, hF⟩
end Jvm.Pilot.@@N@@
namespace Jvm.Pilot.@@N@@
open Jvm Jvm.ClassFile Sem Op Lib Jvm.Free Jvm.Stand Jvm.Pilot.@@N@@.Jvm.D
/-! MADE BY PROGRAM (witnessworld.py) out of the Statement's table words and the real class files: 9 classes; the members and pool entries that the words name. The judged class is class 1, her method 1. -/
namespace start1
open Jvm.ClassFile
def u (s : String) : CpInfo := .utf8 (stringToUtf16 s)
/-- a pool by its gaps: so many unusable entries, then the entry; so many at the end -/
def gap : Nat → List CpInfo → List CpInfo
  | 0, r => r
  | n + 1, r => .unusable :: gap n r
def poolList (es : List (Nat × CpInfo)) (last : Nat) : List CpInfo := es.foldr (fun e r => gap e.1 (e.2 :: r)) (gap last [])
def pool (es : List (Nat × CpInfo)) (last : Nat) : Array CpInfo := ⟨poolList es last⟩
def fileOf (pool : Array CpInfo) (this : Nat) (attrs : Array Attribute := #[]) (ms : Array MethodInfo := #[]) (fl : Nat := 33) (sup : Nat := 0) (ifs : Array Nat := #[]) (fds : Array FieldInfo := #[]) : ClassFile where
  minorVersion := 0
  majorVersion := 65
  constantPool := pool
  accessFlags := fl
  thisClass := this
  superClass := sup
  interfaces := ifs
  fields := fds
  methods := ms
  attributes := attrs
def plain (name : String) (sup : Option ClassId) : Class where
  name := name
  kind := .ordinary
  loader := none
  accessFlags := 33
  super := sup
  interfaces := #[]
  cf := none
  fields := #[]
  methods := #[]
  instanceTypes := #[]
  staticTypes := #[]
  resolved := #[]
  callSites := []
  init := .initialized
  statics := none
  mirror := none

def pool0 : Array CpInfo := pool [(5, u "<init>"), (0, u "()V"), (1, .class_ 10), (1, u "java/lang/Object")] 113

def k0m0 : Method := { name := "<init>", desc := "()V", sig := { parameters := [], returnType := none }, accessFlags := 1, code := none }
/-- java/lang/Object -/
def k0 : Class := { plain "java/lang/Object" none with
  accessFlags := 33
  interfaces := #[]
  cf := some (fileOf pool0 8 #[] #[{ accessFlags := 1, nameIndex := 5, descriptorIndex := 6, attributes := #[] }] 33 0 #[] #[])
  fields := #[]
  methods := #[k0m0]
  instanceTypes := #[]
  staticTypes := #[]
  resolved := Array.replicate 124 none
  statics := none }

def pool1 : Array CpInfo := pool [(2, .class_ 4), (1, u "java/lang/Object"), (0, u "<init>"), (0, u "()V"), (0, .integer 2147483647), (0, .methodref 9 10), (0, .class_ 11), (0, .nameAndType 12 13), (0, u "com/example/chromarc/chromarc/LevelTracks"), (0, u "levelOf"), (0, u "(I)I"), (0, .long 3), (1, .long 4), (1, .long 2), (1, .class_ 21), (0, u "com/example/chromarc/chromarc/LevelTracksLevelOfPinLaw"), (2, u "law"), (0, u "(I)Z")] 3

def k1m0 : Method := { name := "<init>", desc := "()V", sig := { parameters := [], returnType := none }, accessFlags := 1, code := none }
def k1c1 : Code := { maxStack := 4, maxLocals := 7, code := code, exceptionTable := #[], attributes := #[] }
def k1m1 : Method := { name := "law", desc := "(I)Z", sig := { parameters := [.int], returnType := some .boolean }, accessFlags := 9, code := some k1c1 }
/-- com/example/chromarc/chromarc/LevelTracksLevelOfPinLaw -/
def k1 : Class := { plain "com/example/chromarc/chromarc/LevelTracksLevelOfPinLaw" (some 0) with
  accessFlags := 49
  interfaces := #[]
  cf := some (fileOf pool1 20 #[] #[{ accessFlags := 1, nameIndex := 5, descriptorIndex := 6, attributes := #[] }, { accessFlags := 9, nameIndex := 24, descriptorIndex := 25, attributes := #[] }] 49 2 #[] #[])
  fields := #[]
  methods := #[k1m0, k1m1]
  instanceTypes := #[]
  staticTypes := #[]
  resolved := Array.replicate 29 none
  statics := none }

def pool2 : Array CpInfo := pool [(2, .class_ 4), (1, u "java/lang/Object"), (0, u "<init>"), (0, u "()V"), (4, .class_ 13), (1, u "com/example/chromarc/chromarc/LevelTracks"), (0, u "tracks"), (0, u "Lcom/example/chromarc/chromarc/Tracks;"), (5, u "coverage"), (0, u "Lcom/example/chromarc/chromarc/Coverage;"), (12, u "counter"), (0, u "Lcom/example/chromarc/chromarc/Track$Visitor;"), (7, u "(I)I"), (19, u "highestLevel"), (0, u "I"), (6, .long 4), (1, .long 3), (29, u "levelOf")] 35

def k2m0 : Method := { name := "<init>", desc := "()V", sig := { parameters := [], returnType := none }, accessFlags := 0, code := none }
def k2c1 : Code := { maxStack := 4, maxLocals := 1, code := prog_32_method_3_code, exceptionTable := #[], attributes := #[] }
def k2m1 : Method := { name := "levelOf", desc := "(I)I", sig := { parameters := [.int], returnType := some .int }, accessFlags := 8, code := some k2c1 }
/-- com/example/chromarc/chromarc/LevelTracks -/
def k2 : Class := { plain "com/example/chromarc/chromarc/LevelTracks" (some 0) with
  accessFlags := 48
  interfaces := #[]
  cf := some (fileOf pool2 11 #[] #[{ accessFlags := 0, nameIndex := 5, descriptorIndex := 6, attributes := #[] }, { accessFlags := 8, nameIndex := 104, descriptorIndex := 44, attributes := #[] }] 48 2 #[] #[{ accessFlags := 18, nameIndex := 14, descriptorIndex := 15, attributes := #[] }, { accessFlags := 18, nameIndex := 21, descriptorIndex := 22, attributes := #[] }, { accessFlags := 18, nameIndex := 35, descriptorIndex := 36, attributes := #[] }, { accessFlags := 2, nameIndex := 64, descriptorIndex := 65, attributes := #[] }])
  fields := #[{ name := "tracks", type := (.object "com/example/chromarc/chromarc/Tracks"), accessFlags := 18, slot := 0, constantValue := 0 }, { name := "coverage", type := (.object "com/example/chromarc/chromarc/Coverage"), accessFlags := 18, slot := 1, constantValue := 0 }, { name := "counter", type := (.object "com/example/chromarc/chromarc/Track$Visitor"), accessFlags := 18, slot := 2, constantValue := 0 }, { name := "highestLevel", type := .int, accessFlags := 2, slot := 3, constantValue := 0 }]
  methods := #[k2m0, k2m1]
  instanceTypes := #[(.object "com/example/chromarc/chromarc/Tracks"), (.object "com/example/chromarc/chromarc/Coverage"), (.object "com/example/chromarc/chromarc/Track$Visitor"), .int]
  staticTypes := #[]
  resolved := Array.replicate 140 none
  statics := none }

def pool3 : Array CpInfo := pool [(1, u "java/lang/Cloneable"), (0, .class_ 1), (0, u "java/lang/Object"), (0, .class_ 3)] 3

/-- java/lang/Cloneable -/
def k3 : Class := { plain "java/lang/Cloneable" (some 0) with
  accessFlags := 1537
  interfaces := #[]
  cf := some (fileOf pool3 2 #[] #[] 1537 4 #[] #[])
  fields := #[]
  methods := #[]
  instanceTypes := #[]
  staticTypes := #[]
  resolved := Array.replicate 8 none
  statics := none }

def pool4 : Array CpInfo := pool [(1, u "java/io/Serializable"), (0, .class_ 1), (0, u "java/lang/Object"), (0, .class_ 3)] 3

/-- java/io/Serializable -/
def k4 : Class := { plain "java/io/Serializable" (some 0) with
  accessFlags := 1537
  interfaces := #[]
  cf := some (fileOf pool4 2 #[] #[] 1537 4 #[] #[])
  fields := #[]
  methods := #[]
  instanceTypes := #[]
  staticTypes := #[]
  resolved := Array.replicate 8 none
  statics := none }

/-- the primitive byte -/
def k5 : Class := { plain "byte" none with kind := .primitive 'B', accessFlags := 0x411 }
/-- [B -/
def k6 : Class := { plain "[B" (some 0) with kind := .array 5 .byte, interfaces := #[3, 4], accessFlags := 1041 }

/-- the primitive int -/
def k7 : Class := { plain "int" none with kind := .primitive 'I', accessFlags := 0x411 }
/-- [I -/
def k8 : Class := { plain "[I" (some 0) with kind := .array 7 .int, interfaces := #[3, 4], accessFlags := 1041 }

def heap : Heap := #[]
def classes : Array Class := #[k0, k1, k2, k3, k4, k5, k6, k7, k8]
def interned : List (Array UInt16 × Addr) := []
def slotsUsed : Nat := 0
def theMethod : MethodId := ⟨1, 1⟩
def args0 : Array Value := #[.int 5]
def aboutOver (below : List Frame) : State where
  vm := { classes := classes, interned := interned.toArray }
  heap := heap
  slotsUsed := slotsUsed
  threads := #[{ frames := .invoking theMethod args0 :: below }]
def below0 : List Frame := [.native { method := ⟨0, 0⟩, args := #[] }]
def about1 : State := aboutOver below0
def p0 : Program := .bare "" "" ""
def e0 : Env := launch0.env 0 0 0
theorem w_frames : about1.frames = Frame.invoking theMethod args0 :: below0 := rfl
set_option maxRecDepth 65536 in
theorem w_args : argsFit about1.vm theMethod args0 = true := by decide +kernel
set_option maxRecDepth 65536 in
theorem w_heap : heapFits about1 = true := by decide +kernel
set_option maxRecDepth 65536 in
theorem w_runnable : about1.curStatus? = some .runnable := by decide +kernel
set_option maxRecDepth 65536 in
theorem w_alone : about1.alone = true := by decide +kernel
set_option maxRecDepth 65536 in
theorem w_named : about1.methodNamed? x = some theMethod := by decide +kernel
set_option maxRecDepth 65536 in
theorem w_hears : about1.hears theMethod below0 = true := by decide +kernel
set_option maxRecDepth 65536 in
theorem w_ripe : about1.ripe theMethod args0 below0 = true := by decide +kernel
theorem w_running : about1.status = .running := rfl
set_option maxRecDepth 65536 in
theorem w_room : about1.hasRoom e0.platform room_1 = true :=
  launch0.hasRoom_least _ room_1 (by decide +kernel) (by decide +kernel) (by decide +kernel) (by decide +kernel) (by decide +kernel) (by decide +kernel)
theorem allAtoms_all (ts : List Jvm.Cond) (a : Array Jvm.Value) (st : Jvm.State) : (allAtoms ts).before a st = ts.all (fun c => c.before a st) := by
  induction ts with
  | nil => rfl
  | cons c t ih =>
    show (Jvm.Cond.and c (allAtoms t)).before a st = _
    rw [Jvm.Cond.before_and, ih, List.all_cons]
def words1 : List Jvm.Cond := Jvm.Cond.code x code maxLocals ret :: tables_1
/-- a 'code' word, met by the world's own term for the bytes: nothing is compared byte by byte -/
theorem code_word {y : MethodName} {bytes : ByteArray} {mx : Nat} {rt : Option FieldType} {a : Array Value} {s : State} {m : MethodId} {meth : Method} {c : Code} (h1 : s.methodNamed? y = some m) (h2 : s.vm.method? m = some meth) (h3 : meth.code = some c) (h4 : c.code = bytes)
    (h5 : (c.maxLocals == mx && c.exceptionTable.isEmpty && decide (c.maxStack ≤ mostOperands) && decide (meth.sig.returnType = rt) && !meth.locks && decide (parseMethodDescriptor y.desc = some meth.sig)) = true) : (Jvm.Cond.code y bytes mx rt).before a s = true := by
  simp only [Bool.and_eq_true, beq_iff_eq, Bool.not_eq_true', decide_eq_true_eq] at h5
  obtain ⟨⟨⟨⟨⟨g1, g2⟩, g3⟩, g4⟩, g5⟩, g6⟩ := h5
  simp [Cond.before, Cond.holds, Cond.value, h1, h2, h3, h4, g1, g2, g3, g4, g5, g6]
def isCode : Jvm.Cond → Bool
  | .code _ _ _ _ => true
  | _ => false
theorem all_split {L : List Jvm.Cond} {P : Jvm.Cond → Bool} (h1 : L.all (fun c => isCode c || P c) = true) (h2 : ∀ c ∈ L.filter isCode, P c = true) : L.all P = true := by
  refine List.all_eq_true.mpr fun c hc => ?_
  have h := List.all_eq_true.mp h1 c hc
  rcases Bool.eq_false_or_eq_true (isCode c) with hi | hi
  · exact h2 c (List.mem_filter.mpr ⟨hc, hi⟩)
  · simpa [hi] using h
set_option maxRecDepth 65536 in
theorem w_c0 : (Jvm.Cond.code x code maxLocals ret).before args0 about1 = true := code_word (m := ⟨1, 1⟩) (meth := k1m1) (c := k1c1) (by decide +kernel) rfl rfl rfl (by decide +kernel)
set_option maxRecDepth 65536 in
theorem w_c1 : (Jvm.Cond.code ({ cls := "com/example/chromarc/chromarc/LevelTracks", name := "levelOf", desc := "(I)I" } : Jvm.MethodName) prog_32_method_3_code (1 : Nat) (Option.some Jvm.ClassFile.FieldType.int)).before args0 about1 = true := code_word (m := ⟨2, 1⟩) (meth := k2m1) (c := k2c1) (by decide +kernel) rfl rfl rfl (by decide +kernel)
def codes1 : List Jvm.Cond := [Jvm.Cond.code x code maxLocals ret, Jvm.Cond.code ({ cls := "com/example/chromarc/chromarc/LevelTracks", name := "levelOf", desc := "(I)I" } : Jvm.MethodName) prog_32_method_3_code (1 : Nat) (Option.some Jvm.ClassFile.FieldType.int)]
set_option maxRecDepth 65536 in
theorem codes_eq : words1.filter isCode = codes1 := rfl
theorem w_codes : ∀ c ∈ words1.filter isCode, c.before args0 about1 = true := by
  rw [codes_eq]
  intro c hc
  simp only [codes1, List.mem_cons, List.not_mem_nil, or_false] at hc
  rcases hc with rfl | rfl
  · exact w_c0
  · exact w_c1
set_option maxRecDepth 65536 in
theorem w_t1 : words1.all (fun c => isCode c || c.before args0 about1) = true := by decide +kernel
theorem w_tables : (allAtoms (Jvm.Cond.code x code maxLocals ret :: tables_1)).before args0 about1 = true := by
  rw [allAtoms_all]
  show words1.all (fun c => c.before args0 about1) = true
  refine all_split ?_ w_codes
  rw [w_t1]
set_option maxRecDepth 65536 in
theorem w_case : (Jvm.Cond.and given_1 narrow_1).before args0 about1 = true := by decide +kernel
theorem w_applies : (headSpec (Jvm.Cond.code x code maxLocals ret :: tables_1) room_1).applies x e0.platform about1 = true :=
  (Spec.applies_iff w_frames).mpr ⟨w_running, w_runnable, w_alone, w_named, w_hears, w_ripe, w_room, w_tables⟩
theorem atStart : AtStart classFile x code maxLocals ret World_1 tables_1 room_1 Calls_1 rest_1 Pre_1 launch0 p0 e0 about1 theMethod args0 below0 :=
  ⟨lists_1, trivial, launch0.admits_env _ _ _, launch0.least_env, fairChoices_fair.cas, fairChoices_fair.clock, w_frames, w_args, w_heap, w_applies, trivial, trivial, w_case⟩
end start1
theorem witness_1 : WitnessClaimed_1 := ⟨start1.p0, start1.e0, start1.about1, start1.theMethod, start1.args0, start1.below0, start1.atStart⟩
end Jvm.Pilot.@@N@@
