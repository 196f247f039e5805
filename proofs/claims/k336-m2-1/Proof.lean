import JvmDerived
import JvmDerived.Pilot.@@N@@Statement
import JvmDerived.Pilot.@@N@@Code
set_option linter.unusedVariables false
set_option linter.unusedSimpArgs false
namespace Jvm.Pilot.@@N@@
open Jvm Jvm.ClassFile Sem Op Lib Jvm.Free Jvm.Stand Jvm.LawKit Jvm.RoadKit Bundle Jvm.Pilot.@@N@@.Jvm.D
section Own
variable {p : Program} {l : Launch} {e : Env} {R : Room} {s : State} {m : MethodId} {args : Array Value} {below : List Frame} {meth : Method} {c : Code} {T : State} {locs : List Loc} {cells slots : Nat} {Z : State} {a0 : Array Value} {h : Heap}
/-- from this frame on the run ends, and P holds at the end -/
def own_Go (p : Program) (e : Env) (below : List Frame) (P : Outcome → State → Prop) (T : State) (f : JFrame) : Prop :=
  ∃ s₂ o, Steps p.tables e below (T.setTop f) s₂ ∧ s₂.status = .running ∧ Ended s₂ below o ∧ P o s₂
theorem own_go {P : Outcome → State → Prop} {T T' : State} {f f' : JFrame} (st : ∀ target, Steps p.tables e below (T'.setTop f') target → Steps p.tables e below (T.setTop f) target) (hg : own_Go p e below P T' f') : own_Go p e below P T f := by
  obtain ⟨s₂, o, h1, h2⟩ := hg
  exact ⟨s₂, o, st _ h1, h2⟩
/-- what a contract says of the end -/
def own_P (Q : Option Value → Heap → List Loc → Prop) (rm : Room) (s : State) (o : Outcome) (U : State) : Prop :=
  ∃ v L, o = .returned v ∧ Q v U.heap L ∧ FrameEnd s o U L rm.cells rm.slots
/-- a contract of a body that writes nothing and returns v -/
def own_pure (v : Option Value) (h0 : Heap) (n0 : Nat) (w : Option Value) (h : Heap) (L : List Loc) : Prop := w = v ∧ Fr n0 L ∧ h = h0
/-- a contract's word, held together -/
def own_R (Q : Option Value → Heap → List Loc → Prop) : Option Value → Heap → List Loc → Prop := Q
theorem own_endZ {Q : Option Value → Heap → List Loc → Prop} (X : Stand p l e R s m args below meth c T locs cells slots) (hx : p.tables.exec = Jvm.exec) (hret : meth.sig.returnType = some .boolean) (hlk : meth.locks = false) {pc : Nat} {Ls : Array Slot} {z : Int32} {rest : List Value}
    (hd : decode c.code pc = .ok (.ireturn, 1)) (hn : narrow .boolean (.int z) = .int z) (hc : cells ≤ R.cells) (hs : slots ≤ R.slots) (hQ : Q (some (.int z)) T.heap locs) : own_Go p e below (own_P Q R s) T (mkF m pc Ls (.int z :: rest)) := by
  obtain ⟨fs, hr, hrun, hended, hW, hsame⟩ := X.leave (v := some (.int z)) (fun h => by rw [hret] at h; cases h) hlk
  exact ⟨_, _, retOut X hx hret hn (Or.inl ⟨rfl, Or.inr (Or.inl rfl), z, rfl⟩) hd hr, hrun, hended, _, _, rfl, hQ, ⟨_, rfl⟩, hW, hsame.mono hc hs⟩
theorem own_endI {Q : Option Value → Heap → List Loc → Prop} (X : Stand p l e R s m args below meth c T locs cells slots) (hx : p.tables.exec = Jvm.exec) (hret : meth.sig.returnType = some .int) (hlk : meth.locks = false) {pc : Nat} {Ls : Array Slot} {z : Int32} {rest : List Value}
    (hd : decode c.code pc = .ok (.ireturn, 1)) (hc : cells ≤ R.cells) (hs : slots ≤ R.slots) (hQ : Q (some (.int z)) T.heap locs) : own_Go p e below (own_P Q R s) T (mkF m pc Ls (.int z :: rest)) := by
  obtain ⟨fs, hr, hrun, hended, hW, hsame⟩ := X.leave (v := some (.int z)) (fun h => by rw [hret] at h; cases h) hlk
  exact ⟨_, _, retOut X hx hret rfl (Or.inl ⟨rfl, Or.inl rfl, z, rfl⟩) hd hr, hrun, hended, _, _, rfl, hQ, ⟨_, rfl⟩, hW, hsame.mono hc hs⟩
theorem own_endJ {Q : Option Value → Heap → List Loc → Prop} (X : Stand p l e R s m args below meth c T locs cells slots) (hx : p.tables.exec = Jvm.exec) (hret : meth.sig.returnType = some .long) (hlk : meth.locks = false) {pc : Nat} {Ls : Array Slot} {z : Int64} {rest : List Value}
    (hd : decode c.code pc = .ok (.lreturn, 1)) (hc : cells ≤ R.cells) (hs : slots ≤ R.slots) (hQ : Q (some (.long z)) T.heap locs) : own_Go p e below (own_P Q R s) T (mkF m pc Ls (.long z :: rest)) := by
  obtain ⟨fs, hr, hrun, hended, hW, hsame⟩ := X.leave (v := some (.long z)) (fun h => by rw [hret] at h; cases h) hlk
  exact ⟨_, _, retOut X hx hret rfl (Or.inr (Or.inl ⟨rfl, rfl, z, rfl⟩)) hd hr, hrun, hended, _, _, rfl, hQ, ⟨_, rfl⟩, hW, hsame.mono hc hs⟩
theorem own_endA {Q : Option Value → Heap → List Loc → Prop} {t : FieldType} (X : Stand p l e R s m args below meth c T locs cells slots) (hx : p.tables.exec = Jvm.exec) (hret : meth.sig.returnType = some t) (ht : t.isReference = true) (hlk : meth.locks = false) {pc : Nat} {Ls : Array Slot} {a : Addr} {rest : List Value}
    (hd : decode c.code pc = .ok (.areturn, 1)) (hn : narrow t (.ref a) = .ref a) (hc : cells ≤ R.cells) (hs : slots ≤ R.slots) (hQ : Q (some (.ref a)) T.heap locs) : own_Go p e below (own_P Q R s) T (mkF m pc Ls (.ref a :: rest)) := by
  obtain ⟨fs, hr, hrun, hended, hW, hsame⟩ := X.leave (v := some (.ref a)) (fun h => by rw [hret] at h; cases h) hlk
  exact ⟨_, _, retOut X hx hret hn (Or.inr (Or.inr (Or.inr (Or.inr ⟨rfl, ht, rfl⟩)))) hd hr, hrun, hended, _, _, rfl, hQ, ⟨_, rfl⟩, hW, hsame.mono hc hs⟩
theorem own_endV {Q : Option Value → Heap → List Loc → Prop} (X : Stand p l e R s m args below meth c T locs cells slots) (hx : p.tables.exec = Jvm.exec) (hret : meth.sig.returnType = none) (hlk : meth.locks = false) {pc : Nat} {Ls : Array Slot}
    (hd : decode c.code pc = .ok (.return_, 1)) (hc : cells ≤ R.cells) (hs : slots ≤ R.slots) (hQ : Q none T.heap locs) : own_Go p e below (own_P Q R s) T (mkF m pc Ls []) := by
  obtain ⟨fs, hr, hrun, hended, hW, hsame⟩ := X.leave (v := none) (fun _ => rfl) hlk
  exact ⟨_, _, X.returnOut hx hret hd hr, hrun, hended, _, _, rfl, hQ, ⟨_, rfl⟩, hW, hsame.mono hc hs⟩
/-- a static call, paid by the callee's contract -/
theorem own_callS (X : Stand p l e R s m args below meth c T locs cells slots) (hx : p.tables.exec = Jvm.exec) (hZ : Z.Warmed39 s.vm) {own : String} {index : Nat} {y : MethodName} {bytes : ByteArray} {maxL : Nat} {ret : Option FieldType} (hown : s.vm.findClass own = some m.cls)
    (w1 : (Cond.methodLink own index y).before a0 Z = true) (w2 : (Cond.static y).before a0 Z = true) (w3 : (Cond.initialized y.cls).before a0 Z = true) (w4 : (Cond.code y bytes maxL ret).before a0 Z = true) (hy : y.cls ≠ "java/lang/invoke/MethodHandle" ∧ y.cls ≠ "java/lang/invoke/VarHandle")
    {rm : Room} {as' : Array Value} {Q : Option Value → Heap → List Loc → Prop}
    (hM : MetFree l y (head1 [Cond.code y bytes maxL ret] rm) (fun a U => a = as' ∧ Z.Warmed39 U.vm ∧ U.heap = h) (fun _ _ _ _ _ => True) (fun _ U o U' => ∃ v L, o = .returned v ∧ Q v U'.heap L ∧ FrameEnd U o U' L rm.cells rm.slots))
    {Ls : Array Slot} {st : List Value} {W : Nat} (hf : rm.frames + 1 ≤ R.frames) (hl : W + (maxL + 11) + rm.locals ≤ R.locals) {pc : Nat} (hsize : Ls.size = c.maxLocals) {argsL rest : List Value} (hlen : ∀ sig, parseMethodDescriptor y.desc = some sig → argsL.length = sig.parameters.length)
    (has : argsL.toArray = as') (hstack : st = argsL.reverse ++ rest) (hW : (rest.map fun v => v.category).sum ≤ W) (hd : decode c.code pc = .ok (.invokestatic index, 3)) (eT : T.heap = h) (hc : cells + rm.cells ≤ R.cells) (hs : slots + rm.slots ≤ R.slots) :
    ∃ T' v L, Stand p l e R s m args below meth c T' (locs ++ L) (cells + rm.cells) (slots + rm.slots) ∧ Q v T'.heap L ∧ ∀ target, Steps p.tables e below (T'.setTop (mkF m (pc + 3) Ls (v.toList ++ rest))) target → Steps p.tables e below (T.setTop (mkF m pc Ls st)) target := by
  obtain ⟨v, _, ⟨T', L', k', n'⟩, -, X', ⟨L, hQ, l1, l2, l3⟩, st'⟩ := Jvm.LawKit.callS X hx (y := y) hown (mvT hZ w1) (mvT hZ w2) (mvT hZ w3) (mvT hZ w4) hy (backOf (W := W) hM hZ w4 w3 hf hl) (g := mkF m pc Ls st) rfl hsize (argsL := argsL) (rest := rest) hlen hstack (by show 2 * 0 + _ ≤ _; omega) hd (fun _ _ => ⟨has, eT, hc, hs⟩)
  dsimp only [Pt.U, Pt.locs, Pt.cells, Pt.slots] at X' l1 l2 l3 st' hQ
  subst l1 l2 l3
  exact ⟨T', v, L, X', hQ, st'⟩
/-- a constructor's call, paid by its contract -/
theorem own_callC (X : Stand p l e R s m args below meth c T locs cells slots) (hx : p.tables.exec = Jvm.exec) (hZ : Z.Warmed39 s.vm) {own : String} {index : Nat} {y : MethodName} {bytes : ByteArray} {maxL : Nat} (hy1 : y.name = "<init>") (hown : s.vm.findClass own = some m.cls)
    (w1 : (Cond.methodLink own index y).before a0 Z = true) (w2 : (Cond.instanceMethod y).before a0 Z = true) (w3 : (Cond.initialized y.cls).before a0 Z = true) (w4 : (Cond.code y bytes maxL none).before a0 Z = true) (hy : y.cls ≠ "java/lang/invoke/MethodHandle" ∧ y.cls ≠ "java/lang/invoke/VarHandle")
    {rm : Room} {as' : Array Value} {Q : Option Value → Heap → List Loc → Prop}
    (hM : MetFree l y (head1 [Cond.code y bytes maxL none] rm) (fun a U => a = as' ∧ Z.Warmed39 U.vm ∧ U.heap = h) (fun _ _ _ _ _ => True) (fun _ U o U' => ∃ v L, o = .returned v ∧ Q v U'.heap L ∧ FrameEnd U o U' L rm.cells rm.slots))
    {Ls : Array Slot} {st : List Value} {W : Nat} (hf : rm.frames + 1 ≤ R.frames) (hl : W + (maxL + 11) + rm.locals ≤ R.locals) {pc : Nat} (hsize : Ls.size = c.maxLocals) {a : Addr} {argsL rest : List Value} (hlen : ∀ sig, parseMethodDescriptor y.desc = some sig → argsL.length = sig.parameters.length)
    (has : (.ref a :: argsL).toArray = as') (hstack : st = argsL.reverse ++ .ref a :: rest) (hW : (rest.map fun v => v.category).sum ≤ W) (hd : decode c.code pc = .ok (.invokespecial index, 3)) (eT : T.heap = h) (hc : cells + rm.cells ≤ R.cells) (hs : slots + rm.slots ≤ R.slots) :
    ∃ T' v L, Stand p l e R s m args below meth c T' (locs ++ L) (cells + rm.cells) (slots + rm.slots) ∧ Q v T'.heap L ∧ ∀ target, Steps p.tables e below (T'.setTop (mkF m (pc + 3) Ls (v.toList ++ rest))) target → Steps p.tables e below (T.setTop (mkF m pc Ls st)) target := by
  obtain ⟨v, _, ⟨T', L', k', n'⟩, -, X', ⟨L, hQ, l1, l2, l3⟩, st'⟩ := X.specialBack hx (y := y) hy1 hown (mvT hZ w1) (mvT hZ w2) (mvT hZ w4) hy (backOf (W := W) hM hZ w4 w3 hf hl) (g := mkF m pc Ls st) rfl hsize (Steps.refl _) (a := a) (argsL := argsL) (rest := rest) hlen hstack (by show 2 * 0 + _ ≤ _; omega) hd (fun _ _ => ⟨has, eT, hc, hs⟩)
  dsimp only [Pt.U, Pt.locs, Pt.cells, Pt.slots] at X' l1 l2 l3 st' hQ
  subst l1 l2 l3
  exact ⟨T', v, L, X', hQ, fun _ k => st'.trans k⟩
/-- an instance method's call, paid by its contract -/
theorem own_callV (X : Stand p l e R s m args below meth c T locs cells slots) (hx : p.tables.exec = Jvm.exec) (hZ : Z.Warmed39 s.vm) {own : String} {index : Nat} {y : MethodName} {bytes : ByteArray} {maxL : Nat} {ret : Option FieldType} (hown : s.vm.findClass own = some m.cls)
    (w1 : (Cond.methodLink own index y).before a0 Z = true) (w2 : (Cond.declares y).before a0 Z = true) (w5 : (Cond.selects y.cls y y).before a0 Z = true) (w6 : (Cond.instanceMethod y).before a0 Z = true) (w3 : (Cond.initialized y.cls).before a0 Z = true) (w4 : (Cond.code y bytes maxL ret).before a0 Z = true) (hy : y.cls ≠ "java/lang/invoke/MethodHandle" ∧ y.cls ≠ "java/lang/invoke/VarHandle")
    {rm : Room} {as' : Array Value} {Q : Option Value → Heap → List Loc → Prop}
    (hM : MetFree l y (head1 [Cond.code y bytes maxL ret] rm) (fun a U => a = as' ∧ Z.Warmed39 U.vm ∧ U.heap = h) (fun _ _ _ _ _ => True) (fun _ U o U' => ∃ v L, o = .returned v ∧ Q v U'.heap L ∧ FrameEnd U o U' L rm.cells rm.slots))
    {a : Addr} (E : Exa Z h a y.cls)
    {Ls : Array Slot} {st : List Value} {W : Nat} (hf : rm.frames + 1 ≤ R.frames) (hl : W + (maxL + 11) + rm.locals ≤ R.locals) {pc : Nat} (hsize : Ls.size = c.maxLocals) {argsL rest : List Value} (hlen : ∀ sig, parseMethodDescriptor y.desc = some sig → argsL.length = sig.parameters.length)
    (has : (.ref a :: argsL).toArray = as') (hstack : st = argsL.reverse ++ .ref a :: rest) (hW : (rest.map fun v => v.category).sum ≤ W) (hd : decode c.code pc = .ok (.invokevirtual index, 3)) (eT : T.heap = h) (hc : cells + rm.cells ≤ R.cells) (hs : slots + rm.slots ≤ R.slots) :
    ∃ T' v L, Stand p l e R s m args below meth c T' (locs ++ L) (cells + rm.cells) (slots + rm.slots) ∧ Q v T'.heap L ∧ ∀ target, Steps p.tables e below (T'.setTop (mkF m (pc + 3) Ls (v.toList ++ rest))) target → Steps p.tables e below (T.setTop (mkF m pc Ls st)) target := by
  obtain ⟨cq, kq, qa, qb, qc⟩ := isOf hZ eT E
  obtain ⟨v, _, ⟨T', L', k', n'⟩, -, X', ⟨L, hQ, l1, l2, l3⟩, st'⟩ := X.virtualBack hx (y := y) (z := y) hown (mvT hZ w1) (mvT hZ w2) (notFace_of_selects (args := #[]) (mvT hZ w5)) (mvT hZ w5) (mvT hZ w6) hy (backOf (W := W) hM hZ w4 w3 hf hl) qa qc (g := mkF m pc Ls st) rfl hsize (Steps.refl _) (argsL := argsL) (rest := rest) hlen hstack (by show 2 * 0 + _ ≤ _; omega) hd (fun _ _ => ⟨has, eT, hc, hs⟩)
  dsimp only [Pt.U, Pt.locs, Pt.cells, Pt.slots] at X' l1 l2 l3 st' hQ
  subst l1 l2 l3
  exact ⟨T', v, L, X', hQ, fun _ k => st'.trans k⟩
/-- a private instance method's call by invokevirtual, paid by its contract; that the class is no interface, another method's 'selects' word says -/
theorem own_callP (X : Stand p l e R s m args below meth c T locs cells slots) (hx : p.tables.exec = Jvm.exec) (hZ : Z.Warmed39 s.vm) {own : String} {index : Nat} {y z : MethodName} {bytes : ByteArray} {maxL : Nat} {ret : Option FieldType} (hown : s.vm.findClass own = some m.cls)
    (w1 : (Cond.methodLink own index y).before a0 Z = true) (wp : (Cond.privateMethod y).before a0 Z = true) (w5 : (Cond.selects y.cls z z).before a0 Z = true) (hz : z.cls = y.cls) (w6 : (Cond.instanceMethod y).before a0 Z = true) (w3 : (Cond.initialized y.cls).before a0 Z = true) (w4 : (Cond.code y bytes maxL ret).before a0 Z = true) (hy : y.cls ≠ "java/lang/invoke/MethodHandle" ∧ y.cls ≠ "java/lang/invoke/VarHandle")
    {rm : Room} {as' : Array Value} {Q : Option Value → Heap → List Loc → Prop}
    (hM : MetFree l y (head1 [Cond.code y bytes maxL ret] rm) (fun a U => a = as' ∧ Z.Warmed39 U.vm ∧ U.heap = h) (fun _ _ _ _ _ => True) (fun _ U o U' => ∃ v L, o = .returned v ∧ Q v U'.heap L ∧ FrameEnd U o U' L rm.cells rm.slots))
    {a : Addr} (E : Exa Z h a y.cls)
    {Ls : Array Slot} {st : List Value} {W : Nat} (hf : rm.frames + 1 ≤ R.frames) (hl : W + (maxL + 11) + rm.locals ≤ R.locals) {pc : Nat} (hsize : Ls.size = c.maxLocals) {argsL rest : List Value} (hlen : ∀ sig, parseMethodDescriptor y.desc = some sig → argsL.length = sig.parameters.length)
    (has : (.ref a :: argsL).toArray = as') (hstack : st = argsL.reverse ++ .ref a :: rest) (hW : (rest.map fun v => v.category).sum ≤ W) (hd : decode c.code pc = .ok (.invokevirtual index, 3)) (eT : T.heap = h) (hc : cells + rm.cells ≤ R.cells) (hs : slots + rm.slots ≤ R.slots) :
    ∃ T' v L, Stand p l e R s m args below meth c T' (locs ++ L) (cells + rm.cells) (slots + rm.slots) ∧ Q v T'.heap L ∧ ∀ target, Steps p.tables e below (T'.setTop (mkF m (pc + 3) Ls (v.toList ++ rest))) target → Steps p.tables e below (T.setTop (mkF m pc Ls st)) target := by
  have hpriv : s.PrivateAt y := Cond.privateMethod_at (mvP hZ wp (args := #[]))
  obtain ⟨c2, r2, m2, q1, q2, q3, q4, kP, hkP, hkPi⟩ := Cond.selects_spec (show (Cond.selects y.cls z z).before args s = true from mvT hZ w5)
  have hcl : s.vm.findClass y.cls = some m2.cls := by rw [← hz]; exact findClass_of_methodNamed q3
  have hsel := selects_self_of_private (args := args) hcl hkP hkPi hpriv (mvT hZ w6) hy
  obtain ⟨cell, hcell, hobj⟩ := E.cell
  obtain ⟨v, _, ⟨T', L', k', n'⟩, -, X', ⟨L, hQ, l1, l2, l3⟩, st'⟩ := X.privateBack hx (y := y) hown (mvT hZ w1) (mvT hZ w6) hsel hpriv (mvT hZ w4) hy (backOf (W := W) hM hZ w4 w3 hf hl) (g := mkF m pc Ls st) rfl hsize (Steps.refl _) (a := a) (by rw [eT]; exact hcell) hobj (argsL := argsL) (rest := rest) hlen hstack (by show 2 * 0 + _ ≤ _; omega) hd (fun _ _ => ⟨has, eT, hc, hs⟩)
  dsimp only [Pt.U, Pt.locs, Pt.cells, Pt.slots] at X' l1 l2 l3 st' hQ
  subst l1 l2 l3
  exact ⟨T', v, L, X', hQ, fun _ k => st'.trans k⟩
end Own
theorem pd_0 : parseMethodDescriptor "(I)J" = some ⟨[.int], some .long⟩ := by decide +kernel
theorem pn_0 : plainName "loadpath/sim/Mailbox" = true := by first | (simp [plainName, overriddenIn]; done) | decide +kernel
theorem pn_1 : plainName "loadpath/sim/MailboxLargestPinLaw" = true := by first | (simp [plainName, overriddenIn]; done) | decide +kernel
theorem d1_0 : decode prog_125_method_2_code 0 = .ok (.iload_n 0, 1) := by decide +kernel
theorem d1_1 : decode prog_125_method_2_code 1 = .ok (.bipush 64, 2) := by decide +kernel
theorem d1_3 : decode prog_125_method_2_code 3 = .ok (.if_icmp .lt 9, 3) := by decide +kernel
theorem d1_6 : decode prog_125_method_2_code 6 = .ok (.ldc2_w 13, 3) := by decide +kernel
theorem d1_9 : decode prog_125_method_2_code 9 = .ok (.goto 8, 3) := by decide +kernel
theorem d1_12 : decode prog_125_method_2_code 12 = .ok (.lconst 1, 1) := by decide +kernel
theorem d1_13 : decode prog_125_method_2_code 13 = .ok (.iload_n 0, 1) := by decide +kernel
theorem d1_14 : decode prog_125_method_2_code 14 = .ok (.lshl, 1) := by decide +kernel
theorem d1_15 : decode prog_125_method_2_code 15 = .ok (.lconst 1, 1) := by decide +kernel
theorem d1_16 : decode prog_125_method_2_code 16 = .ok (.lsub, 1) := by decide +kernel
theorem d1_17 : decode prog_125_method_2_code 17 = .ok (.lreturn, 1) := by decide +kernel
/-- what largest returns -/
def own_lg (w : Int32) : Int64 := if w < 64 then ((1 : Int64) <<< (w &&& 0x3f).toInt64) - (1 : Int64) else -1
theorem own_all : ∀ n : Fin 64, (own_lg (Int32.ofNat n.val) &&& (own_lg (Int32.ofNat n.val) + (1 : Int64))) = (0 : Int64) ∧ (((own_lg (Int32.ofNat n.val)).toUInt64 >>> ((Int32.ofNat n.val) &&& 0x3f).toInt64.toUInt64).toInt64) = (0 : Int64) ∧ (Int32.ofNat n.val = (0 : Int32) → own_lg (Int32.ofNat n.val) = (0 : Int64)) ∧
    (¬ Int32.ofNat n.val = (0 : Int32) → (((own_lg (Int32.ofNat n.val)).toUInt64 >>> ((Int32.ofNat n.val - (1 : Int32)) &&& 0x3f).toInt64.toUInt64).toInt64) = (1 : Int64)) := by decide +kernel
theorem own_facts (w : Int32) (h0 : 0 ≤ w.toInt) (h : w < (64 : Int32)) : (own_lg w &&& (own_lg w + (1 : Int64))) = (0 : Int64) ∧ (((own_lg w).toUInt64 >>> (w &&& 0x3f).toInt64.toUInt64).toInt64) = (0 : Int64) ∧ (w = (0 : Int32) → own_lg w = (0 : Int64)) ∧
    (¬ w = (0 : Int32) → (((own_lg w).toUInt64 >>> ((w - (1 : Int32)) &&& 0x3f).toInt64.toUInt64).toInt64) = (1 : Int64)) := by
  have h1 : w.toInt < 64 := Int32.lt_iff_toInt_lt.mp h
  obtain ⟨n, hn, rfl⟩ : ∃ n : Nat, n < 64 ∧ w = Int32.ofNat n := by
    refine ⟨w.toInt.toNat, by omega, ?_⟩
    apply Int32.toInt_inj.mp
    rw [Int32.toInt_ofNat_of_lt (by omega)]
    omega
  exact own_all ⟨n, hn⟩
theorem own_m31 (x : Int32) : 0 ≤ (x &&& (2147483647 : Int32)).toInt := by
  have := c_mask x 2147483647 31 (by decide) (by decide)
  omega
theorem own_m7 (x : Int32) : 0 ≤ (x &&& (127 : Int32)).toInt := by
  have := c_mask x 127 7 (by decide) (by decide)
  omega
theorem ef_1 (m : MethodId) (x0 : Int32) : entryFrame m #[(.int x0)] 1 = mkF m 0 #[.val (.int x0)] [] := by first | (simp [entryFrame, mkF, argsToLocals, Value.category]; done) | rfl
set_option maxRecDepth 65536 in
set_option maxHeartbeats 40000000 in
theorem rm1 (l : Launch) (Z : State) (a0 : Array Value) (hw : ∀ d ∈ tables_1, d.before a0 Z = true) (ws : List Jvm.Cond) (p1 : Int32) (h0 : Heap) (n0 : Nat) (Z0 : n0 ≤ h0.size)  :
    MetFree l (⟨"loadpath/sim/Mailbox", "largest", "(I)J"⟩ : MethodName) (head1 (Jvm.Cond.code (⟨"loadpath/sim/Mailbox", "largest", "(I)J"⟩ : MethodName) prog_125_method_2_code 1 (some .long) :: ws) ({ frames := 0, cells := 0, slots := 0, locals := 0 } : Room)) (fun a U => a = #[(.int p1)] ∧ Z.Warmed39 U.vm ∧ U.heap = h0) (fun _ _ _ _ _ => True) (fun _ U o U' => ∃ v L, o = .returned v ∧ (own_pure (some (.long (own_lg p1))) h0 n0) v U'.heap L ∧ FrameEnd U o U' L ({ frames := 0, cells := 0, slots := 0, locals := 0 } : Room).cells ({ frames := 0, cells := 0, slots := 0, locals := 0 } : Room).slots) := by
  refine MetFree.of_bodySF (plainFor_of_name pn_0) hisR ?_
  intro p e s m args below meth c s₁ Bd hml0 hP hK
  obtain ⟨rfl, hZ, hh⟩ := hP
  have hx := Bd.exec
  have hby := Bd.bytes
  have hml : c.maxLocals = 1 := hml0
  have hown : s.vm.findClass "loadpath/sim/Mailbox" = some m.cls := findClass_of_methodNamed Bd.named
  have hnm := (name_of_methodNamed Bd.named Bd.method).1
  have hret := Bd.returns
  have hlk : meth.locks = false := Bd.notSynchronized
  have X0 : Stand p l e ({ frames := 0, cells := 0, slots := 0, locals := 0 } : Room) s m #[(.int p1)] below meth c s₁ [] 0 0 := Stand.of_body Bd
  have e0 : s₁.heap = h0 := by rw [← hh, Bd.state]; rfl
  have N0 := Fr.nil n0
  show own_Go p e below (own_P (own_pure (some (.long (own_lg p1))) h0 n0) ({ frames := 0, cells := 0, slots := 0, locals := 0 } : Room) s) s₁ (entryFrame m #[(.int p1)] 1)
  rw [ef_1 m p1]
  show own_Go p e below _ s₁ (mkF m 0 #[.val (.int p1)] [])
  refine own_go (fun _ k => XS.iloadN X0.here hx rfl (hb hby d1_0) rfl  k) ?_
  show own_Go p e below _ s₁ (mkF m 1 #[.val (.int p1)] [(.int p1)])
  refine own_go (fun _ k => XS.bipush X0.here hx rfl (hb hby d1_1) k) ?_
  show own_Go p e below _ s₁ (mkF m 3 #[.val (.int p1)] [(.int (64 : Int32)), (.int p1)])
  by_cases hc : p1 < (64 : Int32)
  · refine own_go (fun _ k => XS.icmpYes X0.here hx rfl (pc0 := 3) (pc' := 12) rfl (hb hby d1_3) rfl (tlt hc).1 (by decide) (by decide) k) ?_
    show own_Go p e below _ s₁ (mkF m 12 #[.val (.int p1)] [])
    refine own_go (fun _ k => XS.lconst X0.here hx rfl (hb hby d1_12) k) ?_
    show own_Go p e below _ s₁ (mkF m 13 #[.val (.int p1)] [(.long (1 : Int64))])
    refine own_go (fun _ k => XS.iloadN X0.here hx rfl (hb hby d1_13) rfl  k) ?_
    show own_Go p e below _ s₁ (mkF m 14 #[.val (.int p1)] [(.int p1), (.long (1 : Int64))])
    refine own_go (fun _ k => XS.lshl X0.here hx rfl (hb hby d1_14) rfl k) ?_
    show own_Go p e below _ s₁ (mkF m 15 #[.val (.int p1)] [(.long ((1 : Int64) <<< (p1 &&& 0x3f).toInt64))])
    refine own_go (fun _ k => XS.lconst X0.here hx rfl (hb hby d1_15) k) ?_
    show own_Go p e below _ s₁ (mkF m 16 #[.val (.int p1)] [(.long (1 : Int64)), (.long ((1 : Int64) <<< (p1 &&& 0x3f).toInt64))])
    refine own_go (fun _ k => XS.lsub X0.here hx rfl (hb hby d1_16) rfl k) ?_
    show own_Go p e below _ s₁ (mkF m 17 #[.val (.int p1)] [(.long (((1 : Int64) <<< (p1 &&& 0x3f).toInt64) - (1 : Int64)))])
    exact own_endJ X0 hx hret hlk (hb hby d1_17) (by decide) (by decide) ⟨by rw [own_lg, if_pos hc], N0, e0⟩
  · refine own_go (fun _ k => XS.icmpNo X0.here hx rfl (hb hby d1_3) rfl (flt hc).1 k) ?_
    show own_Go p e below _ s₁ (mkF m 6 #[.val (.int p1)] [])
    refine own_go (fun _ k => X0.ldc2Long hx hown (mvT hZ (hw _ (List.mem_of_getElem? (i := 4) rfl))) (g := (mkF m 6 #[.val (.int p1)] [])) rfl (hb hby d1_6) _ k) ?_
    show own_Go p e below _ s₁ (mkF m 9 #[.val (.int p1)] [(.long (-1 : Int64))])
    refine own_go (fun _ k => XS.goto X0.here hx rfl (pc0 := 9) (pc' := 17) rfl (hb hby d1_9) (by decide) (by decide) k) ?_
    show own_Go p e below _ s₁ (mkF m 17 #[.val (.int p1)] [(.long (-1 : Int64))])
    exact own_endJ X0 hx hret hlk (hb hby d1_17) (by decide) (by decide) ⟨by rw [own_lg, if_neg hc], N0, e0⟩
set_option maxRecDepth 65536 in
set_option maxHeartbeats 40000000 in
theorem own_t18 {p : Program} {l : Launch} {e : Env} {s : State} {m : MethodId} {args : Array Value} {below : List Frame} {meth : Method} {c : Code} {T0 : State} {locs : List Loc} {Z : State} {a0 : Array Value} {h0 : Heap} {n0 : Nat} (p1 p2 w : Int32) (X0 : Stand p l e room_1 s m args below meth c T0 locs 0 0)
    (hx : p.tables.exec = Jvm.exec) (hZ : Z.Warmed39 s.vm) (hw : ∀ d ∈ tables_1, d.before a0 Z = true) (hby : c.code = code) (hml : c.maxLocals = 5) (hown : s.vm.findClass "loadpath/sim/MailboxLargestPinLaw" = some m.cls) (hret : meth.sig.returnType = some .boolean) (hlk : meth.locks = false) (e0 : T0.heap = h0) (Z0 : n0 ≤ h0.size) (N0 : Fr n0 locs) (hw0 : 0 ≤ w.toInt) :
    own_Go p e below (own_P (own_R (fun v _ L => v = some (.int 1) ∧ Fr n0 L)) room_1 s) T0 (mkF m 18 #[.val (.int p1), .val (.int p2), .val (.int w), .unset, .unset] []) := by
  refine own_go (fun _ k => XS.iloadN X0.here hx rfl (hb hby at_18) rfl  k) ?_
  show own_Go p e below _ T0 (mkF m 19 #[.val (.int p1), .val (.int p2), .val (.int w), .unset, .unset] [(.int w)])
  obtain ⟨T1, v1, L1, X1, q1, st1⟩ := own_callS X0 hx hZ hown (y := (⟨"loadpath/sim/Mailbox", "largest", "(I)J"⟩ : MethodName)) (hw _ (List.mem_of_getElem? (i := 0) rfl)) (hw _ (List.mem_of_getElem? (i := 1) rfl)) (hw _ (List.mem_of_getElem? (i := 2) rfl)) (hw _ (List.mem_of_getElem? (i := 3) rfl)) (by decide) (rm1 l Z a0 hw [] w h0 n0 Z0) (Ls := #[.val (.int p1), .val (.int p2), .val (.int w), .unset, .unset]) (st := [(.int w)]) (W := 0) (by decide) (by decide) (by rw [hml]; rfl) (argsL := [(.int w)]) (rest := []) (lenOf pd_0 rfl) rfl rfl (Nat.le_of_eq rfl) (hb hby at_19) e0 (by decide) (by decide)
  obtain ⟨rfl, N1', e1⟩ := q1
  have N1 := Fr.app N0 N1'
  refine own_go st1 ?_
  show own_Go p e below _ T1 (mkF m 22 #[.val (.int p1), .val (.int p2), .val (.int w), .unset, .unset] [(.long (own_lg w))])
  refine own_go (fun _ k => XS.lstoreN X1.here hx rfl (hb hby at_22) rfl (l' := #[.val (.int p1), .val (.int p2), .val (.int w), .val (.long (own_lg w)), .second]) rfl k) ?_
  show own_Go p e below _ T1 (mkF m 23 #[.val (.int p1), .val (.int p2), .val (.int w), .val (.long (own_lg w)), .second] [])
  refine own_go (fun _ k => XS.iloadN X1.here hx rfl (hb hby at_23) rfl  k) ?_
  show own_Go p e below _ T1 (mkF m 24 #[.val (.int p1), .val (.int p2), .val (.int w), .val (.long (own_lg w)), .second] [(.int w)])
  refine own_go (fun _ k => XS.bipush X1.here hx rfl (hb hby at_24) k) ?_
  show own_Go p e below _ T1 (mkF m 26 #[.val (.int p1), .val (.int p2), .val (.int w), .val (.long (own_lg w)), .second] [(.int (64 : Int32)), (.int w)])
  by_cases hc : w < (64 : Int32)
  · refine own_go (fun _ k => XS.icmpYes X1.here hx rfl (pc0 := 26) (pc' := 43) rfl (hb hby at_26) rfl (tlt hc).1 (by decide) (by decide) k) ?_
    show own_Go p e below _ T1 (mkF m 43 #[.val (.int p1), .val (.int p2), .val (.int w), .val (.long (own_lg w)), .second] [])
    obtain ⟨f1, f2, f3, f4⟩ := own_facts w hw0 hc
    refine own_go (fun _ k => XS.lloadN X1.here hx rfl (hb hby at_43) rfl  k) ?_
    show own_Go p e below _ T1 (mkF m 44 #[.val (.int p1), .val (.int p2), .val (.int w), .val (.long (own_lg w)), .second] [(.long (own_lg w))])
    refine own_go (fun _ k => XS.lloadN X1.here hx rfl (hb hby at_44) rfl  k) ?_
    show own_Go p e below _ T1 (mkF m 45 #[.val (.int p1), .val (.int p2), .val (.int w), .val (.long (own_lg w)), .second] [(.long (own_lg w)), (.long (own_lg w))])
    refine own_go (fun _ k => XS.lconst X1.here hx rfl (hb hby at_45) k) ?_
    show own_Go p e below _ T1 (mkF m 46 #[.val (.int p1), .val (.int p2), .val (.int w), .val (.long (own_lg w)), .second] [(.long (1 : Int64)), (.long (own_lg w)), (.long (own_lg w))])
    refine own_go (fun _ k => XS.ladd X1.here hx rfl (hb hby at_46) rfl k) ?_
    show own_Go p e below _ T1 (mkF m 47 #[.val (.int p1), .val (.int p2), .val (.int w), .val (.long (own_lg w)), .second] [(.long ((own_lg w) + (1 : Int64))), (.long (own_lg w))])
    refine own_go (fun _ k => XS.land X1.here hx rfl (hb hby at_47) rfl k) ?_
    show own_Go p e below _ T1 (mkF m 48 #[.val (.int p1), .val (.int p2), .val (.int w), .val (.long (own_lg w)), .second] [(.long ((own_lg w) &&& ((own_lg w) + (1 : Int64))))])
    refine own_go (fun _ k => XS.lconst X1.here hx rfl (hb hby at_48) k) ?_
    show own_Go p e below _ T1 (mkF m 49 #[.val (.int p1), .val (.int p2), .val (.int w), .val (.long (own_lg w)), .second] [(.long (0 : Int64)), (.long ((own_lg w) &&& ((own_lg w) + (1 : Int64))))])
    refine own_go (fun _ k => XS.lcmp X1.here hx rfl (hb hby at_49) rfl k) ?_
    show own_Go p e below _ T1 (mkF m 50 #[.val (.int p1), .val (.int p2), .val (.int w), .val (.long (own_lg w)), .second] [(.int (lcmpW ((own_lg w) &&& ((own_lg w) + (1 : Int64))) (0 : Int64)))])
    refine own_go (fun _ k => XS.ifYes X1.here hx rfl (pc0 := 50) (pc' := 55) rfl (hb hby at_50) rfl ((if0 _ _).trans (teq ((lw_eq _ _).mpr f1)).1) (by decide) (by decide) k) ?_
    show own_Go p e below _ T1 (mkF m 55 #[.val (.int p1), .val (.int p2), .val (.int w), .val (.long (own_lg w)), .second] [])
    refine own_go (fun _ k => XS.lloadN X1.here hx rfl (hb hby at_55) rfl  k) ?_
    show own_Go p e below _ T1 (mkF m 56 #[.val (.int p1), .val (.int p2), .val (.int w), .val (.long (own_lg w)), .second] [(.long (own_lg w))])
    refine own_go (fun _ k => XS.iloadN X1.here hx rfl (hb hby at_56) rfl  k) ?_
    show own_Go p e below _ T1 (mkF m 57 #[.val (.int p1), .val (.int p2), .val (.int w), .val (.long (own_lg w)), .second] [(.int w), (.long (own_lg w))])
    refine own_go (fun _ k => XS.lushr X1.here hx rfl (hb hby at_57) rfl k) ?_
    show own_Go p e below _ T1 (mkF m 58 #[.val (.int p1), .val (.int p2), .val (.int w), .val (.long (own_lg w)), .second] [(.long (((own_lg w).toUInt64 >>> (w &&& 0x3f).toInt64.toUInt64).toInt64))])
    refine own_go (fun _ k => XS.lconst X1.here hx rfl (hb hby at_58) k) ?_
    show own_Go p e below _ T1 (mkF m 59 #[.val (.int p1), .val (.int p2), .val (.int w), .val (.long (own_lg w)), .second] [(.long (0 : Int64)), (.long (((own_lg w).toUInt64 >>> (w &&& 0x3f).toInt64.toUInt64).toInt64))])
    refine own_go (fun _ k => XS.lcmp X1.here hx rfl (hb hby at_59) rfl k) ?_
    show own_Go p e below _ T1 (mkF m 60 #[.val (.int p1), .val (.int p2), .val (.int w), .val (.long (own_lg w)), .second] [(.int (lcmpW (((own_lg w).toUInt64 >>> (w &&& 0x3f).toInt64.toUInt64).toInt64) (0 : Int64)))])
    refine own_go (fun _ k => XS.ifYes X1.here hx rfl (pc0 := 60) (pc' := 65) rfl (hb hby at_60) rfl ((if0 _ _).trans (teq ((lw_eq _ _).mpr f2)).1) (by decide) (by decide) k) ?_
    show own_Go p e below _ T1 (mkF m 65 #[.val (.int p1), .val (.int p2), .val (.int w), .val (.long (own_lg w)), .second] [])
    refine own_go (fun _ k => XS.iloadN X1.here hx rfl (hb hby at_65) rfl  k) ?_
    show own_Go p e below _ T1 (mkF m 66 #[.val (.int p1), .val (.int p2), .val (.int w), .val (.long (own_lg w)), .second] [(.int w)])
    by_cases hz : w = (0 : Int32)
    · refine own_go (fun _ k => XS.ifNo X1.here hx rfl (hb hby at_66) rfl ((if0 _ _).trans (teq hz).2) k) ?_
      show own_Go p e below _ T1 (mkF m 69 #[.val (.int p1), .val (.int p2), .val (.int w), .val (.long (own_lg w)), .second] [])
      refine own_go (fun _ k => XS.lloadN X1.here hx rfl (hb hby at_69) rfl  k) ?_
      show own_Go p e below _ T1 (mkF m 70 #[.val (.int p1), .val (.int p2), .val (.int w), .val (.long (own_lg w)), .second] [(.long (own_lg w))])
      refine own_go (fun _ k => XS.lconst X1.here hx rfl (hb hby at_70) k) ?_
      show own_Go p e below _ T1 (mkF m 71 #[.val (.int p1), .val (.int p2), .val (.int w), .val (.long (own_lg w)), .second] [(.long (0 : Int64)), (.long (own_lg w))])
      refine own_go (fun _ k => XS.lcmp X1.here hx rfl (hb hby at_71) rfl k) ?_
      show own_Go p e below _ T1 (mkF m 72 #[.val (.int p1), .val (.int p2), .val (.int w), .val (.long (own_lg w)), .second] [(.int (lcmpW (own_lg w) (0 : Int64)))])
      refine own_go (fun _ k => XS.ifNo X1.here hx rfl (hb hby at_72) rfl ((if0 _ _).trans (teq ((lw_eq _ _).mpr (f3 hz))).2) k) ?_
      show own_Go p e below _ T1 (mkF m 75 #[.val (.int p1), .val (.int p2), .val (.int w), .val (.long (own_lg w)), .second] [])
      refine own_go (fun _ k => XS.iconst X1.here hx rfl (hb hby at_75) k) ?_
      show own_Go p e below _ T1 (mkF m 76 #[.val (.int p1), .val (.int p2), .val (.int w), .val (.long (own_lg w)), .second] [(.int (1 : Int32))])
      refine own_go (fun _ k => XS.goto X1.here hx rfl (pc0 := 76) (pc' := 80) rfl (hb hby at_76) (by decide) (by decide) k) ?_
      show own_Go p e below _ T1 (mkF m 80 #[.val (.int p1), .val (.int p2), .val (.int w), .val (.long (own_lg w)), .second] [(.int (1 : Int32))])
      exact own_endZ X1 hx hret hlk (hb hby at_80) rfl (by decide) (by decide) ⟨rfl, N1⟩
    · refine own_go (fun _ k => XS.ifYes X1.here hx rfl (pc0 := 66) (pc' := 81) rfl (hb hby at_66) rfl ((if0 _ _).trans (feq hz).2) (by decide) (by decide) k) ?_
      show own_Go p e below _ T1 (mkF m 81 #[.val (.int p1), .val (.int p2), .val (.int w), .val (.long (own_lg w)), .second] [])
      refine own_go (fun _ k => XS.lloadN X1.here hx rfl (hb hby at_81) rfl  k) ?_
      show own_Go p e below _ T1 (mkF m 82 #[.val (.int p1), .val (.int p2), .val (.int w), .val (.long (own_lg w)), .second] [(.long (own_lg w))])
      refine own_go (fun _ k => XS.iloadN X1.here hx rfl (hb hby at_82) rfl  k) ?_
      show own_Go p e below _ T1 (mkF m 83 #[.val (.int p1), .val (.int p2), .val (.int w), .val (.long (own_lg w)), .second] [(.int w), (.long (own_lg w))])
      refine own_go (fun _ k => XS.iconst X1.here hx rfl (hb hby at_83) k) ?_
      show own_Go p e below _ T1 (mkF m 84 #[.val (.int p1), .val (.int p2), .val (.int w), .val (.long (own_lg w)), .second] [(.int (1 : Int32)), (.int w), (.long (own_lg w))])
      refine own_go (fun _ k => XS.isub X1.here hx rfl (hb hby at_84) rfl k) ?_
      show own_Go p e below _ T1 (mkF m 85 #[.val (.int p1), .val (.int p2), .val (.int w), .val (.long (own_lg w)), .second] [(.int (w - (1 : Int32))), (.long (own_lg w))])
      refine own_go (fun _ k => XS.lushr X1.here hx rfl (hb hby at_85) rfl k) ?_
      show own_Go p e below _ T1 (mkF m 86 #[.val (.int p1), .val (.int p2), .val (.int w), .val (.long (own_lg w)), .second] [(.long (((own_lg w).toUInt64 >>> ((w - (1 : Int32)) &&& 0x3f).toInt64.toUInt64).toInt64))])
      refine own_go (fun _ k => XS.lconst X1.here hx rfl (hb hby at_86) k) ?_
      show own_Go p e below _ T1 (mkF m 87 #[.val (.int p1), .val (.int p2), .val (.int w), .val (.long (own_lg w)), .second] [(.long (1 : Int64)), (.long (((own_lg w).toUInt64 >>> ((w - (1 : Int32)) &&& 0x3f).toInt64.toUInt64).toInt64))])
      refine own_go (fun _ k => XS.lcmp X1.here hx rfl (hb hby at_87) rfl k) ?_
      show own_Go p e below _ T1 (mkF m 88 #[.val (.int p1), .val (.int p2), .val (.int w), .val (.long (own_lg w)), .second] [(.int (lcmpW (((own_lg w).toUInt64 >>> ((w - (1 : Int32)) &&& 0x3f).toInt64.toUInt64).toInt64) (1 : Int64)))])
      refine own_go (fun _ k => XS.ifNo X1.here hx rfl (hb hby at_88) rfl ((if0 _ _).trans (teq ((lw_eq _ _).mpr (f4 hz))).2) k) ?_
      show own_Go p e below _ T1 (mkF m 91 #[.val (.int p1), .val (.int p2), .val (.int w), .val (.long (own_lg w)), .second] [])
      refine own_go (fun _ k => XS.iconst X1.here hx rfl (hb hby at_91) k) ?_
      show own_Go p e below _ T1 (mkF m 92 #[.val (.int p1), .val (.int p2), .val (.int w), .val (.long (own_lg w)), .second] [(.int (1 : Int32))])
      refine own_go (fun _ k => XS.goto X1.here hx rfl (pc0 := 92) (pc' := 96) rfl (hb hby at_92) (by decide) (by decide) k) ?_
      show own_Go p e below _ T1 (mkF m 96 #[.val (.int p1), .val (.int p2), .val (.int w), .val (.long (own_lg w)), .second] [(.int (1 : Int32))])
      exact own_endZ X1 hx hret hlk (hb hby at_96) rfl (by decide) (by decide) ⟨rfl, N1⟩
  · refine own_go (fun _ k => XS.icmpNo X1.here hx rfl (hb hby at_26) rfl (flt hc).1 k) ?_
    show own_Go p e below _ T1 (mkF m 29 #[.val (.int p1), .val (.int p2), .val (.int w), .val (.long (own_lg w)), .second] [])
    have f1 : own_lg w = (-1 : Int64) := by rw [own_lg, if_neg hc]
    refine own_go (fun _ k => XS.lloadN X1.here hx rfl (hb hby at_29) rfl  k) ?_
    show own_Go p e below _ T1 (mkF m 30 #[.val (.int p1), .val (.int p2), .val (.int w), .val (.long (own_lg w)), .second] [(.long (own_lg w))])
    refine own_go (fun _ k => X1.ldc2Long hx hown (mvT hZ (hw _ (List.mem_of_getElem? (i := 5) rfl))) (g := (mkF m 30 #[.val (.int p1), .val (.int p2), .val (.int w), .val (.long (own_lg w)), .second] [(.long (own_lg w))])) rfl (hb hby at_30) _ k) ?_
    show own_Go p e below _ T1 (mkF m 33 #[.val (.int p1), .val (.int p2), .val (.int w), .val (.long (own_lg w)), .second] [(.long (-1 : Int64)), (.long (own_lg w))])
    refine own_go (fun _ k => XS.lcmp X1.here hx rfl (hb hby at_33) rfl k) ?_
    show own_Go p e below _ T1 (mkF m 34 #[.val (.int p1), .val (.int p2), .val (.int w), .val (.long (own_lg w)), .second] [(.int (lcmpW (own_lg w) (-1 : Int64)))])
    refine own_go (fun _ k => XS.ifNo X1.here hx rfl (hb hby at_34) rfl ((if0 _ _).trans (teq ((lw_eq _ _).mpr f1)).2) k) ?_
    show own_Go p e below _ T1 (mkF m 37 #[.val (.int p1), .val (.int p2), .val (.int w), .val (.long (own_lg w)), .second] [])
    refine own_go (fun _ k => XS.iconst X1.here hx rfl (hb hby at_37) k) ?_
    show own_Go p e below _ T1 (mkF m 38 #[.val (.int p1), .val (.int p2), .val (.int w), .val (.long (own_lg w)), .second] [(.int (1 : Int32))])
    refine own_go (fun _ k => XS.goto X1.here hx rfl (pc0 := 38) (pc' := 42) rfl (hb hby at_38) (by decide) (by decide) k) ?_
    show own_Go p e below _ T1 (mkF m 42 #[.val (.int p1), .val (.int p2), .val (.int w), .val (.long (own_lg w)), .second] [(.int (1 : Int32))])
    exact own_endZ X1 hx hret hlk (hb hby at_42) rfl (by decide) (by decide) ⟨rfl, N1⟩
theorem ef_0 (m : MethodId) (x0 : Int32) (x1 : Int32) : entryFrame m #[(.int x0), (.int x1)] maxLocals = mkF m 0 #[.val (.int x0), .val (.int x1), .unset, .unset, .unset] [] := by first | (simp [entryFrame, mkF, argsToLocals, Value.category, maxLocals]; done) | rfl
set_option maxRecDepth 65536 in
set_option maxHeartbeats 40000000 in
theorem rm0 (l : Launch) (Z : State) (a0 : Array Value) (hw : ∀ d ∈ tables_1, d.before a0 Z = true) (ws : List Jvm.Cond) (p1 : Int32) (p2 : Int32) (h0 : Heap) (n0 : Nat) (Z0 : n0 ≤ h0.size)  :
    MetFree l x (head1 (Jvm.Cond.code x code maxLocals ret :: ws) room_1) (fun a U => a = #[(.int p1), (.int p2)] ∧ Z.Warmed39 U.vm ∧ U.heap = h0) (fun _ _ _ _ _ => True) (fun _ U o U' => ∃ v L, o = .returned v ∧ (own_R (fun v _ L => v = some (.int 1) ∧ Fr n0 L)) v U'.heap L ∧ FrameEnd U o U' L room_1.cells room_1.slots) := by
  refine MetFree.of_bodySF (plainFor_of_name pn_1) hisR ?_
  intro p e s m args below meth c s₁ Bd hml0 hP hK
  obtain ⟨rfl, hZ, hh⟩ := hP
  have hx := Bd.exec
  have hby := Bd.bytes
  have hml : c.maxLocals = 5 := hml0
  have hown : s.vm.findClass "loadpath/sim/MailboxLargestPinLaw" = some m.cls := findClass_of_methodNamed Bd.named
  have hnm := (name_of_methodNamed Bd.named Bd.method).1
  have hret := Bd.returns
  have hlk : meth.locks = false := Bd.notSynchronized
  have X0 : Stand p l e room_1 s m #[(.int p1), (.int p2)] below meth c s₁ [] 0 0 := Stand.of_body Bd
  have e0 : s₁.heap = h0 := by rw [← hh, Bd.state]; rfl
  have N0 := Fr.nil n0
  show own_Go p e below (own_P (own_R (fun v _ L => v = some (.int 1) ∧ Fr n0 L)) room_1 s) s₁ (entryFrame m #[(.int p1), (.int p2)] maxLocals)
  rw [ef_0 m p1 p2]
  show own_Go p e below _ s₁ (mkF m 0 #[.val (.int p1), .val (.int p2), .unset, .unset, .unset] [])
  refine own_go (fun _ k => XS.iloadN X0.here hx rfl (hb hby at_0) rfl  k) ?_
  show own_Go p e below _ s₁ (mkF m 1 #[.val (.int p1), .val (.int p2), .unset, .unset, .unset] [(.int p2)])
  refine own_go (fun _ k => XS.iconst X0.here hx rfl (hb hby at_1) k) ?_
  show own_Go p e below _ s₁ (mkF m 2 #[.val (.int p1), .val (.int p2), .unset, .unset, .unset] [(.int (1 : Int32)), (.int p2)])
  refine own_go (fun _ k => XS.iand X0.here hx rfl (hb hby at_2) rfl k) ?_
  show own_Go p e below _ s₁ (mkF m 3 #[.val (.int p1), .val (.int p2), .unset, .unset, .unset] [(.int (p2 &&& (1 : Int32)))])
  by_cases hb0 : (p2 &&& (1 : Int32)) = (0 : Int32)
  · refine own_go (fun _ k => XS.ifYes X0.here hx rfl (pc0 := 3) (pc' := 13) rfl (hb hby at_3) rfl ((if0 _ _).trans (teq hb0).1) (by decide) (by decide) k) ?_
    show own_Go p e below _ s₁ (mkF m 13 #[.val (.int p1), .val (.int p2), .unset, .unset, .unset] [])
    refine own_go (fun _ k => XS.iloadN X0.here hx rfl (hb hby at_13) rfl  k) ?_
    show own_Go p e below _ s₁ (mkF m 14 #[.val (.int p1), .val (.int p2), .unset, .unset, .unset] [(.int p1)])
    refine own_go (fun _ k => X0.ldcInt hx hown (mvT hZ (hw _ (List.mem_of_getElem? (i := 6) rfl))) (g := (mkF m 14 #[.val (.int p1), .val (.int p2), .unset, .unset, .unset] [(.int p1)])) rfl (hb hby at_14) _ k) ?_
    show own_Go p e below _ s₁ (mkF m 16 #[.val (.int p1), .val (.int p2), .unset, .unset, .unset] [(.int (2147483647 : Int32)), (.int p1)])
    refine own_go (fun _ k => XS.iand X0.here hx rfl (hb hby at_16) rfl k) ?_
    show own_Go p e below _ s₁ (mkF m 17 #[.val (.int p1), .val (.int p2), .unset, .unset, .unset] [(.int (p1 &&& (2147483647 : Int32)))])
    refine own_go (fun _ k => XS.istoreN X0.here hx rfl (hb hby at_17) rfl (l' := #[.val (.int p1), .val (.int p2), .val (.int (p1 &&& (2147483647 : Int32))), .unset, .unset]) rfl k) ?_
    show own_Go p e below _ s₁ (mkF m 18 #[.val (.int p1), .val (.int p2), .val (.int (p1 &&& (2147483647 : Int32))), .unset, .unset] [])
    exact own_t18 p1 p2 _ X0 hx hZ hw hby hml hown hret hlk e0 Z0 N0 (own_m31 p1)
  · refine own_go (fun _ k => XS.ifNo X0.here hx rfl (hb hby at_3) rfl ((if0 _ _).trans (feq hb0).1) k) ?_
    show own_Go p e below _ s₁ (mkF m 6 #[.val (.int p1), .val (.int p2), .unset, .unset, .unset] [])
    refine own_go (fun _ k => XS.iloadN X0.here hx rfl (hb hby at_6) rfl  k) ?_
    show own_Go p e below _ s₁ (mkF m 7 #[.val (.int p1), .val (.int p2), .unset, .unset, .unset] [(.int p1)])
    refine own_go (fun _ k => XS.bipush X0.here hx rfl (hb hby at_7) k) ?_
    show own_Go p e below _ s₁ (mkF m 9 #[.val (.int p1), .val (.int p2), .unset, .unset, .unset] [(.int (127 : Int32)), (.int p1)])
    refine own_go (fun _ k => XS.iand X0.here hx rfl (hb hby at_9) rfl k) ?_
    show own_Go p e below _ s₁ (mkF m 10 #[.val (.int p1), .val (.int p2), .unset, .unset, .unset] [(.int (p1 &&& (127 : Int32)))])
    refine own_go (fun _ k => XS.goto X0.here hx rfl (pc0 := 10) (pc' := 17) rfl (hb hby at_10) (by decide) (by decide) k) ?_
    show own_Go p e below _ s₁ (mkF m 17 #[.val (.int p1), .val (.int p2), .unset, .unset, .unset] [(.int (p1 &&& (127 : Int32)))])
    refine own_go (fun _ k => XS.istoreN X0.here hx rfl (hb hby at_17) rfl (l' := #[.val (.int p1), .val (.int p2), .val (.int (p1 &&& (127 : Int32))), .unset, .unset]) rfl k) ?_
    show own_Go p e below _ s₁ (mkF m 18 #[.val (.int p1), .val (.int p2), .val (.int (p1 &&& (127 : Int32))), .unset, .unset] [])
    exact own_t18 p1 p2 _ X0 hx hZ hw hby hml hown hret hlk e0 Z0 N0 (own_m7 p1)
set_option maxRecDepth 65536 in
set_option maxHeartbeats 40000000 in
theorem comes_1 {Post : Tables → Env → Array Value → State → Outcome → State → Prop} (hpost : ∀ tb e args s v u, (limb_1_1.after args s (.returned v) u = true ∧ limb_1_2.after args s (.returned v) u = true ∧ True) → FrameEnd s (.returned v) u (Jvm.fieldLocs frame_1_writes args s ++ Jvm.arrayLocs frame_1_arrays args s ++ Jvm.staticLocs frame_1_statics s) 0 0 → Post tb e args s (.returned v) u) :
    ArmFor flags0 classFile x code maxLocals ret World_1 tables_1 room_1 Calls_1 rest_1 Pre_1 Post := by
  intro l hfl _ _ p e ha hc hk s m args below hf hA hF happ hP
  obtain ⟨hcalls, hrest, hpre⟩ := hP
  obtain ⟨-, -, -, hnamed, -, -, -, hat⟩ := (Spec.applies_iff hf).mp happ
  obtain ⟨hg, hn⟩ := and_e (Cond.before_iff.mp (show (Jvm.Cond.and given_1 narrow_1).before args s = true from hpre))
  obtain ⟨k0, g0⟩ := and_e hg
  obtain ⟨k1, g1⟩ := and_e g0
  obtain ⟨w0, w1, rfl⟩ : ∃ w0 w1 : Value, args = #[w0, w1] := by
    have hs : args.size = 2 := by simpa [Cond.value, given_1] using k0
    obtain ⟨L⟩ := args
    match L, hs with
    | [w0, w1], _ => exact ⟨w0, w1, rfl⟩
  have hw := fun d (hd : d ∈ tables_1) => atoms_spec (ws := Jvm.Cond.code x code maxLocals ret :: tables_1) hat d (List.mem_cons_of_mem _ hd)
  obtain ⟨i0, ei0⟩ := is_v k1
  obtain rfl : w0 = (.int i0) := Option.some.inj ei0
  obtain ⟨i1, ei1⟩ := is_v g1
  obtain rfl : w1 = (.int i1) := Option.some.inj ei1
  obtain ⟨n, o, h1, h2, h3, _, L, rfl, ⟨rfl, N⟩, hq⟩ := rm0 l s _ hw tables_1 i0 i1 s.heap s.heap.size (Nat.le_refl _) p e ha hc hk s m _ below hf ((Spec.applies_iff_loose hf).mp happ).1 ⟨rfl, State.Warmed39.refl s, rfl⟩ trivial
  refine ⟨n, _, h1, h2, h3, hpost _ _ _ _ _ _ ⟨Cond.after_iff.mpr rfl, Cond.after_iff.mpr (eq_i res_at (Term.int_eval (1)) rfl), trivial⟩ ⟨hq.1, hq.2.1, (hq.2.2.sift fun y hy => Or.inr (N y hy)).mono (by decide) (by decide)⟩⟩
theorem main_1_1 : Claimed_1_1 := comes_1 fun _ _ _ _ _ _ h hF => ⟨h.1, hF⟩
theorem main_1_2 : Claimed_1_2 := comes_1 fun _ _ _ _ _ _ h hF => ⟨h.2.1, hF⟩
end Jvm.Pilot.@@N@@
namespace Jvm.Pilot.@@N@@
open Jvm Jvm.ClassFile Sem Op Lib Jvm.Free Jvm.Stand Jvm.Pilot.@@N@@.Jvm.D
/-! MADE BY PROGRAM (witnessworld.py) out of the Statement's table words and the real class files: 9 classes; the members and pool entries that the words name. The judged class is class 1, her method 1. -/
namespace start1
open Jvm.ClassFile
def u (s : String) : CpInfo := .utf8 (stringToUtf16 s)
/-- a pool by its gaps: so many unusable entries, then the entry; so many at the end -/
def gap : Nat → List CpInfo → List CpInfo
  | 0, r => r
  | n + 1, r => .unusable :: gap n r
def poolList (es : List (Nat × CpInfo)) (last : Nat) : List CpInfo := es.foldr (fun e r => gap e.1 (e.2 :: r)) (gap last [])
def pool (es : List (Nat × CpInfo)) (last : Nat) : Array CpInfo := ⟨poolList es last⟩
def fileOf (pool : Array CpInfo) (this : Nat) (attrs : Array Attribute := #[]) (ms : Array MethodInfo := #[]) (fl : Nat := 33) (sup : Nat := 0) (ifs : Array Nat := #[]) (fds : Array FieldInfo := #[]) : ClassFile where
  minorVersion := 0
  majorVersion := 65
  constantPool := pool
  accessFlags := fl
  thisClass := this
  superClass := sup
  interfaces := ifs
  fields := fds
  methods := ms
  attributes := attrs
def plain (name : String) (sup : Option ClassId) : Class where
  name := name
  kind := .ordinary
  loader := none
  accessFlags := 33
  super := sup
  interfaces := #[]
  cf := none
  fields := #[]
  methods := #[]
  instanceTypes := #[]
  staticTypes := #[]
  resolved := #[]
  callSites := []
  init := .initialized
  statics := none
  mirror := none

def pool0 : Array CpInfo := pool [(5, u "<init>"), (0, u "()V"), (1, .class_ 10), (1, u "java/lang/Object")] 113

def k0m0 : Method := { name := "<init>", desc := "()V", sig := { parameters := [], returnType := none }, accessFlags := 1, code := none }
/-- java/lang/Object -/
def k0 : Class := { plain "java/lang/Object" none with
  accessFlags := 33
  interfaces := #[]
  cf := some (fileOf pool0 8 #[] #[{ accessFlags := 1, nameIndex := 5, descriptorIndex := 6, attributes := #[] }] 33 0 #[] #[])
  fields := #[]
  methods := #[k0m0]
  instanceTypes := #[]
  staticTypes := #[]
  resolved := Array.replicate 124 none
  statics := none }

def pool1 : Array CpInfo := pool [(2, .class_ 4), (1, u "java/lang/Object"), (0, u "<init>"), (0, u "()V"), (0, .integer 2147483647), (0, .interfaceMethodref 9 10), (0, .class_ 11), (0, .nameAndType 12 13), (0, u "loadpath/sim/Mailbox"), (0, u "largest"), (0, u "(I)J"), (0, .long 18446744073709551615), (1, .class_ 17), (0, u "loadpath/sim/MailboxLargestPinLaw"), (2, u "law"), (0, u "(II)Z")] 3

def k1m0 : Method := { name := "<init>", desc := "()V", sig := { parameters := [], returnType := none }, accessFlags := 1, code := none }
def k1c1 : Code := { maxStack := 6, maxLocals := 5, code := code, exceptionTable := #[], attributes := #[] }
def k1m1 : Method := { name := "law", desc := "(II)Z", sig := { parameters := [.int, .int], returnType := some .boolean }, accessFlags := 9, code := some k1c1 }
/-- loadpath/sim/MailboxLargestPinLaw -/
def k1 : Class := { plain "loadpath/sim/MailboxLargestPinLaw" (some 0) with
  accessFlags := 49
  interfaces := #[]
  cf := some (fileOf pool1 16 #[] #[{ accessFlags := 1, nameIndex := 5, descriptorIndex := 6, attributes := #[] }, { accessFlags := 9, nameIndex := 20, descriptorIndex := 21, attributes := #[] }] 49 2 #[] #[])
  fields := #[]
  methods := #[k1m0, k1m1]
  instanceTypes := #[]
  staticTypes := #[]
  resolved := Array.replicate 25 none
  statics := none }

def pool2 : Array CpInfo := pool [(13, .long 18446744073709551615), (2, .class_ 18), (1, u "loadpath/sim/Mailbox"), (5, u "(I)J"), (15, .class_ 41), (0, u "java/lang/Object"), (3, u "largest")] 8

def k2c0 : Code := { maxStack := 4, maxLocals := 1, code := prog_125_method_2_code, exceptionTable := #[], attributes := #[] }
def k2m0 : Method := { name := "largest", desc := "(I)J", sig := { parameters := [.int], returnType := some .long }, accessFlags := 9, code := some k2c0 }
/-- loadpath/sim/Mailbox -/
def k2 : Class := { plain "loadpath/sim/Mailbox" (some 0) with
  accessFlags := 1537
  interfaces := #[]
  cf := some (fileOf pool2 16 #[] #[{ accessFlags := 9, nameIndex := 45, descriptorIndex := 24, attributes := #[] }] 1537 40 #[] #[])
  fields := #[]
  methods := #[k2m0]
  instanceTypes := #[]
  staticTypes := #[]
  resolved := Array.replicate 54 none
  statics := none }

def pool3 : Array CpInfo := pool [(1, u "java/lang/Cloneable"), (0, .class_ 1), (0, u "java/lang/Object"), (0, .class_ 3)] 3

/-- java/lang/Cloneable -/
def k3 : Class := { plain "java/lang/Cloneable" (some 0) with
  accessFlags := 1537
  interfaces := #[]
  cf := some (fileOf pool3 2 #[] #[] 1537 4 #[] #[])
  fields := #[]
  methods := #[]
  instanceTypes := #[]
  staticTypes := #[]
  resolved := Array.replicate 8 none
  statics := none }

def pool4 : Array CpInfo := pool [(1, u "java/io/Serializable"), (0, .class_ 1), (0, u "java/lang/Object"), (0, .class_ 3)] 3

/-- java/io/Serializable -/
def k4 : Class := { plain "java/io/Serializable" (some 0) with
  accessFlags := 1537
  interfaces := #[]
  cf := some (fileOf pool4 2 #[] #[] 1537 4 #[] #[])
  fields := #[]
  methods := #[]
  instanceTypes := #[]
  staticTypes := #[]
  resolved := Array.replicate 8 none
  statics := none }

/-- the primitive byte -/
def k5 : Class := { plain "byte" none with kind := .primitive 'B', accessFlags := 0x411 }
/-- [B -/
def k6 : Class := { plain "[B" (some 0) with kind := .array 5 .byte, interfaces := #[3, 4], accessFlags := 1041 }

/-- the primitive int -/
def k7 : Class := { plain "int" none with kind := .primitive 'I', accessFlags := 0x411 }
/-- [I -/
def k8 : Class := { plain "[I" (some 0) with kind := .array 7 .int, interfaces := #[3, 4], accessFlags := 1041 }

def heap : Heap := #[]
def classes : Array Class := #[k0, k1, k2, k3, k4, k5, k6, k7, k8]
def interned : List (Array UInt16 × Addr) := []
def slotsUsed : Nat := 0
def theMethod : MethodId := ⟨1, 1⟩
def args0 : Array Value := #[.int 5, .int 3]
def aboutOver (below : List Frame) : State where
  vm := { classes := classes, interned := interned.toArray }
  heap := heap
  slotsUsed := slotsUsed
  threads := #[{ frames := .invoking theMethod args0 :: below }]
def below0 : List Frame := [.native { method := ⟨0, 0⟩, args := #[] }]
def about1 : State := aboutOver below0
def p0 : Program := .bare "" "" ""
def e0 : Env := launch0.env 0 0 0
theorem w_frames : about1.frames = Frame.invoking theMethod args0 :: below0 := rfl
set_option maxRecDepth 65536 in
theorem w_args : argsFit about1.vm theMethod args0 = true := by decide +kernel
set_option maxRecDepth 65536 in
theorem w_heap : heapFits about1 = true := by decide +kernel
set_option maxRecDepth 65536 in
theorem w_runnable : about1.curStatus? = some .runnable := by decide +kernel
set_option maxRecDepth 65536 in
theorem w_alone : about1.alone = true := by decide +kernel
set_option maxRecDepth 65536 in
theorem w_named : about1.methodNamed? x = some theMethod := by decide +kernel
set_option maxRecDepth 65536 in
theorem w_hears : about1.hears theMethod below0 = true := by decide +kernel
set_option maxRecDepth 65536 in
theorem w_ripe : about1.ripe theMethod args0 below0 = true := by decide +kernel
theorem w_running : about1.status = .running := rfl
set_option maxRecDepth 65536 in
theorem w_room : about1.hasRoom e0.platform room_1 = true :=
  launch0.hasRoom_least _ room_1 (by decide +kernel) (by decide +kernel) (by decide +kernel) (by decide +kernel) (by decide +kernel) (by decide +kernel)
theorem allAtoms_all (ts : List Jvm.Cond) (a : Array Jvm.Value) (st : Jvm.State) : (allAtoms ts).before a st = ts.all (fun c => c.before a st) := by
  induction ts with
  | nil => rfl
  | cons c t ih =>
    show (Jvm.Cond.and c (allAtoms t)).before a st = _
    rw [Jvm.Cond.before_and, ih, List.all_cons]
def words1 : List Jvm.Cond := Jvm.Cond.code x code maxLocals ret :: tables_1
/-- a 'code' word, met by the world's own term for the bytes: nothing is compared byte by byte -/
theorem code_word {y : MethodName} {bytes : ByteArray} {mx : Nat} {rt : Option FieldType} {a : Array Value} {s : State} {m : MethodId} {meth : Method} {c : Code} (h1 : s.methodNamed? y = some m) (h2 : s.vm.method? m = some meth) (h3 : meth.code = some c) (h4 : c.code = bytes)
    (h5 : (c.maxLocals == mx && c.exceptionTable.isEmpty && decide (c.maxStack ≤ mostOperands) && decide (meth.sig.returnType = rt) && !meth.locks && decide (parseMethodDescriptor y.desc = some meth.sig)) = true) : (Jvm.Cond.code y bytes mx rt).before a s = true := by
  simp only [Bool.and_eq_true, beq_iff_eq, Bool.not_eq_true', decide_eq_true_eq] at h5
  obtain ⟨⟨⟨⟨⟨g1, g2⟩, g3⟩, g4⟩, g5⟩, g6⟩ := h5
  simp [Cond.before, Cond.holds, Cond.value, h1, h2, h3, h4, g1, g2, g3, g4, g5, g6]
def isCode : Jvm.Cond → Bool
  | .code _ _ _ _ => true
  | _ => false
theorem all_split {L : List Jvm.Cond} {P : Jvm.Cond → Bool} (h1 : L.all (fun c => isCode c || P c) = true) (h2 : ∀ c ∈ L.filter isCode, P c = true) : L.all P = true := by
  refine List.all_eq_true.mpr fun c hc => ?_
  have h := List.all_eq_true.mp h1 c hc
  rcases Bool.eq_false_or_eq_true (isCode c) with hi | hi
  · exact h2 c (List.mem_filter.mpr ⟨hc, hi⟩)
  · simpa [hi] using h
set_option maxRecDepth 65536 in
theorem w_c0 : (Jvm.Cond.code x code maxLocals ret).before args0 about1 = true := code_word (m := ⟨1, 1⟩) (meth := k1m1) (c := k1c1) (by decide +kernel) rfl rfl rfl (by decide +kernel)
set_option maxRecDepth 65536 in
theorem w_c1 : (Jvm.Cond.code ({ cls := "loadpath/sim/Mailbox", name := "largest", desc := "(I)J" } : Jvm.MethodName) prog_125_method_2_code (1 : Nat) (Option.some Jvm.ClassFile.FieldType.long)).before args0 about1 = true := code_word (m := ⟨2, 0⟩) (meth := k2m0) (c := k2c0) (by decide +kernel) rfl rfl rfl (by decide +kernel)
def codes1 : List Jvm.Cond := [Jvm.Cond.code x code maxLocals ret, Jvm.Cond.code ({ cls := "loadpath/sim/Mailbox", name := "largest", desc := "(I)J" } : Jvm.MethodName) prog_125_method_2_code (1 : Nat) (Option.some Jvm.ClassFile.FieldType.long)]
set_option maxRecDepth 65536 in
theorem codes_eq : words1.filter isCode = codes1 := rfl
theorem w_codes : ∀ c ∈ words1.filter isCode, c.before args0 about1 = true := by
  rw [codes_eq]
  intro c hc
  simp only [codes1, List.mem_cons, List.not_mem_nil, or_false] at hc
  rcases hc with rfl | rfl
  · exact w_c0
  · exact w_c1
set_option maxRecDepth 65536 in
theorem w_t1 : words1.all (fun c => isCode c || c.before args0 about1) = true := by decide +kernel
theorem w_tables : (allAtoms (Jvm.Cond.code x code maxLocals ret :: tables_1)).before args0 about1 = true := by
  rw [allAtoms_all]
  show words1.all (fun c => c.before args0 about1) = true
  refine all_split ?_ w_codes
  rw [w_t1]
set_option maxRecDepth 65536 in
theorem w_case : (Jvm.Cond.and given_1 narrow_1).before args0 about1 = true := by decide +kernel
theorem w_applies : (headSpec (Jvm.Cond.code x code maxLocals ret :: tables_1) room_1).applies x e0.platform about1 = true :=
  (Spec.applies_iff w_frames).mpr ⟨w_running, w_runnable, w_alone, w_named, w_hears, w_ripe, w_room, w_tables⟩
theorem atStart : AtStart classFile x code maxLocals ret World_1 tables_1 room_1 Calls_1 rest_1 Pre_1 launch0 p0 e0 about1 theMethod args0 below0 :=
  ⟨lists_1, trivial, launch0.admits_env _ _ _, launch0.least_env, fairChoices_fair.cas, fairChoices_fair.clock, w_frames, w_args, w_heap, w_applies, trivial, trivial, w_case⟩
end start1
theorem witness_1 : WitnessClaimed_1 := ⟨start1.p0, start1.e0, start1.about1, start1.theMethod, start1.args0, start1.below0, start1.atStart⟩
end Jvm.Pilot.@@N@@
