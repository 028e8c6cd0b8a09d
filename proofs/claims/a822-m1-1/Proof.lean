import JvmDerived
import JvmDerived.Pilot.@@N@@Statement
import JvmDerived.Pilot.@@N@@Code
set_option linter.unusedVariables false
set_option linter.unusedSimpArgs false
@@BLOCK:NumsL.lean.txt@@
namespace Jvm.RoadKit
open Sem ClassFile Op Lib Jvm.Stand Jvm.Free Jvm.LawKit
section Own
variable {p : Program} {l : Launch} {e : Env} {R : Room} {s : State} {m : MethodId} {args : Array Value} {below : List Frame} {meth : Method} {c : Code} {T : State} {locs : List Loc} {cells slots : Nat} {Z : State} {a0 : Array Value} {h : Heap}
/-- from the state F the walked method comes to its end, and Q holds there -/
def own_Out (p : Program) (e : Env) (below : List Frame) (Q : Outcome → State → Prop) (F : State) : Prop :=
  ∃ s₂ o, Steps p.tables e below F s₂ ∧ s₂.status = .running ∧ Ended s₂ below o ∧ Q o s₂
/-- what a contract says of the end, out of a statement on the value, the heap and the written places -/
def own_Q (Q : Option Value → Heap → List Loc → Prop) (s : State) (k n : Nat) : Outcome → State → Prop :=
  fun o U => ∃ v L, o = .returned v ∧ Q v U.heap L ∧ FrameEnd s o U L k n
theorem own_st {Q : Outcome → State → Prop} {F G : State} (h : ∀ t, Steps p.tables e below G t → Steps p.tables e below F t) (k : own_Out p e below Q G) : own_Out p e below Q F := by
  obtain ⟨s2, o, h1, h2⟩ := k
  exact ⟨s2, o, h _ h1, h2⟩
theorem own_tr {Q : Outcome → State → Prop} {F G : State} (h : Steps p.tables e below F G) (k : own_Out p e below Q G) : own_Out p e below Q F :=
  own_st (fun _ q => h.trans q) k
theorem own_retB (X : Stand p l e R s m args below meth c T locs cells slots) (hx : p.tables.exec = Jvm.exec) {Q : Option Value → Heap → List Loc → Prop} {k n : Nat} {pc : Nat} {Ls : Array Slot} {z : Int32} {t : FieldType} {rest : List Value}
    (hret : meth.sig.returnType = some t) (ht : t = .boolean ∨ t = .byte ∨ t = .char ∨ t = .short) (hlk : meth.locks = false) (hd : decode c.code pc = .ok (.ireturn, 1)) (hc : cells ≤ k) (hs : slots ≤ n)
    (hq : Q (some (.int (nar t z))) T.heap locs) : own_Out p e below (own_Q Q s k n) (T.setTop (mkF m pc Ls (.int z :: rest))) := by
  obtain ⟨fs, hr, hrun, hended, hW, hsame⟩ := X.leave (v := some (.int (nar t z))) (fun h => by rw [hret] at h; cases h) hlk
  exact ⟨_, _, retN X hx (t := t) hret ht hd hr, hrun, hended, _, _, rfl, hq, ⟨_, rfl⟩, hW, hsame.mono hc hs⟩
theorem own_retV (X : Stand p l e R s m args below meth c T locs cells slots) (hx : p.tables.exec = Jvm.exec) {Q : Option Value → Heap → List Loc → Prop} {k n : Nat} {pc : Nat} {Ls : Array Slot} {w : Value} {t : FieldType} {i : Instr} {rest : List Value}
    (hret : meth.sig.returnType = some t) (hn : narrow t w = w)
    (hi : (i = .ireturn ∧ (t = .int ∨ t = .boolean ∨ t = .byte ∨ t = .char ∨ t = .short) ∧ ∃ z, w = .int z) ∨ (i = .lreturn ∧ t = .long ∧ ∃ z, w = .long z) ∨ (i = .dreturn ∧ t = .double ∧ ∃ z, w = .double z) ∨ (i = .freturn ∧ t = .float ∧ ∃ z, w = .float z) ∨ (i = .areturn ∧ t.isReference = true ∧ w.isRef = true))
    (hlk : meth.locks = false) (hd : decode c.code pc = .ok (i, 1)) (hc : cells ≤ k) (hs : slots ≤ n)
    (hq : Q (some w) T.heap locs) : own_Out p e below (own_Q Q s k n) (T.setTop (mkF m pc Ls (w :: rest))) := by
  obtain ⟨fs, hr, hrun, hended, hW, hsame⟩ := X.leave (v := some w) (fun h => by rw [hret] at h; cases h) hlk
  exact ⟨_, _, retOut X hx hret hn hi hd hr, hrun, hended, _, _, rfl, hq, ⟨_, rfl⟩, hW, hsame.mono hc hs⟩
theorem own_retI (X : Stand p l e R s m args below meth c T locs cells slots) (hx : p.tables.exec = Jvm.exec) {Q : Option Value → Heap → List Loc → Prop} {k n : Nat} {pc : Nat} {Ls : Array Slot} {z : Int32} {rest : List Value}
    (hret : meth.sig.returnType = some .int) (hlk : meth.locks = false) (hd : decode c.code pc = .ok (.ireturn, 1)) (hc : cells ≤ k) (hs : slots ≤ n)
    (hq : Q (some (.int z)) T.heap locs) : own_Out p e below (own_Q Q s k n) (T.setTop (mkF m pc Ls (.int z :: rest))) :=
  own_retV X hx hret rfl (Or.inl ⟨rfl, Or.inl rfl, _, rfl⟩) hlk hd hc hs hq
theorem own_retJ (X : Stand p l e R s m args below meth c T locs cells slots) (hx : p.tables.exec = Jvm.exec) {Q : Option Value → Heap → List Loc → Prop} {k n : Nat} {pc : Nat} {Ls : Array Slot} {z : Int64} {rest : List Value}
    (hret : meth.sig.returnType = some .long) (hlk : meth.locks = false) (hd : decode c.code pc = .ok (.lreturn, 1)) (hc : cells ≤ k) (hs : slots ≤ n)
    (hq : Q (some (.long z)) T.heap locs) : own_Out p e below (own_Q Q s k n) (T.setTop (mkF m pc Ls (.long z :: rest))) :=
  own_retV X hx hret rfl (Or.inr (Or.inl ⟨rfl, rfl, _, rfl⟩)) hlk hd hc hs hq
theorem own_retA (X : Stand p l e R s m args below meth c T locs cells slots) (hx : p.tables.exec = Jvm.exec) {Q : Option Value → Heap → List Loc → Prop} {k n : Nat} {pc : Nat} {Ls : Array Slot} {w : Value} {t : FieldType} {rest : List Value}
    (hret : meth.sig.returnType = some t) (ht : t.isReference = true) (hw : w.isRef = true) (hlk : meth.locks = false) (hd : decode c.code pc = .ok (.areturn, 1)) (hc : cells ≤ k) (hs : slots ≤ n)
    (hq : Q (some w) T.heap locs) : own_Out p e below (own_Q Q s k n) (T.setTop (mkF m pc Ls (w :: rest))) :=
  own_retV X hx hret (by cases t <;> first | (cases ht; done) | rfl | (cases w <;> rfl)) (Or.inr (Or.inr (Or.inr (Or.inr ⟨rfl, ht, hw⟩)))) hlk hd hc hs hq
theorem own_ret0 (X : Stand p l e R s m args below meth c T locs cells slots) (hx : p.tables.exec = Jvm.exec) {Q : Option Value → Heap → List Loc → Prop} {k n : Nat} {pc : Nat} {Ls : Array Slot}
    (hret : meth.sig.returnType = none) (hlk : meth.locks = false) (hd : decode c.code pc = .ok (.return_, 1)) (hc : cells ≤ k) (hs : slots ≤ n)
    (hq : Q none T.heap locs) : own_Out p e below (own_Q Q s k n) (T.setTop (mkF m pc Ls [])) := by
  obtain ⟨fs, hr, hrun, hended, hW, hsame⟩ := X.leave (v := none) (fun _ => rfl) hlk
  exact ⟨_, _, X.returnOut hx hret hd hr, hrun, hended, _, _, rfl, hq, ⟨_, rfl⟩, hW, hsame.mono hc hs⟩
/-- the head of every body's walk -/
theorem own_body {x : MethodName} {code : ByteArray} {maxL : Nat} {ret : Option FieldType} {ws : List Jvm.Cond} {rm : Room} {as' : Array Value} {Q : Option Value → Heap → List Loc → Prop} (hpn : plainName x.cls = true) (Lf : Array Slot)
    (hent : ∀ m, entryFrame m as' maxL = mkF m 0 Lf [])
    (body : ∀ p e s m below meth c T, Stand p l e rm s m as' below meth c T [] 0 0 → p.tables.exec = Jvm.exec → c.code = code → c.maxLocals = maxL → meth.sig.returnType = ret → meth.locks = false →
      s.vm.findClass x.cls = some m.cls → meth.name = x.name → Z.Warmed39 s.vm → T.heap = h → own_Out p e below (own_Q Q s rm.cells rm.slots) (T.setTop (mkF m 0 Lf []))) :
    MetFree l x (head1 (Jvm.Cond.code x code maxL ret :: ws) rm) (fun a U => a = as' ∧ Z.Warmed39 U.vm ∧ U.heap = h) (fun _ _ _ _ _ => True)
      (fun _ U o U' => ∃ v L, o = .returned v ∧ Q v U'.heap L ∧ FrameEnd U o U' L rm.cells rm.slots) := by
  refine MetFree.of_bodySF (plainFor_of_name hpn) hisR ?_
  intro p e s m args below meth c s₁ Bd hml0 hP hK
  obtain ⟨rfl, hZ, hh⟩ := hP
  have e0 : s₁.heap = h := by rw [← hh, Bd.state]; rfl
  obtain ⟨s2, o, h1, h2⟩ := body p e s m below meth c s₁ (Stand.of_body Bd) Bd.exec Bd.bytes hml0 Bd.returns (BodyLoose.notSynchronized Bd) (findClass_of_methodNamed Bd.named) (name_of_methodNamed Bd.named Bd.method).1 hZ e0
  exact ⟨s2, o, castTop (hent m) h1, h2⟩
/-- a static call by the callee's own contract -/
theorem own_callS (X : Stand p l e R s m args below meth c T locs cells slots) (hx : p.tables.exec = Jvm.exec) (hZ : Z.Warmed39 s.vm) {own : String} {index : Nat} {y : MethodName} {bytes : ByteArray} {maxL : Nat} {ret : Option FieldType} {rm : Room} {as' : List Value} {Q : Option Value → Heap → List Loc → Prop} {Qf : Outcome → State → Prop}
    (hown : s.vm.findClass own = some m.cls) (w1 : (Jvm.Cond.methodLink own index y).before a0 Z = true) (w2 : (Jvm.Cond.static y).before a0 Z = true) (w3 : (Jvm.Cond.initialized y.cls).before a0 Z = true) (w4 : (Jvm.Cond.code y bytes maxL ret).before a0 Z = true)
    (hy : y.cls ≠ "java/lang/invoke/MethodHandle" ∧ y.cls ≠ "java/lang/invoke/VarHandle")
    (hM : MetFree l y (head1 [Jvm.Cond.code y bytes maxL ret] rm) (fun a U => a = as'.toArray ∧ Z.Warmed39 U.vm ∧ U.heap = h) (fun _ _ _ _ _ => True) (fun _ U o U' => ∃ v L, o = .returned v ∧ Q v U'.heap L ∧ FrameEnd U o U' L rm.cells rm.slots))
    (W : Nat) (hf : rm.frames + 1 ≤ R.frames) (hl : W + (maxL + 11) + rm.locals ≤ R.locals) (hc : cells + rm.cells ≤ R.cells) (hs : slots + rm.slots ≤ R.slots)
    {pc : Nat} {Ls : Array Slot} {stk rest : List Value} (hsize : Ls.size = c.maxLocals) (hlen : ∀ sig, parseMethodDescriptor y.desc = some sig → as'.length = sig.parameters.length) (hstack : stk = as'.reverse ++ rest) (hW : (rest.map fun v => v.category).sum ≤ W) (hd : decode c.code pc = .ok (.invokestatic index, 3)) (eT : T.heap = h)
    (k : ∀ T' L v, Stand p l e R s m args below meth c T' (locs ++ L) (cells + rm.cells) (slots + rm.slots) → Q v T'.heap L → own_Out p e below Qf (T'.setTop (mkF m (pc + 3) Ls (v.toList ++ rest)))) :
    own_Out p e below Qf (T.setTop (mkF m pc Ls stk)) := by
  obtain ⟨v, _, ⟨T', L', k', n'⟩, -, X', ⟨Lc, hQ, hl', hy', hz'⟩, st⟩ := Jvm.LawKit.callS X hx (y := y) hown (mvT hZ w1) (mvT hZ w2) (mvT hZ w3) (mvT hZ w4) hy (backOf (W := W) hM hZ w4 w3 hf hl) (g := mkF m pc Ls stk) rfl hsize (argsL := as') (rest := rest) hlen hstack (by show 2 * 0 + _ ≤ _; omega) hd (fun _ _ => ⟨rfl, eT, hc, hs⟩)
  dsimp only [Pt.U, Pt.locs, Pt.cells, Pt.slots] at X' hl' hy' hz' st hQ
  subst hl' hy' hz'
  exact own_st st (k _ _ _ X' hQ)
/-- an instance method by its own contract -/
theorem own_callV (X : Stand p l e R s m args below meth c T locs cells slots) (hx : p.tables.exec = Jvm.exec) (hZ : Z.Warmed39 s.vm) {own C : String} {index : Nat} {y : MethodName} {bytes : ByteArray} {maxL : Nat} {ret : Option FieldType} {rm : Room} {b : Addr} {as' : List Value} {Q : Option Value → Heap → List Loc → Prop} {Qf : Outcome → State → Prop}
    (hown : s.vm.findClass own = some m.cls) (w1 : (Jvm.Cond.methodLink own index y).before a0 Z = true) (w2 : (Jvm.Cond.declares y).before a0 Z = true) (w5 : (Jvm.Cond.selects C y y).before a0 Z = true) (w6 : (Jvm.Cond.instanceMethod y).before a0 Z = true) (w4 : (Jvm.Cond.code y bytes maxL ret).before a0 Z = true) (w3 : (Jvm.Cond.initialized y.cls).before a0 Z = true)
    (hy : y.cls ≠ "java/lang/invoke/MethodHandle" ∧ y.cls ≠ "java/lang/invoke/VarHandle")
    (hM : MetFree l y (head1 [Jvm.Cond.code y bytes maxL ret] rm) (fun a U => a = (.ref b :: as').toArray ∧ Z.Warmed39 U.vm ∧ U.heap = h) (fun _ _ _ _ _ => True) (fun _ U o U' => ∃ v L, o = .returned v ∧ Q v U'.heap L ∧ FrameEnd U o U' L rm.cells rm.slots))
    (E : Exa Z h b C)
    (W : Nat) (hf : rm.frames + 1 ≤ R.frames) (hl : W + (maxL + 11) + rm.locals ≤ R.locals) (hc : cells + rm.cells ≤ R.cells) (hs : slots + rm.slots ≤ R.slots)
    {pc : Nat} {Ls : Array Slot} {stk rest : List Value} (hsize : Ls.size = c.maxLocals) (hlen : ∀ sig, parseMethodDescriptor y.desc = some sig → as'.length = sig.parameters.length) (hstack : stk = as'.reverse ++ .ref b :: rest) (hW : (rest.map fun v => v.category).sum ≤ W) (hd : decode c.code pc = .ok (.invokevirtual index, 3)) (eT : T.heap = h)
    (k : ∀ T' L v, Stand p l e R s m args below meth c T' (locs ++ L) (cells + rm.cells) (slots + rm.slots) → Q v T'.heap L → own_Out p e below Qf (T'.setTop (mkF m (pc + 3) Ls (v.toList ++ rest)))) :
    own_Out p e below Qf (T.setTop (mkF m pc Ls stk)) := by
  obtain ⟨cq, kq, qa, qb, qc⟩ := isOf hZ eT E
  obtain ⟨v, _, ⟨T', L', k', n'⟩, -, X', ⟨Lc, hQ, hl', hy', hz'⟩, st⟩ := X.virtualBack hx (y := y) (z := y) hown (mvT hZ w1) (mvT hZ w2) (notFace_of_selects (args := #[]) (mvT hZ w5)) (mvT hZ w5) (mvT hZ w6) hy (backOf (W := W) hM hZ w4 w3 hf hl) qa qc (g := mkF m pc Ls stk) rfl hsize (Steps.refl _) (argsL := as') (rest := rest) hlen hstack (by show 2 * 0 + _ ≤ _; omega) hd (fun _ _ => ⟨rfl, eT, hc, hs⟩)
  dsimp only [Pt.U, Pt.locs, Pt.cells, Pt.slots] at X' hl' hy' hz' st hQ
  subst hl' hy' hz'
  exact own_tr st (k _ _ _ X' hQ)
/-- a constructor by its own contract -/
theorem own_callI (X : Stand p l e R s m args below meth c T locs cells slots) (hx : p.tables.exec = Jvm.exec) (hZ : Z.Warmed39 s.vm) {own : String} {index : Nat} {y : MethodName} {bytes : ByteArray} {maxL : Nat} {rm : Room} {b : Addr} {as' : List Value} {Q : Option Value → Heap → List Loc → Prop} {Qf : Outcome → State → Prop} (hy1 : y.name = "<init>")
    (hown : s.vm.findClass own = some m.cls) (w1 : (Jvm.Cond.methodLink own index y).before a0 Z = true) (w6 : (Jvm.Cond.instanceMethod y).before a0 Z = true) (w4 : (Jvm.Cond.code y bytes maxL none).before a0 Z = true) (w3 : (Jvm.Cond.initialized y.cls).before a0 Z = true)
    (hy : y.cls ≠ "java/lang/invoke/MethodHandle" ∧ y.cls ≠ "java/lang/invoke/VarHandle")
    (hM : MetFree l y (head1 [Jvm.Cond.code y bytes maxL none] rm) (fun a U => a = (.ref b :: as').toArray ∧ Z.Warmed39 U.vm ∧ U.heap = h) (fun _ _ _ _ _ => True) (fun _ U o U' => ∃ v L, o = .returned v ∧ Q v U'.heap L ∧ FrameEnd U o U' L rm.cells rm.slots))
    (W : Nat) (hf : rm.frames + 1 ≤ R.frames) (hl : W + (maxL + 11) + rm.locals ≤ R.locals) (hc : cells + rm.cells ≤ R.cells) (hs : slots + rm.slots ≤ R.slots)
    {pc : Nat} {Ls : Array Slot} {stk rest : List Value} (hsize : Ls.size = c.maxLocals) (hlen : ∀ sig, parseMethodDescriptor y.desc = some sig → as'.length = sig.parameters.length) (hstack : stk = as'.reverse ++ .ref b :: rest) (hW : (rest.map fun v => v.category).sum ≤ W) (hd : decode c.code pc = .ok (.invokespecial index, 3)) (eT : T.heap = h)
    (k : ∀ T' L v, Stand p l e R s m args below meth c T' (locs ++ L) (cells + rm.cells) (slots + rm.slots) → Q v T'.heap L → own_Out p e below Qf (T'.setTop (mkF m (pc + 3) Ls (v.toList ++ rest)))) :
    own_Out p e below Qf (T.setTop (mkF m pc Ls stk)) := by
  obtain ⟨v, _, ⟨T', L', k', n'⟩, -, X', ⟨Lc, hQ, hl', hy', hz'⟩, st⟩ := X.specialBack hx (y := y) hy1 hown (mvT hZ w1) (mvT hZ w6) (mvT hZ w4) hy (backOf (W := W) hM hZ w4 w3 hf hl) (g := mkF m pc Ls stk) rfl hsize (Steps.refl _) (a := b) (argsL := as') (rest := rest) hlen hstack (by show 2 * 0 + _ ≤ _; omega) hd (fun _ _ => ⟨rfl, eT, hc, hs⟩)
  dsimp only [Pt.U, Pt.locs, Pt.cells, Pt.slots] at X' hl' hy' hz' st hQ
  subst hl' hy' hz'
  exact own_tr st (k _ _ _ X' hQ)
theorem own_fits {C : String} {v : Value} (h : v.isRef = true) : fits (.object C) v = true := by cases v <;> first | rfl | cases h
theorem own_narO {C : String} {v : Value} (h : v.isRef = true) : narrow (.object C) v = v := by cases v <;> first | rfl | cases h
theorem own_nf {y y' : MethodName} (hc : y'.cls = y.cls) (h : NotFace s y) (hi : (Jvm.Cond.instanceMethod y).before a0 s = true) : NotFace s y' := fun r0 h0 => by
  obtain ⟨mk, methM, hnamed, -⟩ := Cond.instanceMethod_spec hi
  have h1 := findClass_of_methodNamed hnamed
  have h2 := findClass_of_methodNamed h0
  rw [hc, h1] at h2
  have h3 := Option.some.inj h2
  rw [← h3]
  exact h mk hnamed
/-- a private method (invokevirtual) by its own contract -/
theorem own_callP (X : Stand p l e R s m args below meth c T locs cells slots) (hx : p.tables.exec = Jvm.exec) (hZ : Z.Warmed39 s.vm) {own C : String} {index : Nat} {y : MethodName} {bytes : ByteArray} {maxL : Nat} {ret : Option FieldType} {rm : Room} {b : Addr} {as' : List Value} {Q : Option Value → Heap → List Loc → Prop} {Qf : Outcome → State → Prop}
    (hown : s.vm.findClass own = some m.cls) (w1 : (Jvm.Cond.methodLink own index y).before a0 Z = true) (w6 : (Jvm.Cond.instanceMethod y).before a0 Z = true) (w8 : (Jvm.Cond.privateMethod y).before a0 Z = true) (w4 : (Jvm.Cond.code y bytes maxL ret).before a0 Z = true) (w3 : (Jvm.Cond.initialized y.cls).before a0 Z = true) (hnf : NotFace s y)
    (hy : y.cls ≠ "java/lang/invoke/MethodHandle" ∧ y.cls ≠ "java/lang/invoke/VarHandle")
    (hM : MetFree l y (head1 [Jvm.Cond.code y bytes maxL ret] rm) (fun a U => a = (.ref b :: as').toArray ∧ Z.Warmed39 U.vm ∧ U.heap = h) (fun _ _ _ _ _ => True) (fun _ U o U' => ∃ v L, o = .returned v ∧ Q v U'.heap L ∧ FrameEnd U o U' L rm.cells rm.slots))
    (E : Exa Z h b C)
    (W : Nat) (hf : rm.frames + 1 ≤ R.frames) (hl : W + (maxL + 11) + rm.locals ≤ R.locals) (hc : cells + rm.cells ≤ R.cells) (hs : slots + rm.slots ≤ R.slots)
    {pc : Nat} {Ls : Array Slot} {stk rest : List Value} (hsize : Ls.size = c.maxLocals) (hlen : ∀ sig, parseMethodDescriptor y.desc = some sig → as'.length = sig.parameters.length) (hstack : stk = as'.reverse ++ .ref b :: rest) (hW : (rest.map fun v => v.category).sum ≤ W) (hd : decode c.code pc = .ok (.invokevirtual index, 3)) (eT : T.heap = h)
    (k : ∀ T' L v, Stand p l e R s m args below meth c T' (locs ++ L) (cells + rm.cells) (slots + rm.slots) → Q v T'.heap L → own_Out p e below Qf (T'.setTop (mkF m (pc + 3) Ls (v.toList ++ rest)))) :
    own_Out p e below Qf (T.setTop (mkF m pc Ls stk)) := by
  obtain ⟨mk, methM, hnamed, hmethM, hstM, habM⟩ := Cond.instanceMethod_spec (mvT (args := args) hZ w6)
  obtain ⟨methM', cM, hmethM', -, -, -, -, -, -, hsigM⟩ := Cond.code_spec hnamed (mvT (args := args) hZ w4)
  cases hmethM.symm.trans hmethM'
  obtain ⟨kP, hkP, hkPi⟩ := hnf mk hnamed
  obtain ⟨cell, hcell, hobj⟩ := E.cell
  have hselP : selectMethod e.platform s.vm cell.cls mk = .method mk := selectMethod_private hmethM (Cond.privateMethod_at (mvP hZ w8 (args := #[])) mk methM hnamed hmethM)
  obtain ⟨vm₁, X₁, hstep₁⟩ := X.invokevirtual hx hown (mvT hZ w1) hnamed hmethM hstM hkP hkPi hy (a := b) (cell := cell) (by rw [eT]; exact hcell) hobj hselP hmethM habM hkP hkPi (g := mkF m pc Ls stk) rfl (argsL := as') (rest := rest) (hlen _ hsigM) hstack hd
  obtain ⟨v, ⟨T', L', k', n'⟩, X', ⟨Lc, hQ, hl', hy', hz'⟩, st⟩ := backOf (W := W) hM hZ w4 w3 hf hl m meth c ⟨T.setVm vm₁, locs, cells, slots⟩ { mkF m pc Ls stk with stack := rest } (.invokevirtual index) mk (.ref b :: as').toArray X₁ rfl hsize hd (by show 2 * 0 + (rest.map fun v => v.category).sum ≤ W; omega) (X₁.named hnamed) ⟨rfl, eT, hc, hs⟩
  dsimp only [Pt.U, Pt.locs, Pt.cells, Pt.slots] at X' hl' hy' hz' st hQ
  subst hl' hy' hz'
  exact own_st (fun target q => hstep₁ _ fun acts => by rw [doInvoke_state]; exact st.trans q) (k _ _ _ X' hQ)
end Own
end Jvm.RoadKit
namespace Jvm.Pilot.@@N@@
open Jvm Jvm.ClassFile Sem Op Lib Jvm.Free Jvm.Stand Jvm.LawKit Jvm.RoadKit Bundle Jvm.Pilot.@@N@@.Jvm.D
theorem own_w {Z : State} {a0 : Array Value} (hw : ∀ d ∈ tables_1, d.before a0 Z = true) {d : Jvm.Cond} (k : Nat) (h : tables_1[k]? = some d) : d.before a0 Z = true := hw _ (List.mem_of_getElem? h)
def own_isD (q : Int32) : Int32 := (if q < (128 : Int32) then (if q = (34 : Int32) then (0 : Int32) else (if q = (10 : Int32) then (0 : Int32) else (if q = (13 : Int32) then (0 : Int32) else (1 : Int32)))) else (0 : Int32))
theorem pn_own_rm1 : plainName "com/example/finegrain/finegrain/formats/CsvReader" = true := by first | (simp [plainName, overriddenIn]; done) | decide +kernel
theorem down_rm1_0 : decode prog_48_method_2_code 0 = .ok (.iload_n 0, 1) := by decide +kernel
theorem down_rm1_1 : decode prog_48_method_2_code 1 = .ok (.sipush 128, 3) := by decide +kernel
theorem down_rm1_4 : decode prog_48_method_2_code 4 = .ok (.if_icmp .ge 25, 3) := by decide +kernel
theorem down_rm1_7 : decode prog_48_method_2_code 7 = .ok (.iload_n 0, 1) := by decide +kernel
theorem down_rm1_8 : decode prog_48_method_2_code 8 = .ok (.bipush 34, 2) := by decide +kernel
theorem down_rm1_10 : decode prog_48_method_2_code 10 = .ok (.if_icmp .eq 19, 3) := by decide +kernel
theorem down_rm1_13 : decode prog_48_method_2_code 13 = .ok (.iload_n 0, 1) := by decide +kernel
theorem down_rm1_14 : decode prog_48_method_2_code 14 = .ok (.bipush 10, 2) := by decide +kernel
theorem down_rm1_16 : decode prog_48_method_2_code 16 = .ok (.if_icmp .eq 13, 3) := by decide +kernel
theorem down_rm1_19 : decode prog_48_method_2_code 19 = .ok (.iload_n 0, 1) := by decide +kernel
theorem down_rm1_20 : decode prog_48_method_2_code 20 = .ok (.bipush 13, 2) := by decide +kernel
theorem down_rm1_22 : decode prog_48_method_2_code 22 = .ok (.if_icmp .eq 7, 3) := by decide +kernel
theorem down_rm1_25 : decode prog_48_method_2_code 25 = .ok (.iconst 1, 1) := by decide +kernel
theorem down_rm1_26 : decode prog_48_method_2_code 26 = .ok (.goto 4, 3) := by decide +kernel
theorem down_rm1_29 : decode prog_48_method_2_code 29 = .ok (.iconst 0, 1) := by decide +kernel
theorem down_rm1_30 : decode prog_48_method_2_code 30 = .ok (.ireturn, 1) := by decide +kernel
def Q_own_rm1 (Z : State) (q : Int32)  (h0 : Heap) (n0 : Nat) (v : Option Value) (h : Heap) (L : List Loc) : Prop := v = some (.int (own_isD q)) ∧ L = [] ∧ h = h0
set_option maxRecDepth 65536 in
set_option maxHeartbeats 40000000 in
theorem own_rm1 (l : Launch) (Z : State) (a0 : Array Value) (hw : ∀ d ∈ tables_1, d.before a0 Z = true) (ws : List Jvm.Cond) (q : Int32)  (h0 : Heap) (n0 : Nat)  :
    MetFree l (⟨"com/example/finegrain/finegrain/formats/CsvReader", "isDelimiter", "(C)Z"⟩ : MethodName) (head1 (Jvm.Cond.code (⟨"com/example/finegrain/finegrain/formats/CsvReader", "isDelimiter", "(C)Z"⟩ : MethodName) prog_48_method_2_code 1 (some (.boolean)) :: ws) ({ frames := 0, cells := 0, slots := 0, locals := 0 } : Room)) (fun aa U => aa = #[(.int q)] ∧ Z.Warmed39 U.vm ∧ U.heap = h0) (fun _ _ _ _ _ => True) (fun _ U o U' => ∃ v L, o = .returned v ∧ Q_own_rm1 Z q h0 n0 v U'.heap L ∧ FrameEnd U o U' L ({ frames := 0, cells := 0, slots := 0, locals := 0 } : Room).cells ({ frames := 0, cells := 0, slots := 0, locals := 0 } : Room).slots) := by
  refine own_body (x := (⟨"com/example/finegrain/finegrain/formats/CsvReader", "isDelimiter", "(C)Z"⟩ : MethodName)) (maxL := 1) (as' := #[(.int q)]) (Q := Q_own_rm1 Z q h0 n0) pn_own_rm1 #[.val (.int q)] (fun m => by first | rfl | (simp [entryFrame, mkF, argsToLocals, Value.category]; done)) ?_
  intro p e s m below meth c T0 X0 hx hby hml hret hlk hown hnm hZ e0
  replace hml : c.maxLocals = 1 := hml
  replace hown : s.vm.findClass "com/example/finegrain/finegrain/formats/CsvReader" = some m.cls := hown
  have N0 := Fr.nil n0
  refine own_st (G := T0.setTop (mkF m 1 #[.val (.int q)] [(.int q)])) (fun _ kk => XS.iloadN X0.here hx rfl (hb hby down_rm1_0) rfl kk) ?_
  refine own_st (G := T0.setTop (mkF m 4 #[.val (.int q)] [(.int (128 : Int32)), (.int q)])) (fun _ kk => XT.sipushV X0.here hx rfl (128 : Int32) (hb hby down_rm1_1) (by decide) kk) ?_
  by_cases hc1 : q < (128 : Int32)
  · skip
    refine own_st (G := T0.setTop (mkF m 7 #[.val (.int q)] [])) (fun _ kk => XS.icmpNo X0.here hx rfl (hb hby down_rm1_4) rfl (XT.ii_ge_f hc1) kk) ?_
    refine own_st (G := T0.setTop (mkF m 8 #[.val (.int q)] [(.int q)])) (fun _ kk => XS.iloadN X0.here hx rfl (hb hby down_rm1_7) rfl kk) ?_
    refine own_st (G := T0.setTop (mkF m 10 #[.val (.int q)] [(.int (34 : Int32)), (.int q)])) (fun _ kk => XT.bipushV X0.here hx rfl (34 : Int32) (hb hby down_rm1_8) (by decide) kk) ?_
    by_cases hc2 : q = (34 : Int32)
    · skip
      refine own_st (G := T0.setTop (mkF m 29 #[.val (.int q)] [])) (fun _ kk => XS.icmpYes X0.here hx rfl (pc0 := 10) (pc' := 29) rfl (hb hby down_rm1_10) rfl (XT.ii_eq_t hc2) (by decide) (by decide) kk) ?_
      refine own_st (G := T0.setTop (mkF m 30 #[.val (.int q)] [(.int (0 : Int32))])) (fun _ kk => XT.iconstV X0.here hx rfl (0 : Int32) (hb hby down_rm1_29) (by decide) kk) ?_
      refine own_retB X0 hx hret (by simp) hlk (hb hby down_rm1_30) (by decide) (by decide) ?_
      exact ⟨by rw [show (own_isD q) = (0 : Int32) from by unfold own_isD; rw [if_pos hc1, if_pos hc2]]; rfl, rfl, e0⟩
    · skip
      refine own_st (G := T0.setTop (mkF m 13 #[.val (.int q)] [])) (fun _ kk => XS.icmpNo X0.here hx rfl (hb hby down_rm1_10) rfl (XT.ii_eq_f hc2) kk) ?_
      refine own_st (G := T0.setTop (mkF m 14 #[.val (.int q)] [(.int q)])) (fun _ kk => XS.iloadN X0.here hx rfl (hb hby down_rm1_13) rfl kk) ?_
      refine own_st (G := T0.setTop (mkF m 16 #[.val (.int q)] [(.int (10 : Int32)), (.int q)])) (fun _ kk => XT.bipushV X0.here hx rfl (10 : Int32) (hb hby down_rm1_14) (by decide) kk) ?_
      by_cases hc3 : q = (10 : Int32)
      · skip
        refine own_st (G := T0.setTop (mkF m 29 #[.val (.int q)] [])) (fun _ kk => XS.icmpYes X0.here hx rfl (pc0 := 16) (pc' := 29) rfl (hb hby down_rm1_16) rfl (XT.ii_eq_t hc3) (by decide) (by decide) kk) ?_
        refine own_st (G := T0.setTop (mkF m 30 #[.val (.int q)] [(.int (0 : Int32))])) (fun _ kk => XT.iconstV X0.here hx rfl (0 : Int32) (hb hby down_rm1_29) (by decide) kk) ?_
        refine own_retB X0 hx hret (by simp) hlk (hb hby down_rm1_30) (by decide) (by decide) ?_
        exact ⟨by rw [show (own_isD q) = (0 : Int32) from by unfold own_isD; rw [if_pos hc1, if_neg hc2, if_pos hc3]]; rfl, rfl, e0⟩
      · skip
        refine own_st (G := T0.setTop (mkF m 19 #[.val (.int q)] [])) (fun _ kk => XS.icmpNo X0.here hx rfl (hb hby down_rm1_16) rfl (XT.ii_eq_f hc3) kk) ?_
        refine own_st (G := T0.setTop (mkF m 20 #[.val (.int q)] [(.int q)])) (fun _ kk => XS.iloadN X0.here hx rfl (hb hby down_rm1_19) rfl kk) ?_
        refine own_st (G := T0.setTop (mkF m 22 #[.val (.int q)] [(.int (13 : Int32)), (.int q)])) (fun _ kk => XT.bipushV X0.here hx rfl (13 : Int32) (hb hby down_rm1_20) (by decide) kk) ?_
        by_cases hc4 : q = (13 : Int32)
        · skip
          refine own_st (G := T0.setTop (mkF m 29 #[.val (.int q)] [])) (fun _ kk => XS.icmpYes X0.here hx rfl (pc0 := 22) (pc' := 29) rfl (hb hby down_rm1_22) rfl (XT.ii_eq_t hc4) (by decide) (by decide) kk) ?_
          refine own_st (G := T0.setTop (mkF m 30 #[.val (.int q)] [(.int (0 : Int32))])) (fun _ kk => XT.iconstV X0.here hx rfl (0 : Int32) (hb hby down_rm1_29) (by decide) kk) ?_
          refine own_retB X0 hx hret (by simp) hlk (hb hby down_rm1_30) (by decide) (by decide) ?_
          exact ⟨by rw [show (own_isD q) = (0 : Int32) from by unfold own_isD; rw [if_pos hc1, if_neg hc2, if_neg hc3, if_pos hc4]]; rfl, rfl, e0⟩
        · skip
          refine own_st (G := T0.setTop (mkF m 25 #[.val (.int q)] [])) (fun _ kk => XS.icmpNo X0.here hx rfl (hb hby down_rm1_22) rfl (XT.ii_eq_f hc4) kk) ?_
          refine own_st (G := T0.setTop (mkF m 26 #[.val (.int q)] [(.int (1 : Int32))])) (fun _ kk => XT.iconstV X0.here hx rfl (1 : Int32) (hb hby down_rm1_25) (by decide) kk) ?_
          refine own_st (G := T0.setTop (mkF m 30 #[.val (.int q)] [(.int (1 : Int32))])) (fun _ kk => XS.goto X0.here hx rfl (pc0 := 26) (pc' := 30) rfl (hb hby down_rm1_26) (by decide) (by decide) kk) ?_
          refine own_retB X0 hx hret (by simp) hlk (hb hby down_rm1_30) (by decide) (by decide) ?_
          exact ⟨by rw [show (own_isD q) = (1 : Int32) from by unfold own_isD; rw [if_pos hc1, if_neg hc2, if_neg hc3, if_neg hc4]]; rfl, rfl, e0⟩
  · skip
    refine own_st (G := T0.setTop (mkF m 29 #[.val (.int q)] [])) (fun _ kk => XS.icmpYes X0.here hx rfl (pc0 := 4) (pc' := 29) rfl (hb hby down_rm1_4) rfl (XT.ii_ge_t hc1) (by decide) (by decide) kk) ?_
    refine own_st (G := T0.setTop (mkF m 30 #[.val (.int q)] [(.int (0 : Int32))])) (fun _ kk => XT.iconstV X0.here hx rfl (0 : Int32) (hb hby down_rm1_29) (by decide) kk) ?_
    refine own_retB X0 hx hret (by simp) hlk (hb hby down_rm1_30) (by decide) (by decide) ?_
    exact ⟨by rw [show (own_isD q) = (0 : Int32) from by unfold own_isD; rw [if_neg hc1]]; rfl, rfl, e0⟩
theorem own_chr (x : Int32) : ¬ (x.toUInt32.toUInt16.toUInt32.toInt32 < 0) := by
  rw [Int32.lt_iff_toInt_lt]
  have := (c_i2c x).2.1
  simp only [Int32.reduceToInt]
  omega
set_option maxHeartbeats 4000000 in
theorem own_plain (v : Int32) (h : ¬ v < 0) : own_isD v = (if v < (0 : Int32) then (if v < (11 : Int32) then (if v < (14 : Int32) then (if v < (35 : Int32) then (0 : Int32) else (if (127 : Int32) < v then (0 : Int32) else (1 : Int32))) else (if (33 : Int32) < v then (if v < (35 : Int32) then (0 : Int32) else (if (127 : Int32) < v then (0 : Int32) else (1 : Int32))) else (1 : Int32))) else (if (12 : Int32) < v then (if v < (14 : Int32) then (if v < (35 : Int32) then (0 : Int32) else (if (127 : Int32) < v then (0 : Int32) else (1 : Int32))) else (if (33 : Int32) < v then (if v < (35 : Int32) then (0 : Int32) else (if (127 : Int32) < v then (0 : Int32) else (1 : Int32))) else (1 : Int32))) else (1 : Int32))) else (if (9 : Int32) < v then (if v < (11 : Int32) then (if v < (14 : Int32) then (if v < (35 : Int32) then (0 : Int32) else (if (127 : Int32) < v then (0 : Int32) else (1 : Int32))) else (if (33 : Int32) < v then (if v < (35 : Int32) then (0 : Int32) else (if (127 : Int32) < v then (0 : Int32) else (1 : Int32))) else (1 : Int32))) else (if (12 : Int32) < v then (if v < (14 : Int32) then (if v < (35 : Int32) then (0 : Int32) else (if (127 : Int32) < v then (0 : Int32) else (1 : Int32))) else (if (33 : Int32) < v then (if v < (35 : Int32) then (0 : Int32) else (if (127 : Int32) < v then (0 : Int32) else (1 : Int32))) else (1 : Int32))) else (1 : Int32))) else (1 : Int32))) := by
  unfold own_isD
  simp only [Int32.lt_iff_toInt_lt, ← Int32.toInt_inj, Int32.reduceToInt] at h ⊢
  repeat' split
  all_goals first | rfl | (exfalso; omega)
theorem pn_own_law : plainName "com/example/finegrain/finegrain/formats/CsvReaderIsDelimiterPinLaw" = true := by first | (simp [plainName, overriddenIn]; done) | decide +kernel
def Q_own_law (Z : State) (p0 : Int32)  (h0 : Heap) (n0 : Nat) (v : Option Value) (h : Heap) (L : List Loc) : Prop := v = some (.int 1) ∧ Fr n0 L
set_option maxRecDepth 65536 in
set_option maxHeartbeats 40000000 in
theorem own_law (l : Launch) (Z : State) (a0 : Array Value) (hw : ∀ d ∈ tables_1, d.before a0 Z = true) (ws : List Jvm.Cond) (p0 : Int32)  (h0 : Heap) (n0 : Nat)  :
    MetFree l x (head1 (Jvm.Cond.code x code maxLocals ret :: ws) room_1) (fun aa U => aa = #[(.int p0)] ∧ Z.Warmed39 U.vm ∧ U.heap = h0) (fun _ _ _ _ _ => True) (fun _ U o U' => ∃ v L, o = .returned v ∧ Q_own_law Z p0 h0 n0 v U'.heap L ∧ FrameEnd U o U' L room_1.cells room_1.slots) := by
  refine own_body (x := x) (maxL := maxLocals) (as' := #[(.int p0)]) (Q := Q_own_law Z p0 h0 n0) pn_own_law #[.val (.int p0), .unset, .unset, .unset] (fun m => by first | rfl | (simp [entryFrame, mkF, argsToLocals, Value.category, maxLocals]; done)) ?_
  intro p e s m below meth c T0 X0 hx hby hml hret hlk hown hnm hZ e0
  replace hml : c.maxLocals = 4 := hml
  replace hown : s.vm.findClass "com/example/finegrain/finegrain/formats/CsvReaderIsDelimiterPinLaw" = some m.cls := hown
  have N0 := Fr.nil n0
  refine own_st (G := T0.setTop (mkF m 1 #[.val (.int p0), .unset, .unset, .unset] [(.int p0)])) (fun _ kk => XS.iloadN X0.here hx rfl (hb hby at_0) rfl kk) ?_
  refine own_st (G := T0.setTop (mkF m 3 #[.val (.int p0), .unset, .unset, .unset] [(.int (65535 : Int32)), (.int p0)])) (fun _ kk => X0.ldcInt hx hown (mvT hZ (own_w hw 0 rfl)) (g := (mkF m 1 #[.val (.int p0), .unset, .unset, .unset] [(.int p0)])) rfl (hb hby at_1) _ kk) ?_
  refine own_st (G := T0.setTop (mkF m 4 #[.val (.int p0), .unset, .unset, .unset] [(.int (p0 &&& (65535 : Int32)))])) (fun _ kk => XS.iand X0.here hx rfl (hb hby at_3) rfl kk) ?_
  refine own_st (G := T0.setTop (mkF m 5 #[.val (.int p0), .unset, .unset, .unset] [(.int (p0 &&& (65535 : Int32)).toUInt32.toUInt16.toUInt32.toInt32)])) (fun _ kk => XS.i2c X0.here hx rfl (hb hby at_4) rfl kk) ?_
  generalize hv5 : (p0 &&& (65535 : Int32)).toUInt32.toUInt16.toUInt32.toInt32 = v5
  refine own_st (G := T0.setTop (mkF m 6 #[.val (.int p0), .val (.int v5), .unset, .unset] [])) (fun _ kk => XS.istoreN X0.here hx rfl (hb hby at_5) rfl (l' := #[.val (.int p0), .val (.int v5), .unset, .unset]) rfl kk) ?_
  refine own_st (G := T0.setTop (mkF m 7 #[.val (.int p0), .val (.int v5), .unset, .unset] [(.int v5)])) (fun _ kk => XS.iloadN X0.here hx rfl (hb hby at_6) rfl kk) ?_
  refine own_st (G := T0.setTop (mkF m 8 #[.val (.int p0), .val (.int v5), .val (.int v5), .unset] [])) (fun _ kk => XS.istoreN X0.here hx rfl (hb hby at_7) rfl (l' := #[.val (.int p0), .val (.int v5), .val (.int v5), .unset]) rfl kk) ?_
  refine own_st (G := T0.setTop (mkF m 9 #[.val (.int p0), .val (.int v5), .val (.int v5), .unset] [(.int v5)])) (fun _ kk => XS.iloadN X0.here hx rfl (hb hby at_8) rfl kk) ?_
  have j59 : ∀ (z59 : Int32), z59 = (if v5 < (0 : Int32) then (if v5 < (11 : Int32) then (if v5 < (14 : Int32) then (if v5 < (35 : Int32) then (0 : Int32) else (if (127 : Int32) < v5 then (0 : Int32) else (1 : Int32))) else (if (33 : Int32) < v5 then (if v5 < (35 : Int32) then (0 : Int32) else (if (127 : Int32) < v5 then (0 : Int32) else (1 : Int32))) else (1 : Int32))) else (if (12 : Int32) < v5 then (if v5 < (14 : Int32) then (if v5 < (35 : Int32) then (0 : Int32) else (if (127 : Int32) < v5 then (0 : Int32) else (1 : Int32))) else (if (33 : Int32) < v5 then (if v5 < (35 : Int32) then (0 : Int32) else (if (127 : Int32) < v5 then (0 : Int32) else (1 : Int32))) else (1 : Int32))) else (1 : Int32))) else (if (9 : Int32) < v5 then (if v5 < (11 : Int32) then (if v5 < (14 : Int32) then (if v5 < (35 : Int32) then (0 : Int32) else (if (127 : Int32) < v5 then (0 : Int32) else (1 : Int32))) else (if (33 : Int32) < v5 then (if v5 < (35 : Int32) then (0 : Int32) else (if (127 : Int32) < v5 then (0 : Int32) else (1 : Int32))) else (1 : Int32))) else (if (12 : Int32) < v5 then (if v5 < (14 : Int32) then (if v5 < (35 : Int32) then (0 : Int32) else (if (127 : Int32) < v5 then (0 : Int32) else (1 : Int32))) else (if (33 : Int32) < v5 then (if v5 < (35 : Int32) then (0 : Int32) else (if (127 : Int32) < v5 then (0 : Int32) else (1 : Int32))) else (1 : Int32))) else (1 : Int32))) else (1 : Int32))) → own_Out p e below (own_Q (Q_own_law Z p0 h0 n0) s room_1.cells room_1.slots) (T0.setTop (mkF m 59 #[.val (.int p0), .val (.int v5), .val (.int v5), .unset] [(.int z59)])) := by
    intro z59 hz59
    refine own_st (G := T0.setTop (mkF m 60 #[.val (.int p0), .val (.int v5), .val (.int v5), .val (.int z59)] [])) (fun _ kk => XS.istoreN X0.here hx rfl (hb hby at_59) rfl (l' := #[.val (.int p0), .val (.int v5), .val (.int v5), .val (.int z59)]) rfl kk) ?_
    refine own_st (G := T0.setTop (mkF m 61 #[.val (.int p0), .val (.int v5), .val (.int v5), .val (.int z59)] [(.int v5)])) (fun _ kk => XS.iloadN X0.here hx rfl (hb hby at_60) rfl kk) ?_
    refine own_callS X0 hx hZ (y := (⟨"com/example/finegrain/finegrain/formats/CsvReader", "isDelimiter", "(C)Z"⟩ : MethodName)) (as' := [(.int v5)]) hown (own_w hw 1 rfl) (own_w hw 2 rfl) (own_w hw 3 rfl) (own_w hw 4 rfl) (by decide) (own_rm1 l Z a0 hw [] v5 h0 n0) 0 (by decide) (by decide) (by decide) (by decide) (rest := []) (by rw [hml]; rfl) (lenOf (by decide : parseMethodDescriptor "(C)Z" = some ⟨[.char], some (.boolean)⟩) rfl) rfl (Nat.le_of_eq rfl) (hb hby at_61) e0 ?_
    intro T3 L4 v6 X5 hQ
    obtain ⟨rfl, rfl, eq1⟩ := hQ
    show own_Out _ _ _ _ (T3.setTop (mkF m 64 #[.val (.int p0), .val (.int v5), .val (.int v5), .val (.int z59)] [(.int (own_isD v5))]))
    have N2 := Fr.app N0 (Fr.nil n0)
    refine own_st (G := T3.setTop (mkF m 65 #[.val (.int p0), .val (.int v5), .val (.int v5), .val (.int z59)] [(.int z59), (.int (own_isD v5))])) (fun _ kk => XS.iloadN X5.here hx rfl (hb hby at_64) rfl kk) ?_
    have hk7 : ((own_isD v5) = z59) := by rw [hz59]; exact own_plain _ (by rw [← hv5]; exact own_chr _)
    refine own_st (G := T3.setTop (mkF m 68 #[.val (.int p0), .val (.int v5), .val (.int v5), .val (.int z59)] [])) (fun _ kk => XS.icmpNo X5.here hx rfl (hb hby at_65) rfl (XT.ii_ne_f hk7) kk) ?_
    refine own_st (G := T3.setTop (mkF m 69 #[.val (.int p0), .val (.int v5), .val (.int v5), .val (.int z59)] [(.int (1 : Int32))])) (fun _ kk => XT.iconstV X5.here hx rfl (1 : Int32) (hb hby at_68) (by decide) kk) ?_
    refine own_st (G := T3.setTop (mkF m 73 #[.val (.int p0), .val (.int v5), .val (.int v5), .val (.int z59)] [(.int (1 : Int32))])) (fun _ kk => XS.goto X5.here hx rfl (pc0 := 69) (pc' := 73) rfl (hb hby at_69) (by decide) (by decide) kk) ?_
    refine own_retB X5 hx hret (by simp) hlk (hb hby at_73) (by decide) (by decide) ?_
    exact ⟨rfl, N2⟩
  by_cases hc8 : v5 < (0 : Int32)
  · skip
    refine own_st (G := T0.setTop (mkF m 18 #[.val (.int p0), .val (.int v5), .val (.int v5), .unset] [])) (fun _ kk => XS.ifYes X0.here hx rfl (pc0 := 9) (pc' := 18) rfl (hb hby at_9) rfl (XT.i0_lt_t hc8) (by decide) (by decide) kk) ?_
    refine own_st (G := T0.setTop (mkF m 19 #[.val (.int p0), .val (.int v5), .val (.int v5), .unset] [(.int v5)])) (fun _ kk => XS.iloadN X0.here hx rfl (hb hby at_18) rfl kk) ?_
    refine own_st (G := T0.setTop (mkF m 21 #[.val (.int p0), .val (.int v5), .val (.int v5), .unset] [(.int (11 : Int32)), (.int v5)])) (fun _ kk => XT.bipushV X0.here hx rfl (11 : Int32) (hb hby at_19) (by decide) kk) ?_
    by_cases hc9 : v5 < (11 : Int32)
    · skip
      refine own_st (G := T0.setTop (mkF m 30 #[.val (.int p0), .val (.int v5), .val (.int v5), .unset] [])) (fun _ kk => XS.icmpYes X0.here hx rfl (pc0 := 21) (pc' := 30) rfl (hb hby at_21) rfl (XT.ii_lt_t hc9) (by decide) (by decide) kk) ?_
      refine own_st (G := T0.setTop (mkF m 31 #[.val (.int p0), .val (.int v5), .val (.int v5), .unset] [(.int v5)])) (fun _ kk => XS.iloadN X0.here hx rfl (hb hby at_30) rfl kk) ?_
      refine own_st (G := T0.setTop (mkF m 33 #[.val (.int p0), .val (.int v5), .val (.int v5), .unset] [(.int (14 : Int32)), (.int v5)])) (fun _ kk => XT.bipushV X0.here hx rfl (14 : Int32) (hb hby at_31) (by decide) kk) ?_
      by_cases hc10 : v5 < (14 : Int32)
      · skip
        refine own_st (G := T0.setTop (mkF m 42 #[.val (.int p0), .val (.int v5), .val (.int v5), .unset] [])) (fun _ kk => XS.icmpYes X0.here hx rfl (pc0 := 33) (pc' := 42) rfl (hb hby at_33) rfl (XT.ii_lt_t hc10) (by decide) (by decide) kk) ?_
        refine own_st (G := T0.setTop (mkF m 43 #[.val (.int p0), .val (.int v5), .val (.int v5), .unset] [(.int v5)])) (fun _ kk => XS.iloadN X0.here hx rfl (hb hby at_42) rfl kk) ?_
        refine own_st (G := T0.setTop (mkF m 45 #[.val (.int p0), .val (.int v5), .val (.int v5), .unset] [(.int (35 : Int32)), (.int v5)])) (fun _ kk => XT.bipushV X0.here hx rfl (35 : Int32) (hb hby at_43) (by decide) kk) ?_
        by_cases hc11 : v5 < (35 : Int32)
        · skip
          refine own_st (G := T0.setTop (mkF m 58 #[.val (.int p0), .val (.int v5), .val (.int v5), .unset] [])) (fun _ kk => XS.icmpYes X0.here hx rfl (pc0 := 45) (pc' := 58) rfl (hb hby at_45) rfl (XT.ii_lt_t hc11) (by decide) (by decide) kk) ?_
          refine own_st (G := T0.setTop (mkF m 59 #[.val (.int p0), .val (.int v5), .val (.int v5), .unset] [(.int (0 : Int32))])) (fun _ kk => XT.iconstV X0.here hx rfl (0 : Int32) (hb hby at_58) (by decide) kk) ?_
          exact j59 _ (by rw [if_pos hc8, if_pos hc9, if_pos hc10, if_pos hc11])
        · skip
          refine own_st (G := T0.setTop (mkF m 48 #[.val (.int p0), .val (.int v5), .val (.int v5), .unset] [])) (fun _ kk => XS.icmpNo X0.here hx rfl (hb hby at_45) rfl (XT.ii_lt_f hc11) kk) ?_
          refine own_st (G := T0.setTop (mkF m 49 #[.val (.int p0), .val (.int v5), .val (.int v5), .unset] [(.int v5)])) (fun _ kk => XS.iloadN X0.here hx rfl (hb hby at_48) rfl kk) ?_
          refine own_st (G := T0.setTop (mkF m 51 #[.val (.int p0), .val (.int v5), .val (.int v5), .unset] [(.int (127 : Int32)), (.int v5)])) (fun _ kk => XT.bipushV X0.here hx rfl (127 : Int32) (hb hby at_49) (by decide) kk) ?_
          by_cases hc12 : (127 : Int32) < v5
          · skip
            refine own_st (G := T0.setTop (mkF m 58 #[.val (.int p0), .val (.int v5), .val (.int v5), .unset] [])) (fun _ kk => XS.icmpYes X0.here hx rfl (pc0 := 51) (pc' := 58) rfl (hb hby at_51) rfl (XT.ii_gt_t hc12) (by decide) (by decide) kk) ?_
            refine own_st (G := T0.setTop (mkF m 59 #[.val (.int p0), .val (.int v5), .val (.int v5), .unset] [(.int (0 : Int32))])) (fun _ kk => XT.iconstV X0.here hx rfl (0 : Int32) (hb hby at_58) (by decide) kk) ?_
            exact j59 _ (by rw [if_pos hc8, if_pos hc9, if_pos hc10, if_neg hc11, if_pos hc12])
          · skip
            refine own_st (G := T0.setTop (mkF m 54 #[.val (.int p0), .val (.int v5), .val (.int v5), .unset] [])) (fun _ kk => XS.icmpNo X0.here hx rfl (hb hby at_51) rfl (XT.ii_gt_f hc12) kk) ?_
            refine own_st (G := T0.setTop (mkF m 55 #[.val (.int p0), .val (.int v5), .val (.int v5), .unset] [(.int (1 : Int32))])) (fun _ kk => XT.iconstV X0.here hx rfl (1 : Int32) (hb hby at_54) (by decide) kk) ?_
            refine own_st (G := T0.setTop (mkF m 59 #[.val (.int p0), .val (.int v5), .val (.int v5), .unset] [(.int (1 : Int32))])) (fun _ kk => XS.goto X0.here hx rfl (pc0 := 55) (pc' := 59) rfl (hb hby at_55) (by decide) (by decide) kk) ?_
            exact j59 _ (by rw [if_pos hc8, if_pos hc9, if_pos hc10, if_neg hc11, if_neg hc12])
      · skip
        refine own_st (G := T0.setTop (mkF m 36 #[.val (.int p0), .val (.int v5), .val (.int v5), .unset] [])) (fun _ kk => XS.icmpNo X0.here hx rfl (hb hby at_33) rfl (XT.ii_lt_f hc10) kk) ?_
        refine own_st (G := T0.setTop (mkF m 37 #[.val (.int p0), .val (.int v5), .val (.int v5), .unset] [(.int v5)])) (fun _ kk => XS.iloadN X0.here hx rfl (hb hby at_36) rfl kk) ?_
        refine own_st (G := T0.setTop (mkF m 39 #[.val (.int p0), .val (.int v5), .val (.int v5), .unset] [(.int (33 : Int32)), (.int v5)])) (fun _ kk => XT.bipushV X0.here hx rfl (33 : Int32) (hb hby at_37) (by decide) kk) ?_
        by_cases hc13 : (33 : Int32) < v5
        · skip
          refine own_st (G := T0.setTop (mkF m 42 #[.val (.int p0), .val (.int v5), .val (.int v5), .unset] [])) (fun _ kk => XS.icmpNo X0.here hx rfl (hb hby at_39) rfl (XT.ii_le_f hc13) kk) ?_
          refine own_st (G := T0.setTop (mkF m 43 #[.val (.int p0), .val (.int v5), .val (.int v5), .unset] [(.int v5)])) (fun _ kk => XS.iloadN X0.here hx rfl (hb hby at_42) rfl kk) ?_
          refine own_st (G := T0.setTop (mkF m 45 #[.val (.int p0), .val (.int v5), .val (.int v5), .unset] [(.int (35 : Int32)), (.int v5)])) (fun _ kk => XT.bipushV X0.here hx rfl (35 : Int32) (hb hby at_43) (by decide) kk) ?_
          by_cases hc14 : v5 < (35 : Int32)
          · skip
            refine own_st (G := T0.setTop (mkF m 58 #[.val (.int p0), .val (.int v5), .val (.int v5), .unset] [])) (fun _ kk => XS.icmpYes X0.here hx rfl (pc0 := 45) (pc' := 58) rfl (hb hby at_45) rfl (XT.ii_lt_t hc14) (by decide) (by decide) kk) ?_
            refine own_st (G := T0.setTop (mkF m 59 #[.val (.int p0), .val (.int v5), .val (.int v5), .unset] [(.int (0 : Int32))])) (fun _ kk => XT.iconstV X0.here hx rfl (0 : Int32) (hb hby at_58) (by decide) kk) ?_
            exact j59 _ (by rw [if_pos hc8, if_pos hc9, if_neg hc10, if_pos hc13, if_pos hc14])
          · skip
            refine own_st (G := T0.setTop (mkF m 48 #[.val (.int p0), .val (.int v5), .val (.int v5), .unset] [])) (fun _ kk => XS.icmpNo X0.here hx rfl (hb hby at_45) rfl (XT.ii_lt_f hc14) kk) ?_
            refine own_st (G := T0.setTop (mkF m 49 #[.val (.int p0), .val (.int v5), .val (.int v5), .unset] [(.int v5)])) (fun _ kk => XS.iloadN X0.here hx rfl (hb hby at_48) rfl kk) ?_
            refine own_st (G := T0.setTop (mkF m 51 #[.val (.int p0), .val (.int v5), .val (.int v5), .unset] [(.int (127 : Int32)), (.int v5)])) (fun _ kk => XT.bipushV X0.here hx rfl (127 : Int32) (hb hby at_49) (by decide) kk) ?_
            by_cases hc15 : (127 : Int32) < v5
            · skip
              refine own_st (G := T0.setTop (mkF m 58 #[.val (.int p0), .val (.int v5), .val (.int v5), .unset] [])) (fun _ kk => XS.icmpYes X0.here hx rfl (pc0 := 51) (pc' := 58) rfl (hb hby at_51) rfl (XT.ii_gt_t hc15) (by decide) (by decide) kk) ?_
              refine own_st (G := T0.setTop (mkF m 59 #[.val (.int p0), .val (.int v5), .val (.int v5), .unset] [(.int (0 : Int32))])) (fun _ kk => XT.iconstV X0.here hx rfl (0 : Int32) (hb hby at_58) (by decide) kk) ?_
              exact j59 _ (by rw [if_pos hc8, if_pos hc9, if_neg hc10, if_pos hc13, if_neg hc14, if_pos hc15])
            · skip
              refine own_st (G := T0.setTop (mkF m 54 #[.val (.int p0), .val (.int v5), .val (.int v5), .unset] [])) (fun _ kk => XS.icmpNo X0.here hx rfl (hb hby at_51) rfl (XT.ii_gt_f hc15) kk) ?_
              refine own_st (G := T0.setTop (mkF m 55 #[.val (.int p0), .val (.int v5), .val (.int v5), .unset] [(.int (1 : Int32))])) (fun _ kk => XT.iconstV X0.here hx rfl (1 : Int32) (hb hby at_54) (by decide) kk) ?_
              refine own_st (G := T0.setTop (mkF m 59 #[.val (.int p0), .val (.int v5), .val (.int v5), .unset] [(.int (1 : Int32))])) (fun _ kk => XS.goto X0.here hx rfl (pc0 := 55) (pc' := 59) rfl (hb hby at_55) (by decide) (by decide) kk) ?_
              exact j59 _ (by rw [if_pos hc8, if_pos hc9, if_neg hc10, if_pos hc13, if_neg hc14, if_neg hc15])
        · skip
          refine own_st (G := T0.setTop (mkF m 54 #[.val (.int p0), .val (.int v5), .val (.int v5), .unset] [])) (fun _ kk => XS.icmpYes X0.here hx rfl (pc0 := 39) (pc' := 54) rfl (hb hby at_39) rfl (XT.ii_le_t hc13) (by decide) (by decide) kk) ?_
          refine own_st (G := T0.setTop (mkF m 55 #[.val (.int p0), .val (.int v5), .val (.int v5), .unset] [(.int (1 : Int32))])) (fun _ kk => XT.iconstV X0.here hx rfl (1 : Int32) (hb hby at_54) (by decide) kk) ?_
          refine own_st (G := T0.setTop (mkF m 59 #[.val (.int p0), .val (.int v5), .val (.int v5), .unset] [(.int (1 : Int32))])) (fun _ kk => XS.goto X0.here hx rfl (pc0 := 55) (pc' := 59) rfl (hb hby at_55) (by decide) (by decide) kk) ?_
          exact j59 _ (by rw [if_pos hc8, if_pos hc9, if_neg hc10, if_neg hc13])
    · skip
      refine own_st (G := T0.setTop (mkF m 24 #[.val (.int p0), .val (.int v5), .val (.int v5), .unset] [])) (fun _ kk => XS.icmpNo X0.here hx rfl (hb hby at_21) rfl (XT.ii_lt_f hc9) kk) ?_
      refine own_st (G := T0.setTop (mkF m 25 #[.val (.int p0), .val (.int v5), .val (.int v5), .unset] [(.int v5)])) (fun _ kk => XS.iloadN X0.here hx rfl (hb hby at_24) rfl kk) ?_
      refine own_st (G := T0.setTop (mkF m 27 #[.val (.int p0), .val (.int v5), .val (.int v5), .unset] [(.int (12 : Int32)), (.int v5)])) (fun _ kk => XT.bipushV X0.here hx rfl (12 : Int32) (hb hby at_25) (by decide) kk) ?_
      by_cases hc16 : (12 : Int32) < v5
      · skip
        refine own_st (G := T0.setTop (mkF m 30 #[.val (.int p0), .val (.int v5), .val (.int v5), .unset] [])) (fun _ kk => XS.icmpNo X0.here hx rfl (hb hby at_27) rfl (XT.ii_le_f hc16) kk) ?_
        refine own_st (G := T0.setTop (mkF m 31 #[.val (.int p0), .val (.int v5), .val (.int v5), .unset] [(.int v5)])) (fun _ kk => XS.iloadN X0.here hx rfl (hb hby at_30) rfl kk) ?_
        refine own_st (G := T0.setTop (mkF m 33 #[.val (.int p0), .val (.int v5), .val (.int v5), .unset] [(.int (14 : Int32)), (.int v5)])) (fun _ kk => XT.bipushV X0.here hx rfl (14 : Int32) (hb hby at_31) (by decide) kk) ?_
        by_cases hc17 : v5 < (14 : Int32)
        · skip
          refine own_st (G := T0.setTop (mkF m 42 #[.val (.int p0), .val (.int v5), .val (.int v5), .unset] [])) (fun _ kk => XS.icmpYes X0.here hx rfl (pc0 := 33) (pc' := 42) rfl (hb hby at_33) rfl (XT.ii_lt_t hc17) (by decide) (by decide) kk) ?_
          refine own_st (G := T0.setTop (mkF m 43 #[.val (.int p0), .val (.int v5), .val (.int v5), .unset] [(.int v5)])) (fun _ kk => XS.iloadN X0.here hx rfl (hb hby at_42) rfl kk) ?_
          refine own_st (G := T0.setTop (mkF m 45 #[.val (.int p0), .val (.int v5), .val (.int v5), .unset] [(.int (35 : Int32)), (.int v5)])) (fun _ kk => XT.bipushV X0.here hx rfl (35 : Int32) (hb hby at_43) (by decide) kk) ?_
          by_cases hc18 : v5 < (35 : Int32)
          · skip
            refine own_st (G := T0.setTop (mkF m 58 #[.val (.int p0), .val (.int v5), .val (.int v5), .unset] [])) (fun _ kk => XS.icmpYes X0.here hx rfl (pc0 := 45) (pc' := 58) rfl (hb hby at_45) rfl (XT.ii_lt_t hc18) (by decide) (by decide) kk) ?_
            refine own_st (G := T0.setTop (mkF m 59 #[.val (.int p0), .val (.int v5), .val (.int v5), .unset] [(.int (0 : Int32))])) (fun _ kk => XT.iconstV X0.here hx rfl (0 : Int32) (hb hby at_58) (by decide) kk) ?_
            exact j59 _ (by rw [if_pos hc8, if_neg hc9, if_pos hc16, if_pos hc17, if_pos hc18])
          · skip
            refine own_st (G := T0.setTop (mkF m 48 #[.val (.int p0), .val (.int v5), .val (.int v5), .unset] [])) (fun _ kk => XS.icmpNo X0.here hx rfl (hb hby at_45) rfl (XT.ii_lt_f hc18) kk) ?_
            refine own_st (G := T0.setTop (mkF m 49 #[.val (.int p0), .val (.int v5), .val (.int v5), .unset] [(.int v5)])) (fun _ kk => XS.iloadN X0.here hx rfl (hb hby at_48) rfl kk) ?_
            refine own_st (G := T0.setTop (mkF m 51 #[.val (.int p0), .val (.int v5), .val (.int v5), .unset] [(.int (127 : Int32)), (.int v5)])) (fun _ kk => XT.bipushV X0.here hx rfl (127 : Int32) (hb hby at_49) (by decide) kk) ?_
            by_cases hc19 : (127 : Int32) < v5
            · skip
              refine own_st (G := T0.setTop (mkF m 58 #[.val (.int p0), .val (.int v5), .val (.int v5), .unset] [])) (fun _ kk => XS.icmpYes X0.here hx rfl (pc0 := 51) (pc' := 58) rfl (hb hby at_51) rfl (XT.ii_gt_t hc19) (by decide) (by decide) kk) ?_
              refine own_st (G := T0.setTop (mkF m 59 #[.val (.int p0), .val (.int v5), .val (.int v5), .unset] [(.int (0 : Int32))])) (fun _ kk => XT.iconstV X0.here hx rfl (0 : Int32) (hb hby at_58) (by decide) kk) ?_
              exact j59 _ (by rw [if_pos hc8, if_neg hc9, if_pos hc16, if_pos hc17, if_neg hc18, if_pos hc19])
            · skip
              refine own_st (G := T0.setTop (mkF m 54 #[.val (.int p0), .val (.int v5), .val (.int v5), .unset] [])) (fun _ kk => XS.icmpNo X0.here hx rfl (hb hby at_51) rfl (XT.ii_gt_f hc19) kk) ?_
              refine own_st (G := T0.setTop (mkF m 55 #[.val (.int p0), .val (.int v5), .val (.int v5), .unset] [(.int (1 : Int32))])) (fun _ kk => XT.iconstV X0.here hx rfl (1 : Int32) (hb hby at_54) (by decide) kk) ?_
              refine own_st (G := T0.setTop (mkF m 59 #[.val (.int p0), .val (.int v5), .val (.int v5), .unset] [(.int (1 : Int32))])) (fun _ kk => XS.goto X0.here hx rfl (pc0 := 55) (pc' := 59) rfl (hb hby at_55) (by decide) (by decide) kk) ?_
              exact j59 _ (by rw [if_pos hc8, if_neg hc9, if_pos hc16, if_pos hc17, if_neg hc18, if_neg hc19])
        · skip
          refine own_st (G := T0.setTop (mkF m 36 #[.val (.int p0), .val (.int v5), .val (.int v5), .unset] [])) (fun _ kk => XS.icmpNo X0.here hx rfl (hb hby at_33) rfl (XT.ii_lt_f hc17) kk) ?_
          refine own_st (G := T0.setTop (mkF m 37 #[.val (.int p0), .val (.int v5), .val (.int v5), .unset] [(.int v5)])) (fun _ kk => XS.iloadN X0.here hx rfl (hb hby at_36) rfl kk) ?_
          refine own_st (G := T0.setTop (mkF m 39 #[.val (.int p0), .val (.int v5), .val (.int v5), .unset] [(.int (33 : Int32)), (.int v5)])) (fun _ kk => XT.bipushV X0.here hx rfl (33 : Int32) (hb hby at_37) (by decide) kk) ?_
          by_cases hc20 : (33 : Int32) < v5
          · skip
            refine own_st (G := T0.setTop (mkF m 42 #[.val (.int p0), .val (.int v5), .val (.int v5), .unset] [])) (fun _ kk => XS.icmpNo X0.here hx rfl (hb hby at_39) rfl (XT.ii_le_f hc20) kk) ?_
            refine own_st (G := T0.setTop (mkF m 43 #[.val (.int p0), .val (.int v5), .val (.int v5), .unset] [(.int v5)])) (fun _ kk => XS.iloadN X0.here hx rfl (hb hby at_42) rfl kk) ?_
            refine own_st (G := T0.setTop (mkF m 45 #[.val (.int p0), .val (.int v5), .val (.int v5), .unset] [(.int (35 : Int32)), (.int v5)])) (fun _ kk => XT.bipushV X0.here hx rfl (35 : Int32) (hb hby at_43) (by decide) kk) ?_
            by_cases hc21 : v5 < (35 : Int32)
            · skip
              refine own_st (G := T0.setTop (mkF m 58 #[.val (.int p0), .val (.int v5), .val (.int v5), .unset] [])) (fun _ kk => XS.icmpYes X0.here hx rfl (pc0 := 45) (pc' := 58) rfl (hb hby at_45) rfl (XT.ii_lt_t hc21) (by decide) (by decide) kk) ?_
              refine own_st (G := T0.setTop (mkF m 59 #[.val (.int p0), .val (.int v5), .val (.int v5), .unset] [(.int (0 : Int32))])) (fun _ kk => XT.iconstV X0.here hx rfl (0 : Int32) (hb hby at_58) (by decide) kk) ?_
              exact j59 _ (by rw [if_pos hc8, if_neg hc9, if_pos hc16, if_neg hc17, if_pos hc20, if_pos hc21])
            · skip
              refine own_st (G := T0.setTop (mkF m 48 #[.val (.int p0), .val (.int v5), .val (.int v5), .unset] [])) (fun _ kk => XS.icmpNo X0.here hx rfl (hb hby at_45) rfl (XT.ii_lt_f hc21) kk) ?_
              refine own_st (G := T0.setTop (mkF m 49 #[.val (.int p0), .val (.int v5), .val (.int v5), .unset] [(.int v5)])) (fun _ kk => XS.iloadN X0.here hx rfl (hb hby at_48) rfl kk) ?_
              refine own_st (G := T0.setTop (mkF m 51 #[.val (.int p0), .val (.int v5), .val (.int v5), .unset] [(.int (127 : Int32)), (.int v5)])) (fun _ kk => XT.bipushV X0.here hx rfl (127 : Int32) (hb hby at_49) (by decide) kk) ?_
              by_cases hc22 : (127 : Int32) < v5
              · skip
                refine own_st (G := T0.setTop (mkF m 58 #[.val (.int p0), .val (.int v5), .val (.int v5), .unset] [])) (fun _ kk => XS.icmpYes X0.here hx rfl (pc0 := 51) (pc' := 58) rfl (hb hby at_51) rfl (XT.ii_gt_t hc22) (by decide) (by decide) kk) ?_
                refine own_st (G := T0.setTop (mkF m 59 #[.val (.int p0), .val (.int v5), .val (.int v5), .unset] [(.int (0 : Int32))])) (fun _ kk => XT.iconstV X0.here hx rfl (0 : Int32) (hb hby at_58) (by decide) kk) ?_
                exact j59 _ (by rw [if_pos hc8, if_neg hc9, if_pos hc16, if_neg hc17, if_pos hc20, if_neg hc21, if_pos hc22])
              · skip
                refine own_st (G := T0.setTop (mkF m 54 #[.val (.int p0), .val (.int v5), .val (.int v5), .unset] [])) (fun _ kk => XS.icmpNo X0.here hx rfl (hb hby at_51) rfl (XT.ii_gt_f hc22) kk) ?_
                refine own_st (G := T0.setTop (mkF m 55 #[.val (.int p0), .val (.int v5), .val (.int v5), .unset] [(.int (1 : Int32))])) (fun _ kk => XT.iconstV X0.here hx rfl (1 : Int32) (hb hby at_54) (by decide) kk) ?_
                refine own_st (G := T0.setTop (mkF m 59 #[.val (.int p0), .val (.int v5), .val (.int v5), .unset] [(.int (1 : Int32))])) (fun _ kk => XS.goto X0.here hx rfl (pc0 := 55) (pc' := 59) rfl (hb hby at_55) (by decide) (by decide) kk) ?_
                exact j59 _ (by rw [if_pos hc8, if_neg hc9, if_pos hc16, if_neg hc17, if_pos hc20, if_neg hc21, if_neg hc22])
          · skip
            refine own_st (G := T0.setTop (mkF m 54 #[.val (.int p0), .val (.int v5), .val (.int v5), .unset] [])) (fun _ kk => XS.icmpYes X0.here hx rfl (pc0 := 39) (pc' := 54) rfl (hb hby at_39) rfl (XT.ii_le_t hc20) (by decide) (by decide) kk) ?_
            refine own_st (G := T0.setTop (mkF m 55 #[.val (.int p0), .val (.int v5), .val (.int v5), .unset] [(.int (1 : Int32))])) (fun _ kk => XT.iconstV X0.here hx rfl (1 : Int32) (hb hby at_54) (by decide) kk) ?_
            refine own_st (G := T0.setTop (mkF m 59 #[.val (.int p0), .val (.int v5), .val (.int v5), .unset] [(.int (1 : Int32))])) (fun _ kk => XS.goto X0.here hx rfl (pc0 := 55) (pc' := 59) rfl (hb hby at_55) (by decide) (by decide) kk) ?_
            exact j59 _ (by rw [if_pos hc8, if_neg hc9, if_pos hc16, if_neg hc17, if_neg hc20])
      · skip
        refine own_st (G := T0.setTop (mkF m 54 #[.val (.int p0), .val (.int v5), .val (.int v5), .unset] [])) (fun _ kk => XS.icmpYes X0.here hx rfl (pc0 := 27) (pc' := 54) rfl (hb hby at_27) rfl (XT.ii_le_t hc16) (by decide) (by decide) kk) ?_
        refine own_st (G := T0.setTop (mkF m 55 #[.val (.int p0), .val (.int v5), .val (.int v5), .unset] [(.int (1 : Int32))])) (fun _ kk => XT.iconstV X0.here hx rfl (1 : Int32) (hb hby at_54) (by decide) kk) ?_
        refine own_st (G := T0.setTop (mkF m 59 #[.val (.int p0), .val (.int v5), .val (.int v5), .unset] [(.int (1 : Int32))])) (fun _ kk => XS.goto X0.here hx rfl (pc0 := 55) (pc' := 59) rfl (hb hby at_55) (by decide) (by decide) kk) ?_
        exact j59 _ (by rw [if_pos hc8, if_neg hc9, if_neg hc16])
  · skip
    refine own_st (G := T0.setTop (mkF m 12 #[.val (.int p0), .val (.int v5), .val (.int v5), .unset] [])) (fun _ kk => XS.ifNo X0.here hx rfl (hb hby at_9) rfl (XT.i0_lt_f hc8) kk) ?_
    refine own_st (G := T0.setTop (mkF m 13 #[.val (.int p0), .val (.int v5), .val (.int v5), .unset] [(.int v5)])) (fun _ kk => XS.iloadN X0.here hx rfl (hb hby at_12) rfl kk) ?_
    refine own_st (G := T0.setTop (mkF m 15 #[.val (.int p0), .val (.int v5), .val (.int v5), .unset] [(.int (9 : Int32)), (.int v5)])) (fun _ kk => XT.bipushV X0.here hx rfl (9 : Int32) (hb hby at_13) (by decide) kk) ?_
    by_cases hc23 : (9 : Int32) < v5
    · skip
      refine own_st (G := T0.setTop (mkF m 18 #[.val (.int p0), .val (.int v5), .val (.int v5), .unset] [])) (fun _ kk => XS.icmpNo X0.here hx rfl (hb hby at_15) rfl (XT.ii_le_f hc23) kk) ?_
      refine own_st (G := T0.setTop (mkF m 19 #[.val (.int p0), .val (.int v5), .val (.int v5), .unset] [(.int v5)])) (fun _ kk => XS.iloadN X0.here hx rfl (hb hby at_18) rfl kk) ?_
      refine own_st (G := T0.setTop (mkF m 21 #[.val (.int p0), .val (.int v5), .val (.int v5), .unset] [(.int (11 : Int32)), (.int v5)])) (fun _ kk => XT.bipushV X0.here hx rfl (11 : Int32) (hb hby at_19) (by decide) kk) ?_
      by_cases hc24 : v5 < (11 : Int32)
      · skip
        refine own_st (G := T0.setTop (mkF m 30 #[.val (.int p0), .val (.int v5), .val (.int v5), .unset] [])) (fun _ kk => XS.icmpYes X0.here hx rfl (pc0 := 21) (pc' := 30) rfl (hb hby at_21) rfl (XT.ii_lt_t hc24) (by decide) (by decide) kk) ?_
        refine own_st (G := T0.setTop (mkF m 31 #[.val (.int p0), .val (.int v5), .val (.int v5), .unset] [(.int v5)])) (fun _ kk => XS.iloadN X0.here hx rfl (hb hby at_30) rfl kk) ?_
        refine own_st (G := T0.setTop (mkF m 33 #[.val (.int p0), .val (.int v5), .val (.int v5), .unset] [(.int (14 : Int32)), (.int v5)])) (fun _ kk => XT.bipushV X0.here hx rfl (14 : Int32) (hb hby at_31) (by decide) kk) ?_
        by_cases hc25 : v5 < (14 : Int32)
        · skip
          refine own_st (G := T0.setTop (mkF m 42 #[.val (.int p0), .val (.int v5), .val (.int v5), .unset] [])) (fun _ kk => XS.icmpYes X0.here hx rfl (pc0 := 33) (pc' := 42) rfl (hb hby at_33) rfl (XT.ii_lt_t hc25) (by decide) (by decide) kk) ?_
          refine own_st (G := T0.setTop (mkF m 43 #[.val (.int p0), .val (.int v5), .val (.int v5), .unset] [(.int v5)])) (fun _ kk => XS.iloadN X0.here hx rfl (hb hby at_42) rfl kk) ?_
          refine own_st (G := T0.setTop (mkF m 45 #[.val (.int p0), .val (.int v5), .val (.int v5), .unset] [(.int (35 : Int32)), (.int v5)])) (fun _ kk => XT.bipushV X0.here hx rfl (35 : Int32) (hb hby at_43) (by decide) kk) ?_
          by_cases hc26 : v5 < (35 : Int32)
          · skip
            refine own_st (G := T0.setTop (mkF m 58 #[.val (.int p0), .val (.int v5), .val (.int v5), .unset] [])) (fun _ kk => XS.icmpYes X0.here hx rfl (pc0 := 45) (pc' := 58) rfl (hb hby at_45) rfl (XT.ii_lt_t hc26) (by decide) (by decide) kk) ?_
            refine own_st (G := T0.setTop (mkF m 59 #[.val (.int p0), .val (.int v5), .val (.int v5), .unset] [(.int (0 : Int32))])) (fun _ kk => XT.iconstV X0.here hx rfl (0 : Int32) (hb hby at_58) (by decide) kk) ?_
            exact j59 _ (by rw [if_neg hc8, if_pos hc23, if_pos hc24, if_pos hc25, if_pos hc26])
          · skip
            refine own_st (G := T0.setTop (mkF m 48 #[.val (.int p0), .val (.int v5), .val (.int v5), .unset] [])) (fun _ kk => XS.icmpNo X0.here hx rfl (hb hby at_45) rfl (XT.ii_lt_f hc26) kk) ?_
            refine own_st (G := T0.setTop (mkF m 49 #[.val (.int p0), .val (.int v5), .val (.int v5), .unset] [(.int v5)])) (fun _ kk => XS.iloadN X0.here hx rfl (hb hby at_48) rfl kk) ?_
            refine own_st (G := T0.setTop (mkF m 51 #[.val (.int p0), .val (.int v5), .val (.int v5), .unset] [(.int (127 : Int32)), (.int v5)])) (fun _ kk => XT.bipushV X0.here hx rfl (127 : Int32) (hb hby at_49) (by decide) kk) ?_
            by_cases hc27 : (127 : Int32) < v5
            · skip
              refine own_st (G := T0.setTop (mkF m 58 #[.val (.int p0), .val (.int v5), .val (.int v5), .unset] [])) (fun _ kk => XS.icmpYes X0.here hx rfl (pc0 := 51) (pc' := 58) rfl (hb hby at_51) rfl (XT.ii_gt_t hc27) (by decide) (by decide) kk) ?_
              refine own_st (G := T0.setTop (mkF m 59 #[.val (.int p0), .val (.int v5), .val (.int v5), .unset] [(.int (0 : Int32))])) (fun _ kk => XT.iconstV X0.here hx rfl (0 : Int32) (hb hby at_58) (by decide) kk) ?_
              exact j59 _ (by rw [if_neg hc8, if_pos hc23, if_pos hc24, if_pos hc25, if_neg hc26, if_pos hc27])
            · skip
              refine own_st (G := T0.setTop (mkF m 54 #[.val (.int p0), .val (.int v5), .val (.int v5), .unset] [])) (fun _ kk => XS.icmpNo X0.here hx rfl (hb hby at_51) rfl (XT.ii_gt_f hc27) kk) ?_
              refine own_st (G := T0.setTop (mkF m 55 #[.val (.int p0), .val (.int v5), .val (.int v5), .unset] [(.int (1 : Int32))])) (fun _ kk => XT.iconstV X0.here hx rfl (1 : Int32) (hb hby at_54) (by decide) kk) ?_
              refine own_st (G := T0.setTop (mkF m 59 #[.val (.int p0), .val (.int v5), .val (.int v5), .unset] [(.int (1 : Int32))])) (fun _ kk => XS.goto X0.here hx rfl (pc0 := 55) (pc' := 59) rfl (hb hby at_55) (by decide) (by decide) kk) ?_
              exact j59 _ (by rw [if_neg hc8, if_pos hc23, if_pos hc24, if_pos hc25, if_neg hc26, if_neg hc27])
        · skip
          refine own_st (G := T0.setTop (mkF m 36 #[.val (.int p0), .val (.int v5), .val (.int v5), .unset] [])) (fun _ kk => XS.icmpNo X0.here hx rfl (hb hby at_33) rfl (XT.ii_lt_f hc25) kk) ?_
          refine own_st (G := T0.setTop (mkF m 37 #[.val (.int p0), .val (.int v5), .val (.int v5), .unset] [(.int v5)])) (fun _ kk => XS.iloadN X0.here hx rfl (hb hby at_36) rfl kk) ?_
          refine own_st (G := T0.setTop (mkF m 39 #[.val (.int p0), .val (.int v5), .val (.int v5), .unset] [(.int (33 : Int32)), (.int v5)])) (fun _ kk => XT.bipushV X0.here hx rfl (33 : Int32) (hb hby at_37) (by decide) kk) ?_
          by_cases hc28 : (33 : Int32) < v5
          · skip
            refine own_st (G := T0.setTop (mkF m 42 #[.val (.int p0), .val (.int v5), .val (.int v5), .unset] [])) (fun _ kk => XS.icmpNo X0.here hx rfl (hb hby at_39) rfl (XT.ii_le_f hc28) kk) ?_
            refine own_st (G := T0.setTop (mkF m 43 #[.val (.int p0), .val (.int v5), .val (.int v5), .unset] [(.int v5)])) (fun _ kk => XS.iloadN X0.here hx rfl (hb hby at_42) rfl kk) ?_
            refine own_st (G := T0.setTop (mkF m 45 #[.val (.int p0), .val (.int v5), .val (.int v5), .unset] [(.int (35 : Int32)), (.int v5)])) (fun _ kk => XT.bipushV X0.here hx rfl (35 : Int32) (hb hby at_43) (by decide) kk) ?_
            by_cases hc29 : v5 < (35 : Int32)
            · skip
              refine own_st (G := T0.setTop (mkF m 58 #[.val (.int p0), .val (.int v5), .val (.int v5), .unset] [])) (fun _ kk => XS.icmpYes X0.here hx rfl (pc0 := 45) (pc' := 58) rfl (hb hby at_45) rfl (XT.ii_lt_t hc29) (by decide) (by decide) kk) ?_
              refine own_st (G := T0.setTop (mkF m 59 #[.val (.int p0), .val (.int v5), .val (.int v5), .unset] [(.int (0 : Int32))])) (fun _ kk => XT.iconstV X0.here hx rfl (0 : Int32) (hb hby at_58) (by decide) kk) ?_
              exact j59 _ (by rw [if_neg hc8, if_pos hc23, if_pos hc24, if_neg hc25, if_pos hc28, if_pos hc29])
            · skip
              refine own_st (G := T0.setTop (mkF m 48 #[.val (.int p0), .val (.int v5), .val (.int v5), .unset] [])) (fun _ kk => XS.icmpNo X0.here hx rfl (hb hby at_45) rfl (XT.ii_lt_f hc29) kk) ?_
              refine own_st (G := T0.setTop (mkF m 49 #[.val (.int p0), .val (.int v5), .val (.int v5), .unset] [(.int v5)])) (fun _ kk => XS.iloadN X0.here hx rfl (hb hby at_48) rfl kk) ?_
              refine own_st (G := T0.setTop (mkF m 51 #[.val (.int p0), .val (.int v5), .val (.int v5), .unset] [(.int (127 : Int32)), (.int v5)])) (fun _ kk => XT.bipushV X0.here hx rfl (127 : Int32) (hb hby at_49) (by decide) kk) ?_
              by_cases hc30 : (127 : Int32) < v5
              · skip
                refine own_st (G := T0.setTop (mkF m 58 #[.val (.int p0), .val (.int v5), .val (.int v5), .unset] [])) (fun _ kk => XS.icmpYes X0.here hx rfl (pc0 := 51) (pc' := 58) rfl (hb hby at_51) rfl (XT.ii_gt_t hc30) (by decide) (by decide) kk) ?_
                refine own_st (G := T0.setTop (mkF m 59 #[.val (.int p0), .val (.int v5), .val (.int v5), .unset] [(.int (0 : Int32))])) (fun _ kk => XT.iconstV X0.here hx rfl (0 : Int32) (hb hby at_58) (by decide) kk) ?_
                exact j59 _ (by rw [if_neg hc8, if_pos hc23, if_pos hc24, if_neg hc25, if_pos hc28, if_neg hc29, if_pos hc30])
              · skip
                refine own_st (G := T0.setTop (mkF m 54 #[.val (.int p0), .val (.int v5), .val (.int v5), .unset] [])) (fun _ kk => XS.icmpNo X0.here hx rfl (hb hby at_51) rfl (XT.ii_gt_f hc30) kk) ?_
                refine own_st (G := T0.setTop (mkF m 55 #[.val (.int p0), .val (.int v5), .val (.int v5), .unset] [(.int (1 : Int32))])) (fun _ kk => XT.iconstV X0.here hx rfl (1 : Int32) (hb hby at_54) (by decide) kk) ?_
                refine own_st (G := T0.setTop (mkF m 59 #[.val (.int p0), .val (.int v5), .val (.int v5), .unset] [(.int (1 : Int32))])) (fun _ kk => XS.goto X0.here hx rfl (pc0 := 55) (pc' := 59) rfl (hb hby at_55) (by decide) (by decide) kk) ?_
                exact j59 _ (by rw [if_neg hc8, if_pos hc23, if_pos hc24, if_neg hc25, if_pos hc28, if_neg hc29, if_neg hc30])
          · skip
            refine own_st (G := T0.setTop (mkF m 54 #[.val (.int p0), .val (.int v5), .val (.int v5), .unset] [])) (fun _ kk => XS.icmpYes X0.here hx rfl (pc0 := 39) (pc' := 54) rfl (hb hby at_39) rfl (XT.ii_le_t hc28) (by decide) (by decide) kk) ?_
            refine own_st (G := T0.setTop (mkF m 55 #[.val (.int p0), .val (.int v5), .val (.int v5), .unset] [(.int (1 : Int32))])) (fun _ kk => XT.iconstV X0.here hx rfl (1 : Int32) (hb hby at_54) (by decide) kk) ?_
            refine own_st (G := T0.setTop (mkF m 59 #[.val (.int p0), .val (.int v5), .val (.int v5), .unset] [(.int (1 : Int32))])) (fun _ kk => XS.goto X0.here hx rfl (pc0 := 55) (pc' := 59) rfl (hb hby at_55) (by decide) (by decide) kk) ?_
            exact j59 _ (by rw [if_neg hc8, if_pos hc23, if_pos hc24, if_neg hc25, if_neg hc28])
      · skip
        refine own_st (G := T0.setTop (mkF m 24 #[.val (.int p0), .val (.int v5), .val (.int v5), .unset] [])) (fun _ kk => XS.icmpNo X0.here hx rfl (hb hby at_21) rfl (XT.ii_lt_f hc24) kk) ?_
        refine own_st (G := T0.setTop (mkF m 25 #[.val (.int p0), .val (.int v5), .val (.int v5), .unset] [(.int v5)])) (fun _ kk => XS.iloadN X0.here hx rfl (hb hby at_24) rfl kk) ?_
        refine own_st (G := T0.setTop (mkF m 27 #[.val (.int p0), .val (.int v5), .val (.int v5), .unset] [(.int (12 : Int32)), (.int v5)])) (fun _ kk => XT.bipushV X0.here hx rfl (12 : Int32) (hb hby at_25) (by decide) kk) ?_
        by_cases hc31 : (12 : Int32) < v5
        · skip
          refine own_st (G := T0.setTop (mkF m 30 #[.val (.int p0), .val (.int v5), .val (.int v5), .unset] [])) (fun _ kk => XS.icmpNo X0.here hx rfl (hb hby at_27) rfl (XT.ii_le_f hc31) kk) ?_
          refine own_st (G := T0.setTop (mkF m 31 #[.val (.int p0), .val (.int v5), .val (.int v5), .unset] [(.int v5)])) (fun _ kk => XS.iloadN X0.here hx rfl (hb hby at_30) rfl kk) ?_
          refine own_st (G := T0.setTop (mkF m 33 #[.val (.int p0), .val (.int v5), .val (.int v5), .unset] [(.int (14 : Int32)), (.int v5)])) (fun _ kk => XT.bipushV X0.here hx rfl (14 : Int32) (hb hby at_31) (by decide) kk) ?_
          by_cases hc32 : v5 < (14 : Int32)
          · skip
            refine own_st (G := T0.setTop (mkF m 42 #[.val (.int p0), .val (.int v5), .val (.int v5), .unset] [])) (fun _ kk => XS.icmpYes X0.here hx rfl (pc0 := 33) (pc' := 42) rfl (hb hby at_33) rfl (XT.ii_lt_t hc32) (by decide) (by decide) kk) ?_
            refine own_st (G := T0.setTop (mkF m 43 #[.val (.int p0), .val (.int v5), .val (.int v5), .unset] [(.int v5)])) (fun _ kk => XS.iloadN X0.here hx rfl (hb hby at_42) rfl kk) ?_
            refine own_st (G := T0.setTop (mkF m 45 #[.val (.int p0), .val (.int v5), .val (.int v5), .unset] [(.int (35 : Int32)), (.int v5)])) (fun _ kk => XT.bipushV X0.here hx rfl (35 : Int32) (hb hby at_43) (by decide) kk) ?_
            by_cases hc33 : v5 < (35 : Int32)
            · skip
              refine own_st (G := T0.setTop (mkF m 58 #[.val (.int p0), .val (.int v5), .val (.int v5), .unset] [])) (fun _ kk => XS.icmpYes X0.here hx rfl (pc0 := 45) (pc' := 58) rfl (hb hby at_45) rfl (XT.ii_lt_t hc33) (by decide) (by decide) kk) ?_
              refine own_st (G := T0.setTop (mkF m 59 #[.val (.int p0), .val (.int v5), .val (.int v5), .unset] [(.int (0 : Int32))])) (fun _ kk => XT.iconstV X0.here hx rfl (0 : Int32) (hb hby at_58) (by decide) kk) ?_
              exact j59 _ (by rw [if_neg hc8, if_pos hc23, if_neg hc24, if_pos hc31, if_pos hc32, if_pos hc33])
            · skip
              refine own_st (G := T0.setTop (mkF m 48 #[.val (.int p0), .val (.int v5), .val (.int v5), .unset] [])) (fun _ kk => XS.icmpNo X0.here hx rfl (hb hby at_45) rfl (XT.ii_lt_f hc33) kk) ?_
              refine own_st (G := T0.setTop (mkF m 49 #[.val (.int p0), .val (.int v5), .val (.int v5), .unset] [(.int v5)])) (fun _ kk => XS.iloadN X0.here hx rfl (hb hby at_48) rfl kk) ?_
              refine own_st (G := T0.setTop (mkF m 51 #[.val (.int p0), .val (.int v5), .val (.int v5), .unset] [(.int (127 : Int32)), (.int v5)])) (fun _ kk => XT.bipushV X0.here hx rfl (127 : Int32) (hb hby at_49) (by decide) kk) ?_
              by_cases hc34 : (127 : Int32) < v5
              · skip
                refine own_st (G := T0.setTop (mkF m 58 #[.val (.int p0), .val (.int v5), .val (.int v5), .unset] [])) (fun _ kk => XS.icmpYes X0.here hx rfl (pc0 := 51) (pc' := 58) rfl (hb hby at_51) rfl (XT.ii_gt_t hc34) (by decide) (by decide) kk) ?_
                refine own_st (G := T0.setTop (mkF m 59 #[.val (.int p0), .val (.int v5), .val (.int v5), .unset] [(.int (0 : Int32))])) (fun _ kk => XT.iconstV X0.here hx rfl (0 : Int32) (hb hby at_58) (by decide) kk) ?_
                exact j59 _ (by rw [if_neg hc8, if_pos hc23, if_neg hc24, if_pos hc31, if_pos hc32, if_neg hc33, if_pos hc34])
              · skip
                refine own_st (G := T0.setTop (mkF m 54 #[.val (.int p0), .val (.int v5), .val (.int v5), .unset] [])) (fun _ kk => XS.icmpNo X0.here hx rfl (hb hby at_51) rfl (XT.ii_gt_f hc34) kk) ?_
                refine own_st (G := T0.setTop (mkF m 55 #[.val (.int p0), .val (.int v5), .val (.int v5), .unset] [(.int (1 : Int32))])) (fun _ kk => XT.iconstV X0.here hx rfl (1 : Int32) (hb hby at_54) (by decide) kk) ?_
                refine own_st (G := T0.setTop (mkF m 59 #[.val (.int p0), .val (.int v5), .val (.int v5), .unset] [(.int (1 : Int32))])) (fun _ kk => XS.goto X0.here hx rfl (pc0 := 55) (pc' := 59) rfl (hb hby at_55) (by decide) (by decide) kk) ?_
                exact j59 _ (by rw [if_neg hc8, if_pos hc23, if_neg hc24, if_pos hc31, if_pos hc32, if_neg hc33, if_neg hc34])
          · skip
            refine own_st (G := T0.setTop (mkF m 36 #[.val (.int p0), .val (.int v5), .val (.int v5), .unset] [])) (fun _ kk => XS.icmpNo X0.here hx rfl (hb hby at_33) rfl (XT.ii_lt_f hc32) kk) ?_
            refine own_st (G := T0.setTop (mkF m 37 #[.val (.int p0), .val (.int v5), .val (.int v5), .unset] [(.int v5)])) (fun _ kk => XS.iloadN X0.here hx rfl (hb hby at_36) rfl kk) ?_
            refine own_st (G := T0.setTop (mkF m 39 #[.val (.int p0), .val (.int v5), .val (.int v5), .unset] [(.int (33 : Int32)), (.int v5)])) (fun _ kk => XT.bipushV X0.here hx rfl (33 : Int32) (hb hby at_37) (by decide) kk) ?_
            by_cases hc35 : (33 : Int32) < v5
            · skip
              refine own_st (G := T0.setTop (mkF m 42 #[.val (.int p0), .val (.int v5), .val (.int v5), .unset] [])) (fun _ kk => XS.icmpNo X0.here hx rfl (hb hby at_39) rfl (XT.ii_le_f hc35) kk) ?_
              refine own_st (G := T0.setTop (mkF m 43 #[.val (.int p0), .val (.int v5), .val (.int v5), .unset] [(.int v5)])) (fun _ kk => XS.iloadN X0.here hx rfl (hb hby at_42) rfl kk) ?_
              refine own_st (G := T0.setTop (mkF m 45 #[.val (.int p0), .val (.int v5), .val (.int v5), .unset] [(.int (35 : Int32)), (.int v5)])) (fun _ kk => XT.bipushV X0.here hx rfl (35 : Int32) (hb hby at_43) (by decide) kk) ?_
              by_cases hc36 : v5 < (35 : Int32)
              · skip
                refine own_st (G := T0.setTop (mkF m 58 #[.val (.int p0), .val (.int v5), .val (.int v5), .unset] [])) (fun _ kk => XS.icmpYes X0.here hx rfl (pc0 := 45) (pc' := 58) rfl (hb hby at_45) rfl (XT.ii_lt_t hc36) (by decide) (by decide) kk) ?_
                refine own_st (G := T0.setTop (mkF m 59 #[.val (.int p0), .val (.int v5), .val (.int v5), .unset] [(.int (0 : Int32))])) (fun _ kk => XT.iconstV X0.here hx rfl (0 : Int32) (hb hby at_58) (by decide) kk) ?_
                exact j59 _ (by rw [if_neg hc8, if_pos hc23, if_neg hc24, if_pos hc31, if_neg hc32, if_pos hc35, if_pos hc36])
              · skip
                refine own_st (G := T0.setTop (mkF m 48 #[.val (.int p0), .val (.int v5), .val (.int v5), .unset] [])) (fun _ kk => XS.icmpNo X0.here hx rfl (hb hby at_45) rfl (XT.ii_lt_f hc36) kk) ?_
                refine own_st (G := T0.setTop (mkF m 49 #[.val (.int p0), .val (.int v5), .val (.int v5), .unset] [(.int v5)])) (fun _ kk => XS.iloadN X0.here hx rfl (hb hby at_48) rfl kk) ?_
                refine own_st (G := T0.setTop (mkF m 51 #[.val (.int p0), .val (.int v5), .val (.int v5), .unset] [(.int (127 : Int32)), (.int v5)])) (fun _ kk => XT.bipushV X0.here hx rfl (127 : Int32) (hb hby at_49) (by decide) kk) ?_
                by_cases hc37 : (127 : Int32) < v5
                · skip
                  refine own_st (G := T0.setTop (mkF m 58 #[.val (.int p0), .val (.int v5), .val (.int v5), .unset] [])) (fun _ kk => XS.icmpYes X0.here hx rfl (pc0 := 51) (pc' := 58) rfl (hb hby at_51) rfl (XT.ii_gt_t hc37) (by decide) (by decide) kk) ?_
                  refine own_st (G := T0.setTop (mkF m 59 #[.val (.int p0), .val (.int v5), .val (.int v5), .unset] [(.int (0 : Int32))])) (fun _ kk => XT.iconstV X0.here hx rfl (0 : Int32) (hb hby at_58) (by decide) kk) ?_
                  exact j59 _ (by rw [if_neg hc8, if_pos hc23, if_neg hc24, if_pos hc31, if_neg hc32, if_pos hc35, if_neg hc36, if_pos hc37])
                · skip
                  refine own_st (G := T0.setTop (mkF m 54 #[.val (.int p0), .val (.int v5), .val (.int v5), .unset] [])) (fun _ kk => XS.icmpNo X0.here hx rfl (hb hby at_51) rfl (XT.ii_gt_f hc37) kk) ?_
                  refine own_st (G := T0.setTop (mkF m 55 #[.val (.int p0), .val (.int v5), .val (.int v5), .unset] [(.int (1 : Int32))])) (fun _ kk => XT.iconstV X0.here hx rfl (1 : Int32) (hb hby at_54) (by decide) kk) ?_
                  refine own_st (G := T0.setTop (mkF m 59 #[.val (.int p0), .val (.int v5), .val (.int v5), .unset] [(.int (1 : Int32))])) (fun _ kk => XS.goto X0.here hx rfl (pc0 := 55) (pc' := 59) rfl (hb hby at_55) (by decide) (by decide) kk) ?_
                  exact j59 _ (by rw [if_neg hc8, if_pos hc23, if_neg hc24, if_pos hc31, if_neg hc32, if_pos hc35, if_neg hc36, if_neg hc37])
            · skip
              refine own_st (G := T0.setTop (mkF m 54 #[.val (.int p0), .val (.int v5), .val (.int v5), .unset] [])) (fun _ kk => XS.icmpYes X0.here hx rfl (pc0 := 39) (pc' := 54) rfl (hb hby at_39) rfl (XT.ii_le_t hc35) (by decide) (by decide) kk) ?_
              refine own_st (G := T0.setTop (mkF m 55 #[.val (.int p0), .val (.int v5), .val (.int v5), .unset] [(.int (1 : Int32))])) (fun _ kk => XT.iconstV X0.here hx rfl (1 : Int32) (hb hby at_54) (by decide) kk) ?_
              refine own_st (G := T0.setTop (mkF m 59 #[.val (.int p0), .val (.int v5), .val (.int v5), .unset] [(.int (1 : Int32))])) (fun _ kk => XS.goto X0.here hx rfl (pc0 := 55) (pc' := 59) rfl (hb hby at_55) (by decide) (by decide) kk) ?_
              exact j59 _ (by rw [if_neg hc8, if_pos hc23, if_neg hc24, if_pos hc31, if_neg hc32, if_neg hc35])
        · skip
          refine own_st (G := T0.setTop (mkF m 54 #[.val (.int p0), .val (.int v5), .val (.int v5), .unset] [])) (fun _ kk => XS.icmpYes X0.here hx rfl (pc0 := 27) (pc' := 54) rfl (hb hby at_27) rfl (XT.ii_le_t hc31) (by decide) (by decide) kk) ?_
          refine own_st (G := T0.setTop (mkF m 55 #[.val (.int p0), .val (.int v5), .val (.int v5), .unset] [(.int (1 : Int32))])) (fun _ kk => XT.iconstV X0.here hx rfl (1 : Int32) (hb hby at_54) (by decide) kk) ?_
          refine own_st (G := T0.setTop (mkF m 59 #[.val (.int p0), .val (.int v5), .val (.int v5), .unset] [(.int (1 : Int32))])) (fun _ kk => XS.goto X0.here hx rfl (pc0 := 55) (pc' := 59) rfl (hb hby at_55) (by decide) (by decide) kk) ?_
          exact j59 _ (by rw [if_neg hc8, if_pos hc23, if_neg hc24, if_neg hc31])
    · skip
      refine own_st (G := T0.setTop (mkF m 54 #[.val (.int p0), .val (.int v5), .val (.int v5), .unset] [])) (fun _ kk => XS.icmpYes X0.here hx rfl (pc0 := 15) (pc' := 54) rfl (hb hby at_15) rfl (XT.ii_le_t hc23) (by decide) (by decide) kk) ?_
      refine own_st (G := T0.setTop (mkF m 55 #[.val (.int p0), .val (.int v5), .val (.int v5), .unset] [(.int (1 : Int32))])) (fun _ kk => XT.iconstV X0.here hx rfl (1 : Int32) (hb hby at_54) (by decide) kk) ?_
      refine own_st (G := T0.setTop (mkF m 59 #[.val (.int p0), .val (.int v5), .val (.int v5), .unset] [(.int (1 : Int32))])) (fun _ kk => XS.goto X0.here hx rfl (pc0 := 55) (pc' := 59) rfl (hb hby at_55) (by decide) (by decide) kk) ?_
      exact j59 _ (by rw [if_neg hc8, if_neg hc23])
set_option maxRecDepth 65536 in
set_option maxHeartbeats 40000000 in
theorem comes_1 {Post : Tables → Env → Array Value → State → Outcome → State → Prop} (hpost : ∀ tb e args s v u, (limb_1_1.after args s (.returned v) u = true ∧ limb_1_2.after args s (.returned v) u = true ∧ True) → FrameEnd s (.returned v) u (Jvm.fieldLocs frame_1_writes args s ++ Jvm.arrayLocs frame_1_arrays args s ++ Jvm.staticLocs frame_1_statics s) 0 0 → Post tb e args s (.returned v) u) :
    ArmFor flags0 classFile x code maxLocals ret World_1 tables_1 room_1 Calls_1 rest_1 Pre_1 Post := by
  intro l hfl _ _ p e ha hc hk s m args below hf hA hF happ hP
  obtain ⟨hcalls, hrest, hpre⟩ := hP
  obtain ⟨-, -, -, hnamed, -, -, -, hat⟩ := (Spec.applies_iff hf).mp happ
  obtain ⟨hg, hn⟩ := and_e (Cond.before_iff.mp (show (Jvm.Cond.and given_1 narrow_1).before args s = true from hpre))
  obtain ⟨hct, hk0⟩ := and_e hg
  have ha0 := hk0
  obtain ⟨w0, rfl⟩ : ∃ w0 : Value, args = #[w0] := by
    have hs : args.size = 1 := by simpa [Cond.value, given_1] using hct
    obtain ⟨L⟩ := args
    match L, hs with
    | [w0], _ => exact ⟨w0, rfl⟩
  have hw := fun d (hd : d ∈ tables_1) => atoms_spec (ws := Jvm.Cond.code x code maxLocals ret :: tables_1) hat d (List.mem_cons_of_mem _ hd)
  obtain ⟨i0, e0⟩ := is_v ha0
  obtain rfl : w0 = (.int i0) := Option.some.inj e0
  obtain ⟨n, o, h1, h2, h3, _, L, rfl, ⟨rfl, N⟩, hq⟩ := own_law l s _ hw tables_1 i0 s.heap s.heap.size p e ha hc hk s m _ below hf ((Spec.applies_iff_loose hf).mp happ).1 ⟨rfl, State.Warmed39.refl s, rfl⟩ trivial
  refine ⟨n, _, h1, h2, h3, hpost _ _ _ _ _ _ ⟨Cond.after_iff.mpr rfl, Cond.after_iff.mpr (eq_i res_at (Term.int_eval (1)) rfl), trivial⟩ ⟨hq.1, hq.2.1, (hq.2.2.sift fun y hy => Or.inr (N y hy)).mono (by decide) (by decide)⟩⟩
theorem main_1_1 : Claimed_1_1 := comes_1 fun _ _ _ _ _ _ h hF => ⟨h.1, hF⟩
theorem main_1_2 : Claimed_1_2 := comes_1 fun _ _ _ _ _ _ h hF => ⟨h.2.1, hF⟩
end Jvm.Pilot.@@N@@
namespace Jvm.Pilot.@@N@@
open Jvm Jvm.ClassFile Sem Op Lib Jvm.Free Jvm.Stand Jvm.Pilot.@@N@@.Jvm.D
/-! MADE BY PROGRAM (witnessworld.py) out of the Statement's table words and the real class files: 11 classes; the members and pool entries that the words name. The judged class is class 1, her method 1. -/
namespace start1
open Jvm.ClassFile
def u (s : String) : CpInfo := .utf8 (stringToUtf16 s)
/-- a pool by its gaps: so many unusable entries, then the entry; so many at the end -/
def gap : Nat → List CpInfo → List CpInfo
  | 0, r => r
  | n + 1, r => .unusable :: gap n r
def poolList (es : List (Nat × CpInfo)) (last : Nat) : List CpInfo := es.foldr (fun e r => gap e.1 (e.2 :: r)) (gap last [])
def pool (es : List (Nat × CpInfo)) (last : Nat) : Array CpInfo := ⟨poolList es last⟩
def fileOf (pool : Array CpInfo) (this : Nat) (attrs : Array Attribute := #[]) (ms : Array MethodInfo := #[]) (fl : Nat := 33) (sup : Nat := 0) (ifs : Array Nat := #[]) (fds : Array FieldInfo := #[]) : ClassFile where
  minorVersion := 0
  majorVersion := 65
  constantPool := pool
  accessFlags := fl
  thisClass := this
  superClass := sup
  interfaces := ifs
  fields := fds
  methods := ms
  attributes := attrs
def plain (name : String) (sup : Option ClassId) : Class where
  name := name
  kind := .ordinary
  loader := none
  accessFlags := 33
  super := sup
  interfaces := #[]
  cf := none
  fields := #[]
  methods := #[]
  instanceTypes := #[]
  staticTypes := #[]
  resolved := #[]
  callSites := []
  init := .initialized
  statics := none
  mirror := none

def pool0 : Array CpInfo := pool [(5, u "<init>"), (0, u "()V"), (1, .class_ 10), (1, u "java/lang/Object")] 113

def k0m0 : Method := { name := "<init>", desc := "()V", sig := { parameters := [], returnType := none }, accessFlags := 1, code := none }
/-- java/lang/Object -/
def k0 : Class := { plain "java/lang/Object" none with
  accessFlags := 33
  interfaces := #[]
  cf := some (fileOf pool0 8 #[] #[{ accessFlags := 1, nameIndex := 5, descriptorIndex := 6, attributes := #[] }] 33 0 #[] #[])
  fields := #[]
  methods := #[k0m0]
  instanceTypes := #[]
  staticTypes := #[]
  resolved := Array.replicate 124 none
  statics := none }

def pool1 : Array CpInfo := pool [(2, .class_ 4), (1, u "java/lang/Object"), (0, u "<init>"), (0, u "()V"), (0, .integer 65535), (0, .methodref 9 10), (0, .class_ 11), (0, .nameAndType 12 13), (0, u "com/example/finegrain/finegrain/formats/CsvReader"), (0, u "isDelimiter"), (0, u "(C)Z"), (0, .class_ 15), (0, u "com/example/finegrain/finegrain/formats/CsvReaderIsDelimiterPinLaw"), (2, u "law"), (0, u "(I)Z")] 3

def k1m0 : Method := { name := "<init>", desc := "()V", sig := { parameters := [], returnType := none }, accessFlags := 1, code := none }
def k1c1 : Code := { maxStack := 2, maxLocals := 4, code := code, exceptionTable := #[], attributes := #[] }
def k1m1 : Method := { name := "law", desc := "(I)Z", sig := { parameters := [.int], returnType := some .boolean }, accessFlags := 9, code := some k1c1 }
/-- com/example/finegrain/finegrain/formats/CsvReaderIsDelimiterPinLaw -/
def k1 : Class := { plain "com/example/finegrain/finegrain/formats/CsvReaderIsDelimiterPinLaw" (some 0) with
  accessFlags := 49
  interfaces := #[]
  cf := some (fileOf pool1 14 #[] #[{ accessFlags := 1, nameIndex := 5, descriptorIndex := 6, attributes := #[] }, { accessFlags := 9, nameIndex := 18, descriptorIndex := 19, attributes := #[] }] 49 2 #[] #[])
  fields := #[]
  methods := #[k1m0, k1m1]
  instanceTypes := #[]
  staticTypes := #[]
  resolved := Array.replicate 23 none
  statics := none }

def pool2 : Array CpInfo := pool [(1, .class_ 2), (0, u "java/lang/AutoCloseable"), (0, .class_ 4), (0, u "java/lang/Object")] 7

/-- java/lang/AutoCloseable -/
def k2 : Class := { plain "java/lang/AutoCloseable" (some 0) with
  accessFlags := 1537
  interfaces := #[]
  cf := some (fileOf pool2 1 #[] #[] 1537 3 #[] #[])
  fields := #[]
  methods := #[]
  instanceTypes := #[]
  staticTypes := #[]
  resolved := Array.replicate 12 none
  statics := none }

def pool3 : Array CpInfo := pool [(1, .class_ 2), (0, u "java/io/Closeable"), (0, .class_ 4), (0, u "java/lang/Object"), (0, .class_ 6), (0, u "java/lang/AutoCloseable")] 7

/-- java/io/Closeable -/
def k3 : Class := { plain "java/io/Closeable" (some 0) with
  accessFlags := 1537
  interfaces := #[2]
  cf := some (fileOf pool3 1 #[] #[] 1537 3 #[5] #[])
  fields := #[]
  methods := #[]
  instanceTypes := #[]
  staticTypes := #[]
  resolved := Array.replicate 14 none
  statics := none }

def pool4 : Array CpInfo := pool [(1, .class_ 2), (0, u "com/example/finegrain/finegrain/formats/CsvReader"), (1, .class_ 6), (1, u "java/lang/Object"), (5, u "m_aBuffer"), (0, u "[B"), (2, u "m_aQuoted"), (4, u "m_aFields"), (0, u "[Ljava/lang/String;"), (2, u "isDelimiter"), (0, u "(C)Z"), (23, u "m_aText"), (0, u "Ljava/io/InputStream;"), (2, u "m_aDecoder"), (0, u "Ljava/nio/charset/CharsetDecoder;"), (2, u "m_nDelimiter"), (0, u "B"), (8, u "m_nHighestFieldEnd"), (2, u "m_nLinesRead"), (0, u "J"), (2, u "m_nPos"), (0, u "I"), (2, u "m_nLimit"), (18, u "m_nQuotedStop"), (4, .class_ 104), (0, u "com/example/finegrain/finegrain/formats/CsvReader$RecordTooLongException"), (6, u "m_nQuotedLines"), (2, u "m_nQuotedLength"), (12, u "m_bPlainAscii"), (0, u "Z"), (51, u "m_bEnded"), (0, .class_ 182), (0, u "com/example/finegrain/finegrain/formats/CsvReader$SyntaxException"), (42, .class_ 226), (0, u "java/io/Closeable"), (0, u "QUOTE"), (2, u "LF"), (1, u "CR"), (1, u "BUFFER_BYTES"), (0, u "MOST_RECORD_BYTES"), (0, u "MOST_BUFFER_BYTES")] 31

def k4c0 : Code := { maxStack := 2, maxLocals := 1, code := prog_48_method_2_code, exceptionTable := #[], attributes := #[] }
def k4m0 : Method := { name := "isDelimiter", desc := "(C)Z", sig := { parameters := [.char], returnType := some .boolean }, accessFlags := 8, code := some k4c0 }
/-- com/example/finegrain/finegrain/formats/CsvReader -/
def k4 : Class := { plain "com/example/finegrain/finegrain/formats/CsvReader" (some 0) with
  accessFlags := 48
  interfaces := #[3]
  cf := some (fileOf pool4 1 #[.nestMembers #[103, 181]] #[{ accessFlags := 8, nameIndex := 25, descriptorIndex := 26, attributes := #[] }] 48 4 #[225] #[{ accessFlags := 26, nameIndex := 227, descriptorIndex := 59, attributes := #[] }, { accessFlags := 26, nameIndex := 230, descriptorIndex := 59, attributes := #[] }, { accessFlags := 26, nameIndex := 232, descriptorIndex := 59, attributes := #[] }, { accessFlags := 26, nameIndex := 234, descriptorIndex := 76, attributes := #[] }, { accessFlags := 24, nameIndex := 235, descriptorIndex := 76, attributes := #[] }, { accessFlags := 26, nameIndex := 236, descriptorIndex := 76, attributes := #[] }, { accessFlags := 18, nameIndex := 50, descriptorIndex := 51, attributes := #[] }, { accessFlags := 18, nameIndex := 54, descriptorIndex := 55, attributes := #[] }, { accessFlags := 18, nameIndex := 58, descriptorIndex := 59, attributes := #[] }, { accessFlags := 18, nameIndex := 68, descriptorIndex := 59, attributes := #[] }, { accessFlags := 2, nameIndex := 12, descriptorIndex := 13, attributes := #[] }, { accessFlags := 2, nameIndex := 75, descriptorIndex := 76, attributes := #[] }, { accessFlags := 2, nameIndex := 79, descriptorIndex := 76, attributes := #[] }, { accessFlags := 2, nameIndex := 180, descriptorIndex := 128, attributes := #[] }, { accessFlags := 2, nameIndex := 71, descriptorIndex := 72, attributes := #[] }, { accessFlags := 2, nameIndex := 16, descriptorIndex := 13, attributes := #[] }, { accessFlags := 2, nameIndex := 114, descriptorIndex := 76, attributes := #[] }, { accessFlags := 2, nameIndex := 111, descriptorIndex := 72, attributes := #[] }, { accessFlags := 2, nameIndex := 98, descriptorIndex := 76, attributes := #[] }, { accessFlags := 2, nameIndex := 127, descriptorIndex := 128, attributes := #[] }, { accessFlags := 2, nameIndex := 21, descriptorIndex := 22, attributes := #[] }])
  fields := #[{ name := "QUOTE", type := .byte, accessFlags := 26, slot := 0, constantValue := 0 }, { name := "LF", type := .byte, accessFlags := 26, slot := 1, constantValue := 0 }, { name := "CR", type := .byte, accessFlags := 26, slot := 2, constantValue := 0 }, { name := "BUFFER_BYTES", type := .int, accessFlags := 26, slot := 3, constantValue := 0 }, { name := "MOST_RECORD_BYTES", type := .int, accessFlags := 24, slot := 4, constantValue := 0 }, { name := "MOST_BUFFER_BYTES", type := .int, accessFlags := 26, slot := 5, constantValue := 0 }, { name := "m_aText", type := (.object "java/io/InputStream"), accessFlags := 18, slot := 0, constantValue := 0 }, { name := "m_aDecoder", type := (.object "java/nio/charset/CharsetDecoder"), accessFlags := 18, slot := 1, constantValue := 0 }, { name := "m_nDelimiter", type := .byte, accessFlags := 18, slot := 2, constantValue := 0 }, { name := "m_nHighestFieldEnd", type := .byte, accessFlags := 18, slot := 3, constantValue := 0 }, { name := "m_aBuffer", type := (.array .byte), accessFlags := 2, slot := 4, constantValue := 0 }, { name := "m_nPos", type := .int, accessFlags := 2, slot := 5, constantValue := 0 }, { name := "m_nLimit", type := .int, accessFlags := 2, slot := 6, constantValue := 0 }, { name := "m_bEnded", type := .boolean, accessFlags := 2, slot := 7, constantValue := 0 }, { name := "m_nLinesRead", type := .long, accessFlags := 2, slot := 8, constantValue := 0 }, { name := "m_aQuoted", type := (.array .byte), accessFlags := 2, slot := 9, constantValue := 0 }, { name := "m_nQuotedLength", type := .int, accessFlags := 2, slot := 10, constantValue := 0 }, { name := "m_nQuotedLines", type := .long, accessFlags := 2, slot := 11, constantValue := 0 }, { name := "m_nQuotedStop", type := .int, accessFlags := 2, slot := 12, constantValue := 0 }, { name := "m_bPlainAscii", type := .boolean, accessFlags := 2, slot := 13, constantValue := 0 }, { name := "m_aFields", type := (.array (.object "java/lang/String")), accessFlags := 2, slot := 14, constantValue := 0 }]
  methods := #[k4m0]
  instanceTypes := #[(.object "java/io/InputStream"), (.object "java/nio/charset/CharsetDecoder"), .byte, .byte, (.array .byte), .int, .int, .boolean, .long, (.array .byte), .int, .long, .int, .boolean, (.array (.object "java/lang/String"))]
  staticTypes := #[.byte, .byte, .byte, .int, .int, .int]
  resolved := Array.replicate 268 none
  statics := none }

def pool5 : Array CpInfo := pool [(1, u "java/lang/Cloneable"), (0, .class_ 1), (0, u "java/lang/Object"), (0, .class_ 3)] 3

/-- java/lang/Cloneable -/
def k5 : Class := { plain "java/lang/Cloneable" (some 0) with
  accessFlags := 1537
  interfaces := #[]
  cf := some (fileOf pool5 2 #[] #[] 1537 4 #[] #[])
  fields := #[]
  methods := #[]
  instanceTypes := #[]
  staticTypes := #[]
  resolved := Array.replicate 8 none
  statics := none }

def pool6 : Array CpInfo := pool [(1, u "java/io/Serializable"), (0, .class_ 1), (0, u "java/lang/Object"), (0, .class_ 3)] 3

/-- java/io/Serializable -/
def k6 : Class := { plain "java/io/Serializable" (some 0) with
  accessFlags := 1537
  interfaces := #[]
  cf := some (fileOf pool6 2 #[] #[] 1537 4 #[] #[])
  fields := #[]
  methods := #[]
  instanceTypes := #[]
  staticTypes := #[]
  resolved := Array.replicate 8 none
  statics := none }

/-- the primitive byte -/
def k7 : Class := { plain "byte" none with kind := .primitive 'B', accessFlags := 0x411 }
/-- [B -/
def k8 : Class := { plain "[B" (some 0) with kind := .array 7 .byte, interfaces := #[5, 6], accessFlags := 1041 }

/-- the primitive int -/
def k9 : Class := { plain "int" none with kind := .primitive 'I', accessFlags := 0x411 }
/-- [I -/
def k10 : Class := { plain "[I" (some 0) with kind := .array 9 .int, interfaces := #[5, 6], accessFlags := 1041 }

def heap : Heap := #[]
def classes : Array Class := #[k0, k1, k2, k3, k4, k5, k6, k7, k8, k9, k10]
def interned : List (Array UInt16 × Addr) := []
def slotsUsed : Nat := 0
def theMethod : MethodId := ⟨1, 1⟩
def args0 : Array Value := #[.int 5]
def aboutOver (below : List Frame) : State where
  vm := { classes := classes, interned := interned.toArray }
  heap := heap
  slotsUsed := slotsUsed
  threads := #[{ frames := .invoking theMethod args0 :: below }]
def below0 : List Frame := [.native { method := ⟨0, 0⟩, args := #[] }]
def about1 : State := aboutOver below0
def p0 : Program := .bare "" "" ""
def e0 : Env := launch0.env 0 0 0
theorem w_frames : about1.frames = Frame.invoking theMethod args0 :: below0 := rfl
set_option maxRecDepth 65536 in
theorem w_args : argsFit about1.vm theMethod args0 = true := by decide +kernel
set_option maxRecDepth 65536 in
theorem w_heap : heapFits about1 = true := by decide +kernel
set_option maxRecDepth 65536 in
theorem w_runnable : about1.curStatus? = some .runnable := by decide +kernel
set_option maxRecDepth 65536 in
theorem w_alone : about1.alone = true := by decide +kernel
set_option maxRecDepth 65536 in
theorem w_named : about1.methodNamed? x = some theMethod := by decide +kernel
set_option maxRecDepth 65536 in
theorem w_hears : about1.hears theMethod below0 = true := by decide +kernel
set_option maxRecDepth 65536 in
theorem w_ripe : about1.ripe theMethod args0 below0 = true := by decide +kernel
theorem w_running : about1.status = .running := rfl
set_option maxRecDepth 65536 in
theorem w_room : about1.hasRoom e0.platform room_1 = true :=
  launch0.hasRoom_least _ room_1 (by decide +kernel) (by decide +kernel) (by decide +kernel) (by decide +kernel) (by decide +kernel) (by decide +kernel)
theorem allAtoms_all (ts : List Jvm.Cond) (a : Array Jvm.Value) (st : Jvm.State) : (allAtoms ts).before a st = ts.all (fun c => c.before a st) := by
  induction ts with
  | nil => rfl
  | cons c t ih =>
    show (Jvm.Cond.and c (allAtoms t)).before a st = _
    rw [Jvm.Cond.before_and, ih, List.all_cons]
def words1 : List Jvm.Cond := Jvm.Cond.code x code maxLocals ret :: tables_1
/-- a 'code' word, met by the world's own term for the bytes: nothing is compared byte by byte -/
theorem code_word {y : MethodName} {bytes : ByteArray} {mx : Nat} {rt : Option FieldType} {a : Array Value} {s : State} {m : MethodId} {meth : Method} {c : Code} (h1 : s.methodNamed? y = some m) (h2 : s.vm.method? m = some meth) (h3 : meth.code = some c) (h4 : c.code = bytes)
    (h5 : (c.maxLocals == mx && c.exceptionTable.isEmpty && decide (c.maxStack ≤ mostOperands) && decide (meth.sig.returnType = rt) && !meth.locks && decide (parseMethodDescriptor y.desc = some meth.sig)) = true) : (Jvm.Cond.code y bytes mx rt).before a s = true := by
  simp only [Bool.and_eq_true, beq_iff_eq, Bool.not_eq_true', decide_eq_true_eq] at h5
  obtain ⟨⟨⟨⟨⟨g1, g2⟩, g3⟩, g4⟩, g5⟩, g6⟩ := h5
  simp [Cond.before, Cond.holds, Cond.value, h1, h2, h3, h4, g1, g2, g3, g4, g5, g6]
def isCode : Jvm.Cond → Bool
  | .code _ _ _ _ => true
  | _ => false
theorem all_split {L : List Jvm.Cond} {P : Jvm.Cond → Bool} (h1 : L.all (fun c => isCode c || P c) = true) (h2 : ∀ c ∈ L.filter isCode, P c = true) : L.all P = true := by
  refine List.all_eq_true.mpr fun c hc => ?_
  have h := List.all_eq_true.mp h1 c hc
  rcases Bool.eq_false_or_eq_true (isCode c) with hi | hi
  · exact h2 c (List.mem_filter.mpr ⟨hc, hi⟩)
  · simpa [hi] using h
set_option maxRecDepth 65536 in
theorem w_c0 : (Jvm.Cond.code x code maxLocals ret).before args0 about1 = true := code_word (m := ⟨1, 1⟩) (meth := k1m1) (c := k1c1) (by decide +kernel) rfl rfl rfl (by decide +kernel)
set_option maxRecDepth 65536 in
theorem w_c1 : (Jvm.Cond.code ({ cls := "com/example/finegrain/finegrain/formats/CsvReader", name := "isDelimiter", desc := "(C)Z" } : Jvm.MethodName) prog_48_method_2_code (1 : Nat) (Option.some Jvm.ClassFile.FieldType.boolean)).before args0 about1 = true := code_word (m := ⟨4, 0⟩) (meth := k4m0) (c := k4c0) (by decide +kernel) rfl rfl rfl (by decide +kernel)
def codes1 : List Jvm.Cond := [Jvm.Cond.code x code maxLocals ret, Jvm.Cond.code ({ cls := "com/example/finegrain/finegrain/formats/CsvReader", name := "isDelimiter", desc := "(C)Z" } : Jvm.MethodName) prog_48_method_2_code (1 : Nat) (Option.some Jvm.ClassFile.FieldType.boolean)]
set_option maxRecDepth 65536 in
theorem codes_eq : words1.filter isCode = codes1 := rfl
theorem w_codes : ∀ c ∈ words1.filter isCode, c.before args0 about1 = true := by
  rw [codes_eq]
  intro c hc
  simp only [codes1, List.mem_cons, List.not_mem_nil, or_false] at hc
  rcases hc with rfl | rfl
  · exact w_c0
  · exact w_c1
set_option maxRecDepth 65536 in
theorem w_t1 : words1.all (fun c => isCode c || c.before args0 about1) = true := by decide +kernel
theorem w_tables : (allAtoms (Jvm.Cond.code x code maxLocals ret :: tables_1)).before args0 about1 = true := by
  rw [allAtoms_all]
  show words1.all (fun c => c.before args0 about1) = true
  refine all_split ?_ w_codes
  rw [w_t1]
set_option maxRecDepth 65536 in
theorem w_case : (Jvm.Cond.and given_1 narrow_1).before args0 about1 = true := by decide +kernel
theorem w_applies : (headSpec (Jvm.Cond.code x code maxLocals ret :: tables_1) room_1).applies x e0.platform about1 = true :=
  (Spec.applies_iff w_frames).mpr ⟨w_running, w_runnable, w_alone, w_named, w_hears, w_ripe, w_room, w_tables⟩
theorem atStart : AtStart classFile x code maxLocals ret World_1 tables_1 room_1 Calls_1 rest_1 Pre_1 launch0 p0 e0 about1 theMethod args0 below0 :=
  ⟨lists_1, trivial, launch0.admits_env _ _ _, launch0.least_env, fairChoices_fair.cas, fairChoices_fair.clock, w_frames, w_args, w_heap, w_applies, trivial, trivial, w_case⟩
end start1
theorem witness_1 : WitnessClaimed_1 := ⟨start1.p0, start1.e0, start1.about1, start1.theMethod, start1.args0, start1.below0, start1.atStart⟩
end Jvm.Pilot.@@N@@
