import JvmDerived
import JvmDerived.Pilot.@@N@@Statement
import JvmDerived.Pilot.@@N@@Code
set_option linter.unusedVariables false
set_option linter.unusedSimpArgs false
@@BLOCK:NumsL.lean.txt@@
namespace Jvm.RoadKit
open Sem ClassFile Op Lib Jvm.Stand Jvm.Free Jvm.LawKit
section Own
variable {p : Program} {l : Launch} {e : Env} {R : Room} {s : State} {m : MethodId} {args : Array Value} {below : List Frame} {meth : Method} {c : Code} {T : State} {locs : List Loc} {cells slots : Nat} {Z : State} {a0 : Array Value} {h : Heap}
/-- from the state F the walked method comes to its end, and Q holds there -/
def own_Out (p : Program) (e : Env) (below : List Frame) (Q : Outcome → State → Prop) (F : State) : Prop :=
  ∃ s₂ o, Steps p.tables e below F s₂ ∧ s₂.status = .running ∧ Ended s₂ below o ∧ Q o s₂
/-- what a contract says of the end, out of a statement on the value, the heap and the written places -/
def own_Q (Q : Option Value → Heap → List Loc → Prop) (s : State) (k n : Nat) : Outcome → State → Prop :=
  fun o U => ∃ v L, o = .returned v ∧ Q v U.heap L ∧ FrameEnd s o U L k n
theorem own_st {Q : Outcome → State → Prop} {F G : State} (h : ∀ t, Steps p.tables e below G t → Steps p.tables e below F t) (k : own_Out p e below Q G) : own_Out p e below Q F := by
  obtain ⟨s2, o, h1, h2⟩ := k
  exact ⟨s2, o, h _ h1, h2⟩
theorem own_tr {Q : Outcome → State → Prop} {F G : State} (h : Steps p.tables e below F G) (k : own_Out p e below Q G) : own_Out p e below Q F :=
  own_st (fun _ q => h.trans q) k
theorem own_retB (X : Stand p l e R s m args below meth c T locs cells slots) (hx : p.tables.exec = Jvm.exec) {Q : Option Value → Heap → List Loc → Prop} {k n : Nat} {pc : Nat} {Ls : Array Slot} {z : Int32} {t : FieldType} {rest : List Value}
    (hret : meth.sig.returnType = some t) (ht : t = .boolean ∨ t = .byte ∨ t = .char ∨ t = .short) (hlk : meth.locks = false) (hd : decode c.code pc = .ok (.ireturn, 1)) (hc : cells ≤ k) (hs : slots ≤ n)
    (hq : Q (some (.int (nar t z))) T.heap locs) : own_Out p e below (own_Q Q s k n) (T.setTop (mkF m pc Ls (.int z :: rest))) := by
  obtain ⟨fs, hr, hrun, hended, hW, hsame⟩ := X.leave (v := some (.int (nar t z))) (fun h => by rw [hret] at h; cases h) hlk
  exact ⟨_, _, retN X hx (t := t) hret ht hd hr, hrun, hended, _, _, rfl, hq, ⟨_, rfl⟩, hW, hsame.mono hc hs⟩
theorem own_retV (X : Stand p l e R s m args below meth c T locs cells slots) (hx : p.tables.exec = Jvm.exec) {Q : Option Value → Heap → List Loc → Prop} {k n : Nat} {pc : Nat} {Ls : Array Slot} {w : Value} {t : FieldType} {i : Instr} {rest : List Value}
    (hret : meth.sig.returnType = some t) (hn : narrow t w = w)
    (hi : (i = .ireturn ∧ (t = .int ∨ t = .boolean ∨ t = .byte ∨ t = .char ∨ t = .short) ∧ ∃ z, w = .int z) ∨ (i = .lreturn ∧ t = .long ∧ ∃ z, w = .long z) ∨ (i = .dreturn ∧ t = .double ∧ ∃ z, w = .double z) ∨ (i = .freturn ∧ t = .float ∧ ∃ z, w = .float z) ∨ (i = .areturn ∧ t.isReference = true ∧ w.isRef = true))
    (hlk : meth.locks = false) (hd : decode c.code pc = .ok (i, 1)) (hc : cells ≤ k) (hs : slots ≤ n)
    (hq : Q (some w) T.heap locs) : own_Out p e below (own_Q Q s k n) (T.setTop (mkF m pc Ls (w :: rest))) := by
  obtain ⟨fs, hr, hrun, hended, hW, hsame⟩ := X.leave (v := some w) (fun h => by rw [hret] at h; cases h) hlk
  exact ⟨_, _, retOut X hx hret hn hi hd hr, hrun, hended, _, _, rfl, hq, ⟨_, rfl⟩, hW, hsame.mono hc hs⟩
theorem own_retI (X : Stand p l e R s m args below meth c T locs cells slots) (hx : p.tables.exec = Jvm.exec) {Q : Option Value → Heap → List Loc → Prop} {k n : Nat} {pc : Nat} {Ls : Array Slot} {z : Int32} {rest : List Value}
    (hret : meth.sig.returnType = some .int) (hlk : meth.locks = false) (hd : decode c.code pc = .ok (.ireturn, 1)) (hc : cells ≤ k) (hs : slots ≤ n)
    (hq : Q (some (.int z)) T.heap locs) : own_Out p e below (own_Q Q s k n) (T.setTop (mkF m pc Ls (.int z :: rest))) :=
  own_retV X hx hret rfl (Or.inl ⟨rfl, Or.inl rfl, _, rfl⟩) hlk hd hc hs hq
theorem own_retJ (X : Stand p l e R s m args below meth c T locs cells slots) (hx : p.tables.exec = Jvm.exec) {Q : Option Value → Heap → List Loc → Prop} {k n : Nat} {pc : Nat} {Ls : Array Slot} {z : Int64} {rest : List Value}
    (hret : meth.sig.returnType = some .long) (hlk : meth.locks = false) (hd : decode c.code pc = .ok (.lreturn, 1)) (hc : cells ≤ k) (hs : slots ≤ n)
    (hq : Q (some (.long z)) T.heap locs) : own_Out p e below (own_Q Q s k n) (T.setTop (mkF m pc Ls (.long z :: rest))) :=
  own_retV X hx hret rfl (Or.inr (Or.inl ⟨rfl, rfl, _, rfl⟩)) hlk hd hc hs hq
theorem own_retA (X : Stand p l e R s m args below meth c T locs cells slots) (hx : p.tables.exec = Jvm.exec) {Q : Option Value → Heap → List Loc → Prop} {k n : Nat} {pc : Nat} {Ls : Array Slot} {w : Value} {t : FieldType} {rest : List Value}
    (hret : meth.sig.returnType = some t) (ht : t.isReference = true) (hw : w.isRef = true) (hlk : meth.locks = false) (hd : decode c.code pc = .ok (.areturn, 1)) (hc : cells ≤ k) (hs : slots ≤ n)
    (hq : Q (some w) T.heap locs) : own_Out p e below (own_Q Q s k n) (T.setTop (mkF m pc Ls (w :: rest))) :=
  own_retV X hx hret (by cases t <;> first | (cases ht; done) | rfl | (cases w <;> rfl)) (Or.inr (Or.inr (Or.inr (Or.inr ⟨rfl, ht, hw⟩)))) hlk hd hc hs hq
theorem own_ret0 (X : Stand p l e R s m args below meth c T locs cells slots) (hx : p.tables.exec = Jvm.exec) {Q : Option Value → Heap → List Loc → Prop} {k n : Nat} {pc : Nat} {Ls : Array Slot}
    (hret : meth.sig.returnType = none) (hlk : meth.locks = false) (hd : decode c.code pc = .ok (.return_, 1)) (hc : cells ≤ k) (hs : slots ≤ n)
    (hq : Q none T.heap locs) : own_Out p e below (own_Q Q s k n) (T.setTop (mkF m pc Ls [])) := by
  obtain ⟨fs, hr, hrun, hended, hW, hsame⟩ := X.leave (v := none) (fun _ => rfl) hlk
  exact ⟨_, _, X.returnOut hx hret hd hr, hrun, hended, _, _, rfl, hq, ⟨_, rfl⟩, hW, hsame.mono hc hs⟩
/-- the head of every body's walk -/
theorem own_body {x : MethodName} {code : ByteArray} {maxL : Nat} {ret : Option FieldType} {ws : List Jvm.Cond} {rm : Room} {as' : Array Value} {Q : Option Value → Heap → List Loc → Prop} (hpn : plainName x.cls = true) (Lf : Array Slot)
    (hent : ∀ m, entryFrame m as' maxL = mkF m 0 Lf [])
    (body : ∀ p e s m below meth c T, Stand p l e rm s m as' below meth c T [] 0 0 → p.tables.exec = Jvm.exec → c.code = code → c.maxLocals = maxL → meth.sig.returnType = ret → meth.locks = false →
      s.vm.findClass x.cls = some m.cls → meth.name = x.name → Z.Warmed39 s.vm → T.heap = h → own_Out p e below (own_Q Q s rm.cells rm.slots) (T.setTop (mkF m 0 Lf []))) :
    MetFree l x (head1 (Jvm.Cond.code x code maxL ret :: ws) rm) (fun a U => a = as' ∧ Z.Warmed39 U.vm ∧ U.heap = h) (fun _ _ _ _ _ => True)
      (fun _ U o U' => ∃ v L, o = .returned v ∧ Q v U'.heap L ∧ FrameEnd U o U' L rm.cells rm.slots) := by
  refine MetFree.of_bodySF (plainFor_of_name hpn) hisR ?_
  intro p e s m args below meth c s₁ Bd hml0 hP hK
  obtain ⟨rfl, hZ, hh⟩ := hP
  have e0 : s₁.heap = h := by rw [← hh, Bd.state]; rfl
  obtain ⟨s2, o, h1, h2⟩ := body p e s m below meth c s₁ (Stand.of_body Bd) Bd.exec Bd.bytes hml0 Bd.returns (BodyLoose.notSynchronized Bd) (findClass_of_methodNamed Bd.named) (name_of_methodNamed Bd.named Bd.method).1 hZ e0
  exact ⟨s2, o, castTop (hent m) h1, h2⟩
/-- a static call by the callee's own contract -/
theorem own_callS (X : Stand p l e R s m args below meth c T locs cells slots) (hx : p.tables.exec = Jvm.exec) (hZ : Z.Warmed39 s.vm) {own : String} {index : Nat} {y : MethodName} {bytes : ByteArray} {maxL : Nat} {ret : Option FieldType} {rm : Room} {as' : List Value} {Q : Option Value → Heap → List Loc → Prop} {Qf : Outcome → State → Prop}
    (hown : s.vm.findClass own = some m.cls) (w1 : (Jvm.Cond.methodLink own index y).before a0 Z = true) (w2 : (Jvm.Cond.static y).before a0 Z = true) (w3 : (Jvm.Cond.initialized y.cls).before a0 Z = true) (w4 : (Jvm.Cond.code y bytes maxL ret).before a0 Z = true)
    (hy : y.cls ≠ "java/lang/invoke/MethodHandle" ∧ y.cls ≠ "java/lang/invoke/VarHandle")
    (hM : MetFree l y (head1 [Jvm.Cond.code y bytes maxL ret] rm) (fun a U => a = as'.toArray ∧ Z.Warmed39 U.vm ∧ U.heap = h) (fun _ _ _ _ _ => True) (fun _ U o U' => ∃ v L, o = .returned v ∧ Q v U'.heap L ∧ FrameEnd U o U' L rm.cells rm.slots))
    (W : Nat) (hf : rm.frames + 1 ≤ R.frames) (hl : W + (maxL + 11) + rm.locals ≤ R.locals) (hc : cells + rm.cells ≤ R.cells) (hs : slots + rm.slots ≤ R.slots)
    {pc : Nat} {Ls : Array Slot} {stk rest : List Value} (hsize : Ls.size = c.maxLocals) (hlen : ∀ sig, parseMethodDescriptor y.desc = some sig → as'.length = sig.parameters.length) (hstack : stk = as'.reverse ++ rest) (hW : (rest.map fun v => v.category).sum ≤ W) (hd : decode c.code pc = .ok (.invokestatic index, 3)) (eT : T.heap = h)
    (k : ∀ T' L v, Stand p l e R s m args below meth c T' (locs ++ L) (cells + rm.cells) (slots + rm.slots) → Q v T'.heap L → own_Out p e below Qf (T'.setTop (mkF m (pc + 3) Ls (v.toList ++ rest)))) :
    own_Out p e below Qf (T.setTop (mkF m pc Ls stk)) := by
  obtain ⟨v, _, ⟨T', L', k', n'⟩, -, X', ⟨Lc, hQ, hl', hy', hz'⟩, st⟩ := Jvm.LawKit.callS X hx (y := y) hown (mvT hZ w1) (mvT hZ w2) (mvT hZ w3) (mvT hZ w4) hy (backOf (W := W) hM hZ w4 w3 hf hl) (g := mkF m pc Ls stk) rfl hsize (argsL := as') (rest := rest) hlen hstack (by show 2 * 0 + _ ≤ _; omega) hd (fun _ _ => ⟨rfl, eT, hc, hs⟩)
  dsimp only [Pt.U, Pt.locs, Pt.cells, Pt.slots] at X' hl' hy' hz' st hQ
  subst hl' hy' hz'
  exact own_st st (k _ _ _ X' hQ)
/-- an instance method by its own contract -/
theorem own_callV (X : Stand p l e R s m args below meth c T locs cells slots) (hx : p.tables.exec = Jvm.exec) (hZ : Z.Warmed39 s.vm) {own C : String} {index : Nat} {y : MethodName} {bytes : ByteArray} {maxL : Nat} {ret : Option FieldType} {rm : Room} {b : Addr} {as' : List Value} {Q : Option Value → Heap → List Loc → Prop} {Qf : Outcome → State → Prop}
    (hown : s.vm.findClass own = some m.cls) (w1 : (Jvm.Cond.methodLink own index y).before a0 Z = true) (w2 : (Jvm.Cond.declares y).before a0 Z = true) (w5 : (Jvm.Cond.selects C y y).before a0 Z = true) (w6 : (Jvm.Cond.instanceMethod y).before a0 Z = true) (w4 : (Jvm.Cond.code y bytes maxL ret).before a0 Z = true) (w3 : (Jvm.Cond.initialized y.cls).before a0 Z = true)
    (hy : y.cls ≠ "java/lang/invoke/MethodHandle" ∧ y.cls ≠ "java/lang/invoke/VarHandle")
    (hM : MetFree l y (head1 [Jvm.Cond.code y bytes maxL ret] rm) (fun a U => a = (.ref b :: as').toArray ∧ Z.Warmed39 U.vm ∧ U.heap = h) (fun _ _ _ _ _ => True) (fun _ U o U' => ∃ v L, o = .returned v ∧ Q v U'.heap L ∧ FrameEnd U o U' L rm.cells rm.slots))
    (E : Exa Z h b C)
    (W : Nat) (hf : rm.frames + 1 ≤ R.frames) (hl : W + (maxL + 11) + rm.locals ≤ R.locals) (hc : cells + rm.cells ≤ R.cells) (hs : slots + rm.slots ≤ R.slots)
    {pc : Nat} {Ls : Array Slot} {stk rest : List Value} (hsize : Ls.size = c.maxLocals) (hlen : ∀ sig, parseMethodDescriptor y.desc = some sig → as'.length = sig.parameters.length) (hstack : stk = as'.reverse ++ .ref b :: rest) (hW : (rest.map fun v => v.category).sum ≤ W) (hd : decode c.code pc = .ok (.invokevirtual index, 3)) (eT : T.heap = h)
    (k : ∀ T' L v, Stand p l e R s m args below meth c T' (locs ++ L) (cells + rm.cells) (slots + rm.slots) → Q v T'.heap L → own_Out p e below Qf (T'.setTop (mkF m (pc + 3) Ls (v.toList ++ rest)))) :
    own_Out p e below Qf (T.setTop (mkF m pc Ls stk)) := by
  obtain ⟨cq, kq, qa, qb, qc⟩ := isOf hZ eT E
  obtain ⟨v, _, ⟨T', L', k', n'⟩, -, X', ⟨Lc, hQ, hl', hy', hz'⟩, st⟩ := X.virtualBack hx (y := y) (z := y) hown (mvT hZ w1) (mvT hZ w2) (notFace_of_selects (args := #[]) (mvT hZ w5)) (mvT hZ w5) (mvT hZ w6) hy (backOf (W := W) hM hZ w4 w3 hf hl) qa qc (g := mkF m pc Ls stk) rfl hsize (Steps.refl _) (argsL := as') (rest := rest) hlen hstack (by show 2 * 0 + _ ≤ _; omega) hd (fun _ _ => ⟨rfl, eT, hc, hs⟩)
  dsimp only [Pt.U, Pt.locs, Pt.cells, Pt.slots] at X' hl' hy' hz' st hQ
  subst hl' hy' hz'
  exact own_tr st (k _ _ _ X' hQ)
/-- a constructor by its own contract -/
theorem own_callI (X : Stand p l e R s m args below meth c T locs cells slots) (hx : p.tables.exec = Jvm.exec) (hZ : Z.Warmed39 s.vm) {own : String} {index : Nat} {y : MethodName} {bytes : ByteArray} {maxL : Nat} {rm : Room} {b : Addr} {as' : List Value} {Q : Option Value → Heap → List Loc → Prop} {Qf : Outcome → State → Prop} (hy1 : y.name = "<init>")
    (hown : s.vm.findClass own = some m.cls) (w1 : (Jvm.Cond.methodLink own index y).before a0 Z = true) (w6 : (Jvm.Cond.instanceMethod y).before a0 Z = true) (w4 : (Jvm.Cond.code y bytes maxL none).before a0 Z = true) (w3 : (Jvm.Cond.initialized y.cls).before a0 Z = true)
    (hy : y.cls ≠ "java/lang/invoke/MethodHandle" ∧ y.cls ≠ "java/lang/invoke/VarHandle")
    (hM : MetFree l y (head1 [Jvm.Cond.code y bytes maxL none] rm) (fun a U => a = (.ref b :: as').toArray ∧ Z.Warmed39 U.vm ∧ U.heap = h) (fun _ _ _ _ _ => True) (fun _ U o U' => ∃ v L, o = .returned v ∧ Q v U'.heap L ∧ FrameEnd U o U' L rm.cells rm.slots))
    (W : Nat) (hf : rm.frames + 1 ≤ R.frames) (hl : W + (maxL + 11) + rm.locals ≤ R.locals) (hc : cells + rm.cells ≤ R.cells) (hs : slots + rm.slots ≤ R.slots)
    {pc : Nat} {Ls : Array Slot} {stk rest : List Value} (hsize : Ls.size = c.maxLocals) (hlen : ∀ sig, parseMethodDescriptor y.desc = some sig → as'.length = sig.parameters.length) (hstack : stk = as'.reverse ++ .ref b :: rest) (hW : (rest.map fun v => v.category).sum ≤ W) (hd : decode c.code pc = .ok (.invokespecial index, 3)) (eT : T.heap = h)
    (k : ∀ T' L v, Stand p l e R s m args below meth c T' (locs ++ L) (cells + rm.cells) (slots + rm.slots) → Q v T'.heap L → own_Out p e below Qf (T'.setTop (mkF m (pc + 3) Ls (v.toList ++ rest)))) :
    own_Out p e below Qf (T.setTop (mkF m pc Ls stk)) := by
  obtain ⟨v, _, ⟨T', L', k', n'⟩, -, X', ⟨Lc, hQ, hl', hy', hz'⟩, st⟩ := X.specialBack hx (y := y) hy1 hown (mvT hZ w1) (mvT hZ w6) (mvT hZ w4) hy (backOf (W := W) hM hZ w4 w3 hf hl) (g := mkF m pc Ls stk) rfl hsize (Steps.refl _) (a := b) (argsL := as') (rest := rest) hlen hstack (by show 2 * 0 + _ ≤ _; omega) hd (fun _ _ => ⟨rfl, eT, hc, hs⟩)
  dsimp only [Pt.U, Pt.locs, Pt.cells, Pt.slots] at X' hl' hy' hz' st hQ
  subst hl' hy' hz'
  exact own_tr st (k _ _ _ X' hQ)
theorem own_fits {C : String} {v : Value} (h : v.isRef = true) : fits (.object C) v = true := by cases v <;> first | rfl | cases h
theorem own_narO {C : String} {v : Value} (h : v.isRef = true) : narrow (.object C) v = v := by cases v <;> first | rfl | cases h
theorem own_nf {y y' : MethodName} (hc : y'.cls = y.cls) (h : NotFace s y) (hi : (Jvm.Cond.instanceMethod y).before a0 s = true) : NotFace s y' := fun r0 h0 => by
  obtain ⟨mk, methM, hnamed, -⟩ := Cond.instanceMethod_spec hi
  have h1 := findClass_of_methodNamed hnamed
  have h2 := findClass_of_methodNamed h0
  rw [hc, h1] at h2
  have h3 := Option.some.inj h2
  rw [← h3]
  exact h mk hnamed
/-- a private method (invokevirtual) by its own contract -/
theorem own_callP (X : Stand p l e R s m args below meth c T locs cells slots) (hx : p.tables.exec = Jvm.exec) (hZ : Z.Warmed39 s.vm) {own C : String} {index : Nat} {y : MethodName} {bytes : ByteArray} {maxL : Nat} {ret : Option FieldType} {rm : Room} {b : Addr} {as' : List Value} {Q : Option Value → Heap → List Loc → Prop} {Qf : Outcome → State → Prop}
    (hown : s.vm.findClass own = some m.cls) (w1 : (Jvm.Cond.methodLink own index y).before a0 Z = true) (w6 : (Jvm.Cond.instanceMethod y).before a0 Z = true) (w8 : (Jvm.Cond.privateMethod y).before a0 Z = true) (w4 : (Jvm.Cond.code y bytes maxL ret).before a0 Z = true) (w3 : (Jvm.Cond.initialized y.cls).before a0 Z = true) (hnf : NotFace s y)
    (hy : y.cls ≠ "java/lang/invoke/MethodHandle" ∧ y.cls ≠ "java/lang/invoke/VarHandle")
    (hM : MetFree l y (head1 [Jvm.Cond.code y bytes maxL ret] rm) (fun a U => a = (.ref b :: as').toArray ∧ Z.Warmed39 U.vm ∧ U.heap = h) (fun _ _ _ _ _ => True) (fun _ U o U' => ∃ v L, o = .returned v ∧ Q v U'.heap L ∧ FrameEnd U o U' L rm.cells rm.slots))
    (E : Exa Z h b C)
    (W : Nat) (hf : rm.frames + 1 ≤ R.frames) (hl : W + (maxL + 11) + rm.locals ≤ R.locals) (hc : cells + rm.cells ≤ R.cells) (hs : slots + rm.slots ≤ R.slots)
    {pc : Nat} {Ls : Array Slot} {stk rest : List Value} (hsize : Ls.size = c.maxLocals) (hlen : ∀ sig, parseMethodDescriptor y.desc = some sig → as'.length = sig.parameters.length) (hstack : stk = as'.reverse ++ .ref b :: rest) (hW : (rest.map fun v => v.category).sum ≤ W) (hd : decode c.code pc = .ok (.invokevirtual index, 3)) (eT : T.heap = h)
    (k : ∀ T' L v, Stand p l e R s m args below meth c T' (locs ++ L) (cells + rm.cells) (slots + rm.slots) → Q v T'.heap L → own_Out p e below Qf (T'.setTop (mkF m (pc + 3) Ls (v.toList ++ rest)))) :
    own_Out p e below Qf (T.setTop (mkF m pc Ls stk)) := by
  obtain ⟨mk, methM, hnamed, hmethM, hstM, habM⟩ := Cond.instanceMethod_spec (mvT (args := args) hZ w6)
  obtain ⟨methM', cM, hmethM', -, -, -, -, -, -, hsigM⟩ := Cond.code_spec hnamed (mvT (args := args) hZ w4)
  cases hmethM.symm.trans hmethM'
  obtain ⟨kP, hkP, hkPi⟩ := hnf mk hnamed
  obtain ⟨cell, hcell, hobj⟩ := E.cell
  have hselP : selectMethod e.platform s.vm cell.cls mk = .method mk := selectMethod_private hmethM (Cond.privateMethod_at (mvP hZ w8 (args := #[])) mk methM hnamed hmethM)
  obtain ⟨vm₁, X₁, hstep₁⟩ := X.invokevirtual hx hown (mvT hZ w1) hnamed hmethM hstM hkP hkPi hy (a := b) (cell := cell) (by rw [eT]; exact hcell) hobj hselP hmethM habM hkP hkPi (g := mkF m pc Ls stk) rfl (argsL := as') (rest := rest) (hlen _ hsigM) hstack hd
  obtain ⟨v, ⟨T', L', k', n'⟩, X', ⟨Lc, hQ, hl', hy', hz'⟩, st⟩ := backOf (W := W) hM hZ w4 w3 hf hl m meth c ⟨T.setVm vm₁, locs, cells, slots⟩ { mkF m pc Ls stk with stack := rest } (.invokevirtual index) mk (.ref b :: as').toArray X₁ rfl hsize hd (by show 2 * 0 + (rest.map fun v => v.category).sum ≤ W; omega) (X₁.named hnamed) ⟨rfl, eT, hc, hs⟩
  dsimp only [Pt.U, Pt.locs, Pt.cells, Pt.slots] at X' hl' hy' hz' st hQ
  subst hl' hy' hz'
  exact own_st (fun target q => hstep₁ _ fun acts => by rw [doInvoke_state]; exact st.trans q) (k _ _ _ X' hQ)
end Own
end Jvm.RoadKit
namespace Jvm.Pilot.@@N@@
open Jvm Jvm.ClassFile Sem Op Lib Jvm.Free Jvm.Stand Jvm.LawKit Jvm.RoadKit Bundle Jvm.Pilot.@@N@@.Jvm.D
theorem own_w {Z : State} {a0 : Array Value} (hw : ∀ d ∈ tables_1, d.before a0 Z = true) {d : Jvm.Cond} (k : Nat) (h : tables_1[k]? = some d) : d.before a0 Z = true := hw _ (List.mem_of_getElem? h)
theorem own_eqi {args : Array Value} {s : State} {t : Term} {C n d : String} {k : Int32} {a : Addr} (h : (Jvm.Cond.eq (Jvm.Term.field t C n d) (Jvm.Term.int k)).value args s none s [] = some true) (ht : t.eval args s none [] s = some (.ref a)) : s.fieldOf? a C n d = some (.int k) := by
  obtain ⟨x, y, h1, h2, k1, k2⟩ := cmp_v (Or.inl h)
  obtain rfl : y = .int k := (Option.some.inj h2).symm
  obtain ⟨z, rfl⟩ := k2
  have hz := gotT (Cond.eq_ints h1 (Term.int_eval k)) h
  subst hz
  rw [← fld_at ht]
  exact h1
theorem own_fne {Z : State} {h : Heap} {a b : Addr} {C n d : String} {x y : Int32} (F : Fld Z h a C n d (.int x)) (G : Fld Z h b C n d (.int y)) (hn : x ≠ y) : a ≠ b := fun e => by
  subst e
  obtain ⟨c1, _, _, _, f1, h1, h2, -, -, -, -, h3⟩ := F
  obtain ⟨c2, _, _, _, f2, g1, g2, -, -, -, -, g3⟩ := G
  cases h1.symm.trans g1
  cases h2.symm.trans g2
  cases h3.symm.trans g3
  exact hn rfl
def own_cnt (mm : Int32) (x : Int64) : Int64 := if ((9223372036854775807 : Int64) / ((1440 : Int32) / mm).toInt64) < x then (9223372036854775807 : Int64) else (x * ((1440 : Int32) / mm).toInt64)
theorem pn_own_rm1 : plainName "com/example/finegrain/finegrain/FineUnit" = true := by first | (simp [plainName, overriddenIn]; done) | decide +kernel
theorem down_rm1_0 : decode prog_13_method_13_code 0 = .ok (.sipush 1440, 3) := by decide +kernel
theorem down_rm1_3 : decode prog_13_method_13_code 3 = .ok (.aload_n 0, 1) := by decide +kernel
theorem down_rm1_4 : decode prog_13_method_13_code 4 = .ok (.getfield 58, 3) := by decide +kernel
theorem down_rm1_7 : decode prog_13_method_13_code 7 = .ok (.idiv, 1) := by decide +kernel
theorem down_rm1_8 : decode prog_13_method_13_code 8 = .ok (.i2l, 1) := by decide +kernel
theorem down_rm1_9 : decode prog_13_method_13_code 9 = .ok (.lstore_n 3, 1) := by decide +kernel
theorem down_rm1_10 : decode prog_13_method_13_code 10 = .ok (.lload_n 1, 1) := by decide +kernel
theorem down_rm1_11 : decode prog_13_method_13_code 11 = .ok (.ldc2_w 134, 3) := by decide +kernel
theorem down_rm1_14 : decode prog_13_method_13_code 14 = .ok (.lload_n 3, 1) := by decide +kernel
theorem down_rm1_15 : decode prog_13_method_13_code 15 = .ok (.ldiv, 1) := by decide +kernel
theorem down_rm1_16 : decode prog_13_method_13_code 16 = .ok (.lcmp, 1) := by decide +kernel
theorem down_rm1_17 : decode prog_13_method_13_code 17 = .ok (.ifCond .le 9, 3) := by decide +kernel
theorem down_rm1_20 : decode prog_13_method_13_code 20 = .ok (.ldc2_w 134, 3) := by decide +kernel
theorem down_rm1_23 : decode prog_13_method_13_code 23 = .ok (.goto 6, 3) := by decide +kernel
theorem down_rm1_26 : decode prog_13_method_13_code 26 = .ok (.lload_n 1, 1) := by decide +kernel
theorem down_rm1_27 : decode prog_13_method_13_code 27 = .ok (.lload_n 3, 1) := by decide +kernel
theorem down_rm1_28 : decode prog_13_method_13_code 28 = .ok (.lmul, 1) := by decide +kernel
theorem down_rm1_29 : decode prog_13_method_13_code 29 = .ok (.lreturn, 1) := by decide +kernel
def Q_own_rm1 (Z : State) (x : Int64) (a : Addr) (mm : Int32) (h0 : Heap) (n0 : Nat) (v : Option Value) (h : Heap) (L : List Loc) : Prop := v = some (.long (own_cnt mm x)) ∧ L = [] ∧ h = h0
set_option maxRecDepth 65536 in
set_option maxHeartbeats 40000000 in
theorem own_rm1 (l : Launch) (Z : State) (a0 : Array Value) (hw : ∀ d ∈ tables_1, d.before a0 Z = true) (ws : List Jvm.Cond) (x : Int64) (a : Addr) (mm : Int32) (h0 : Heap) (n0 : Nat) (F : Fld Z h0 a "com/example/finegrain/finegrain/FineUnit" "m_nMinutes" "I" (.int mm)) (hm : mm ≠ 0) (hp : ((1440 : Int32) / mm).toInt64 ≠ 0) :
    MetFree l (⟨"com/example/finegrain/finegrain/FineUnit", "countInDays", "(J)J"⟩ : MethodName) (head1 (Jvm.Cond.code (⟨"com/example/finegrain/finegrain/FineUnit", "countInDays", "(J)J"⟩ : MethodName) prog_13_method_13_code 5 (some (.long)) :: ws) ({ frames := 0, cells := 0, slots := 0, locals := 0 } : Room)) (fun aa U => aa = #[(.ref a), (.long x)] ∧ Z.Warmed39 U.vm ∧ U.heap = h0) (fun _ _ _ _ _ => True) (fun _ U o U' => ∃ v L, o = .returned v ∧ Q_own_rm1 Z x a mm h0 n0 v U'.heap L ∧ FrameEnd U o U' L ({ frames := 0, cells := 0, slots := 0, locals := 0 } : Room).cells ({ frames := 0, cells := 0, slots := 0, locals := 0 } : Room).slots) := by
  refine own_body (x := (⟨"com/example/finegrain/finegrain/FineUnit", "countInDays", "(J)J"⟩ : MethodName)) (maxL := 5) (as' := #[(.ref a), (.long x)]) (Q := Q_own_rm1 Z x a mm h0 n0) pn_own_rm1 #[.val (.ref a), .val (.long x), .second, .unset, .unset] (fun m => by first | rfl | (simp [entryFrame, mkF, argsToLocals, Value.category]; done)) ?_
  intro p e s m below meth c T0 X0 hx hby hml hret hlk hown hnm hZ e0
  replace hml : c.maxLocals = 5 := hml
  replace hown : s.vm.findClass "com/example/finegrain/finegrain/FineUnit" = some m.cls := hown
  have N0 := Fr.nil n0
  refine own_st (G := T0.setTop (mkF m 3 #[.val (.ref a), .val (.long x), .second, .unset, .unset] [(.int (1440 : Int32))])) (fun _ kk => XT.sipushV X0.here hx rfl (1440 : Int32) (hb hby down_rm1_0) (by decide) kk) ?_
  refine own_st (G := T0.setTop (mkF m 4 #[.val (.ref a), .val (.long x), .second, .unset, .unset] [(.ref a), (.int (1440 : Int32))])) (fun _ kk => XS.aloadN X0.here hx rfl (hb hby down_rm1_3) rfl rfl kk) ?_
  obtain ⟨T1, X2, e3, st4⟩ := getF X0 hx hZ hown (host := "") (Or.inl (own_w hw 12 rfl)) Via.refl e0 F (g := (mkF m 4 #[.val (.ref a), .val (.long x), .second, .unset, .unset] [(.ref a), (.int (1440 : Int32))])) rfl rfl (hb hby down_rm1_4)
  refine own_st st4 ?_
  show own_Out _ _ _ _ (T1.setTop (mkF m 7 #[.val (.ref a), .val (.long x), .second, .unset, .unset] [(.int mm), (.int (1440 : Int32))]))
  refine own_st (G := T1.setTop (mkF m 8 #[.val (.ref a), .val (.long x), .second, .unset, .unset] [(.int ((1440 : Int32) / mm))])) (fun _ kk => XS.idiv X2.here hx rfl (hb hby down_rm1_7) rfl hm kk) ?_
  refine own_st (G := T1.setTop (mkF m 9 #[.val (.ref a), .val (.long x), .second, .unset, .unset] [(.long ((1440 : Int32) / mm).toInt64)])) (fun _ kk => XS.i2l X2.here hx rfl (hb hby down_rm1_8) rfl kk) ?_
  refine own_st (G := T1.setTop (mkF m 10 #[.val (.ref a), .val (.long x), .second, .val (.long ((1440 : Int32) / mm).toInt64), .second] [])) (fun _ kk => XS.lstoreN X2.here hx rfl (hb hby down_rm1_9) rfl (l' := #[.val (.ref a), .val (.long x), .second, .val (.long ((1440 : Int32) / mm).toInt64), .second]) rfl kk) ?_
  refine own_st (G := T1.setTop (mkF m 11 #[.val (.ref a), .val (.long x), .second, .val (.long ((1440 : Int32) / mm).toInt64), .second] [(.long x)])) (fun _ kk => XS.lloadN X2.here hx rfl (hb hby down_rm1_10) rfl kk) ?_
  refine own_st (G := T1.setTop (mkF m 14 #[.val (.ref a), .val (.long x), .second, .val (.long ((1440 : Int32) / mm).toInt64), .second] [(.long (9223372036854775807 : Int64)), (.long x)])) (fun _ kk => X2.ldc2Long hx hown (mvT hZ (own_w hw 14 rfl)) (g := (mkF m 11 #[.val (.ref a), .val (.long x), .second, .val (.long ((1440 : Int32) / mm).toInt64), .second] [(.long x)])) rfl (hb hby down_rm1_11) _ kk) ?_
  refine own_st (G := T1.setTop (mkF m 15 #[.val (.ref a), .val (.long x), .second, .val (.long ((1440 : Int32) / mm).toInt64), .second] [(.long ((1440 : Int32) / mm).toInt64), (.long (9223372036854775807 : Int64)), (.long x)])) (fun _ kk => XS.lloadN X2.here hx rfl (hb hby down_rm1_14) rfl kk) ?_
  refine own_st (G := T1.setTop (mkF m 16 #[.val (.ref a), .val (.long x), .second, .val (.long ((1440 : Int32) / mm).toInt64), .second] [(.long ((9223372036854775807 : Int64) / ((1440 : Int32) / mm).toInt64)), (.long x)])) (fun _ kk => XS.ldiv X2.here hx rfl (hb hby down_rm1_15) rfl hp kk) ?_
  refine own_st (G := T1.setTop (mkF m 17 #[.val (.ref a), .val (.long x), .second, .val (.long ((1440 : Int32) / mm).toInt64), .second] [(.int (BdW.cmpL x ((9223372036854775807 : Int64) / ((1440 : Int32) / mm).toInt64)))])) (fun _ kk => XT.lcmp X2.here hx rfl (hb hby down_rm1_16) rfl kk) ?_
  by_cases hc5 : ((9223372036854775807 : Int64) / ((1440 : Int32) / mm).toInt64) < x
  · skip
    refine own_st (G := T1.setTop (mkF m 20 #[.val (.ref a), .val (.long x), .second, .val (.long ((1440 : Int32) / mm).toInt64), .second] [])) (fun _ kk => XS.ifNo X2.here hx rfl (hb hby down_rm1_17) rfl (XT.ll_le_f hc5) kk) ?_
    refine own_st (G := T1.setTop (mkF m 23 #[.val (.ref a), .val (.long x), .second, .val (.long ((1440 : Int32) / mm).toInt64), .second] [(.long (9223372036854775807 : Int64))])) (fun _ kk => X2.ldc2Long hx hown (mvT hZ (own_w hw 14 rfl)) (g := (mkF m 20 #[.val (.ref a), .val (.long x), .second, .val (.long ((1440 : Int32) / mm).toInt64), .second] [])) rfl (hb hby down_rm1_20) _ kk) ?_
    refine own_st (G := T1.setTop (mkF m 29 #[.val (.ref a), .val (.long x), .second, .val (.long ((1440 : Int32) / mm).toInt64), .second] [(.long (9223372036854775807 : Int64))])) (fun _ kk => XS.goto X2.here hx rfl (pc0 := 23) (pc' := 29) rfl (hb hby down_rm1_23) (by decide) (by decide) kk) ?_
    refine own_retJ X2 hx hret hlk (hb hby down_rm1_29) (by decide) (by decide) ?_
    exact ⟨by rw [show own_cnt mm x = (9223372036854775807 : Int64) from by unfold own_cnt; rw [if_pos hc5]], rfl, e3⟩
  · skip
    refine own_st (G := T1.setTop (mkF m 26 #[.val (.ref a), .val (.long x), .second, .val (.long ((1440 : Int32) / mm).toInt64), .second] [])) (fun _ kk => XS.ifYes X2.here hx rfl (pc0 := 17) (pc' := 26) rfl (hb hby down_rm1_17) rfl (XT.ll_le_t hc5) (by decide) (by decide) kk) ?_
    refine own_st (G := T1.setTop (mkF m 27 #[.val (.ref a), .val (.long x), .second, .val (.long ((1440 : Int32) / mm).toInt64), .second] [(.long x)])) (fun _ kk => XS.lloadN X2.here hx rfl (hb hby down_rm1_26) rfl kk) ?_
    refine own_st (G := T1.setTop (mkF m 28 #[.val (.ref a), .val (.long x), .second, .val (.long ((1440 : Int32) / mm).toInt64), .second] [(.long ((1440 : Int32) / mm).toInt64), (.long x)])) (fun _ kk => XS.lloadN X2.here hx rfl (hb hby down_rm1_27) rfl kk) ?_
    refine own_st (G := T1.setTop (mkF m 29 #[.val (.ref a), .val (.long x), .second, .val (.long ((1440 : Int32) / mm).toInt64), .second] [(.long (x * ((1440 : Int32) / mm).toInt64))])) (fun _ kk => XS.lmul X2.here hx rfl (hb hby down_rm1_28) rfl kk) ?_
    refine own_retJ X2 hx hret hlk (hb hby down_rm1_29) (by decide) (by decide) ?_
    exact ⟨by rw [show own_cnt mm x = (x * ((1440 : Int32) / mm).toInt64) from by unfold own_cnt; rw [if_neg hc5]], rfl, e3⟩
theorem own_k0 (v : Int64) : own_cnt (1 : Int32) v = if (6405119470038038 : Int64) < v then (9223372036854775807 : Int64) else (v * (1440 : Int64)) := by
  unfold own_cnt
  rw [show ((1440 : Int32) / (1 : Int32)).toInt64 = (1440 : Int64) from by decide, show (9223372036854775807 : Int64) / (1440 : Int64) = (6405119470038038 : Int64) from by decide +kernel]
theorem own_k1 (v : Int64) : own_cnt (60 : Int32) v = if (384307168202282325 : Int64) < v then (9223372036854775807 : Int64) else (v * (24 : Int64)) := by
  unfold own_cnt
  rw [show ((1440 : Int32) / (60 : Int32)).toInt64 = (24 : Int64) from by decide, show (9223372036854775807 : Int64) / (24 : Int64) = (384307168202282325 : Int64) from by decide +kernel]
theorem own_k2 (p v : Int64) (hv : (p &&& (9223372036854775807 : Int64)) = v) : own_cnt (1440 : Int32) v = v := by
  unfold own_cnt
  rw [show ((1440 : Int32) / (1440 : Int32)).toInt64 = (1 : Int64) from by decide, show (9223372036854775807 : Int64) / (1 : Int64) = (9223372036854775807 : Int64) from by decide +kernel]
  have e : v.toInt = p.toInt % 2 ^ 63 := by rw [← hv]; exact Jvm.Kit.i64_mask p 9223372036854775807 (k := 63) (by decide) (by decide)
  rw [if_neg (by rw [Int64.lt_iff_toInt_lt]; simp only [Int64.reduceToInt]; omega), Int64.mul_one]
theorem pn_own_law : plainName "com/example/finegrain/finegrain/FineUnitCountInDaysPinLaw" = true := by first | (simp [plainName, overriddenIn]; done) | decide +kernel
def Q_own_law (Z : State) (p0 : Int32) (p1 : Int64) (b0 b1 b2 : Addr) (h0 : Heap) (n0 : Nat) (v : Option Value) (h : Heap) (L : List Loc) : Prop := v = some (.int 1) ∧ Fr n0 L
set_option maxRecDepth 65536 in
set_option maxHeartbeats 40000000 in
theorem own_law (l : Launch) (Z : State) (a0 : Array Value) (hw : ∀ d ∈ tables_1, d.before a0 Z = true) (ws : List Jvm.Cond) (p0 : Int32) (p1 : Int64) (b0 b1 b2 : Addr) (h0 : Heap) (n0 : Nat) (S0 : Sta Z h0 "com/example/finegrain/finegrain/FineUnit" "MINUTE" "Lcom/example/finegrain/finegrain/FineUnit;" (.ref b0)) (E0 : Exa Z h0 b0 "com/example/finegrain/finegrain/FineUnit") (F0 : Fld Z h0 b0 "com/example/finegrain/finegrain/FineUnit" "m_nMinutes" "I" (.int (1 : Int32))) (S1 : Sta Z h0 "com/example/finegrain/finegrain/FineUnit" "HOUR" "Lcom/example/finegrain/finegrain/FineUnit;" (.ref b1)) (E1 : Exa Z h0 b1 "com/example/finegrain/finegrain/FineUnit") (F1 : Fld Z h0 b1 "com/example/finegrain/finegrain/FineUnit" "m_nMinutes" "I" (.int (60 : Int32))) (S2 : Sta Z h0 "com/example/finegrain/finegrain/FineUnit" "DAY" "Lcom/example/finegrain/finegrain/FineUnit;" (.ref b2)) (E2 : Exa Z h0 b2 "com/example/finegrain/finegrain/FineUnit") (F2 : Fld Z h0 b2 "com/example/finegrain/finegrain/FineUnit" "m_nMinutes" "I" (.int (1440 : Int32))) :
    MetFree l x (head1 (Jvm.Cond.code x code maxLocals ret :: ws) room_1) (fun aa U => aa = #[(.int p0), (.long p1)] ∧ Z.Warmed39 U.vm ∧ U.heap = h0) (fun _ _ _ _ _ => True) (fun _ U o U' => ∃ v L, o = .returned v ∧ Q_own_law Z p0 p1 b0 b1 b2 h0 n0 v U'.heap L ∧ FrameEnd U o U' L room_1.cells room_1.slots) := by
  refine own_body (x := x) (maxL := maxLocals) (as' := #[(.int p0), (.long p1)]) (Q := Q_own_law Z p0 p1 b0 b1 b2 h0 n0) pn_own_law #[.val (.int p0), .val (.long p1), .second, .unset, .unset, .unset, .unset, .unset, .unset] (fun m => by first | rfl | (simp [entryFrame, mkF, argsToLocals, Value.category, maxLocals]; done)) ?_
  intro p e s m below meth c T0 X0 hx hby hml hret hlk hown hnm hZ e0
  replace hml : c.maxLocals = 9 := hml
  replace hown : s.vm.findClass "com/example/finegrain/finegrain/FineUnitCountInDaysPinLaw" = some m.cls := hown
  have N0 := Fr.nil n0
  refine own_st (G := T0.setTop (mkF m 1 #[.val (.int p0), .val (.long p1), .second, .unset, .unset, .unset, .unset, .unset, .unset] [(.long p1)])) (fun _ kk => XS.lloadN X0.here hx rfl (hb hby at_0) rfl kk) ?_
  refine own_st (G := T0.setTop (mkF m 4 #[.val (.int p0), .val (.long p1), .second, .unset, .unset, .unset, .unset, .unset, .unset] [(.long (9223372036854775807 : Int64)), (.long p1)])) (fun _ kk => X0.ldc2Long hx hown (mvT hZ (own_w hw 0 rfl)) (g := (mkF m 1 #[.val (.int p0), .val (.long p1), .second, .unset, .unset, .unset, .unset, .unset, .unset] [(.long p1)])) rfl (hb hby at_1) _ kk) ?_
  refine own_st (G := T0.setTop (mkF m 5 #[.val (.int p0), .val (.long p1), .second, .unset, .unset, .unset, .unset, .unset, .unset] [(.long (p1 &&& (9223372036854775807 : Int64)))])) (fun _ kk => XS.land X0.here hx rfl (hb hby at_4) rfl kk) ?_
  generalize hv5 : (p1 &&& (9223372036854775807 : Int64)) = v5
  refine own_st (G := T0.setTop (mkF m 6 #[.val (.int p0), .val (.long p1), .second, .val (.long v5), .second, .unset, .unset, .unset, .unset] [])) (fun _ kk => XS.lstoreN X0.here hx rfl (hb hby at_5) rfl (l' := #[.val (.int p0), .val (.long p1), .second, .val (.long v5), .second, .unset, .unset, .unset, .unset]) rfl kk) ?_
  refine own_st (G := T0.setTop (mkF m 7 #[.val (.int p0), .val (.long p1), .second, .val (.long v5), .second, .unset, .unset, .unset, .unset] [(.int p0)])) (fun _ kk => XS.iloadN X0.here hx rfl (hb hby at_6) rfl kk) ?_
  refine own_st (G := T0.setTop (mkF m 9 #[.val (.int p0), .val (.long p1), .second, .val (.long v5), .second, .unset, .unset, .unset, .unset] [(.int (2147483647 : Int32)), (.int p0)])) (fun _ kk => X0.ldcInt hx hown (mvT hZ (own_w hw 1 rfl)) (g := (mkF m 7 #[.val (.int p0), .val (.long p1), .second, .val (.long v5), .second, .unset, .unset, .unset, .unset] [(.int p0)])) rfl (hb hby at_7) _ kk) ?_
  refine own_st (G := T0.setTop (mkF m 10 #[.val (.int p0), .val (.long p1), .second, .val (.long v5), .second, .unset, .unset, .unset, .unset] [(.int (p0 &&& (2147483647 : Int32)))])) (fun _ kk => XS.iand X0.here hx rfl (hb hby at_9) rfl kk) ?_
  refine own_st (G := T0.setTop (mkF m 11 #[.val (.int p0), .val (.long p1), .second, .val (.long v5), .second, .unset, .unset, .unset, .unset] [(.int (3 : Int32)), (.int (p0 &&& (2147483647 : Int32)))])) (fun _ kk => XT.iconstV X0.here hx rfl (3 : Int32) (hb hby at_10) (by decide) kk) ?_
  refine own_st (G := T0.setTop (mkF m 12 #[.val (.int p0), .val (.long p1), .second, .val (.long v5), .second, .unset, .unset, .unset, .unset] [(.int ((p0 &&& (2147483647 : Int32)) % (3 : Int32)))])) (fun _ kk => iremM X0 hx rfl (hb hby at_11) rfl (by decide) kk) ?_
  generalize hv12 : ((p0 &&& (2147483647 : Int32)) % (3 : Int32)) = v12
  refine own_st (G := T0.setTop (mkF m 14 #[.val (.int p0), .val (.long p1), .second, .val (.long v5), .second, .val (.int v12), .unset, .unset, .unset] [])) (fun _ kk => XS.istore X0.here hx rfl (hb hby at_12) rfl (l' := #[.val (.int p0), .val (.long p1), .second, .val (.long v5), .second, .val (.int v12), .unset, .unset, .unset]) rfl kk) ?_
  refine own_st (G := T0.setTop (mkF m 16 #[.val (.int p0), .val (.long p1), .second, .val (.long v5), .second, .val (.int v12), .unset, .unset, .unset] [(.int v12)])) (fun _ kk => XS.iload X0.here hx rfl (hb hby at_14) rfl kk) ?_
  by_cases hc1 : v12 = (0 : Int32)
  · skip
    refine own_st (G := T0.setTop (mkF m 19 #[.val (.int p0), .val (.long p1), .second, .val (.long v5), .second, .val (.int v12), .unset, .unset, .unset] [])) (fun _ kk => XS.ifNo X0.here hx rfl (hb hby at_16) rfl (XT.i0_ne_f hc1) kk) ?_
    obtain ⟨T2, X3, e4, st5⟩ := getS (host := "") X0 hx hZ hown (own_w hw 2 rfl) Via.refl e0 S0 (g := (mkF m 19 #[.val (.int p0), .val (.long p1), .second, .val (.long v5), .second, .val (.int v12), .unset, .unset, .unset] [])) rfl (hb hby at_19)
    refine own_st st5 ?_
    show own_Out _ _ _ _ (T2.setTop (mkF m 22 #[.val (.int p0), .val (.long p1), .second, .val (.long v5), .second, .val (.int v12), .unset, .unset, .unset] [(.ref b0)]))
    refine own_st (G := T2.setTop (mkF m 24 #[.val (.int p0), .val (.long p1), .second, .val (.long v5), .second, .val (.int v12), .val (.ref b0), .unset, .unset] [])) (fun _ kk => XS.astore X3.here hx rfl (hb hby at_22) rfl rfl (l' := #[.val (.int p0), .val (.long p1), .second, .val (.long v5), .second, .val (.int v12), .val (.ref b0), .unset, .unset]) rfl kk) ?_
    refine own_st (G := T2.setTop (mkF m 25 #[.val (.int p0), .val (.long p1), .second, .val (.long v5), .second, .val (.int v12), .val (.ref b0), .unset, .unset] [(.long v5)])) (fun _ kk => XS.lloadN X3.here hx rfl (hb hby at_24) rfl kk) ?_
    refine own_st (G := T2.setTop (mkF m 28 #[.val (.int p0), .val (.long p1), .second, .val (.long v5), .second, .val (.int v12), .val (.ref b0), .unset, .unset] [(.long (6405119470038038 : Int64)), (.long v5)])) (fun _ kk => X3.ldc2Long hx hown (mvT hZ (own_w hw 5 rfl)) (g := (mkF m 25 #[.val (.int p0), .val (.long p1), .second, .val (.long v5), .second, .val (.int v12), .val (.ref b0), .unset, .unset] [(.long v5)])) rfl (hb hby at_25) _ kk) ?_
    refine own_st (G := T2.setTop (mkF m 29 #[.val (.int p0), .val (.long p1), .second, .val (.long v5), .second, .val (.int v12), .val (.ref b0), .unset, .unset] [(.int (BdW.cmpL v5 (6405119470038038 : Int64)))])) (fun _ kk => XT.lcmp X3.here hx rfl (hb hby at_28) rfl kk) ?_
    by_cases hc6 : (6405119470038038 : Int64) < v5
    · skip
      refine own_st (G := T2.setTop (mkF m 32 #[.val (.int p0), .val (.long p1), .second, .val (.long v5), .second, .val (.int v12), .val (.ref b0), .unset, .unset] [])) (fun _ kk => XS.ifNo X3.here hx rfl (hb hby at_29) rfl (XT.ll_le_f hc6) kk) ?_
      refine own_st (G := T2.setTop (mkF m 35 #[.val (.int p0), .val (.long p1), .second, .val (.long v5), .second, .val (.int v12), .val (.ref b0), .unset, .unset] [(.long (9223372036854775807 : Int64))])) (fun _ kk => X3.ldc2Long hx hown (mvT hZ (own_w hw 0 rfl)) (g := (mkF m 32 #[.val (.int p0), .val (.long p1), .second, .val (.long v5), .second, .val (.int v12), .val (.ref b0), .unset, .unset] [])) rfl (hb hby at_32) _ kk) ?_
      refine own_st (G := T2.setTop (mkF m 43 #[.val (.int p0), .val (.long p1), .second, .val (.long v5), .second, .val (.int v12), .val (.ref b0), .unset, .unset] [(.long (9223372036854775807 : Int64))])) (fun _ kk => XS.goto X3.here hx rfl (pc0 := 35) (pc' := 43) rfl (hb hby at_35) (by decide) (by decide) kk) ?_
      refine own_st (G := T2.setTop (mkF m 45 #[.val (.int p0), .val (.long p1), .second, .val (.long v5), .second, .val (.int v12), .val (.ref b0), .val (.long (9223372036854775807 : Int64)), .second] [])) (fun _ kk => XS.lstore X3.here hx rfl (hb hby at_43) rfl (l' := #[.val (.int p0), .val (.long p1), .second, .val (.long v5), .second, .val (.int v12), .val (.ref b0), .val (.long (9223372036854775807 : Int64)), .second]) rfl kk) ?_
      refine own_st (G := T2.setTop (mkF m 91 #[.val (.int p0), .val (.long p1), .second, .val (.long v5), .second, .val (.int v12), .val (.ref b0), .val (.long (9223372036854775807 : Int64)), .second] [])) (fun _ kk => XS.goto X3.here hx rfl (pc0 := 45) (pc' := 91) rfl (hb hby at_45) (by decide) (by decide) kk) ?_
      refine own_st (G := T2.setTop (mkF m 93 #[.val (.int p0), .val (.long p1), .second, .val (.long v5), .second, .val (.int v12), .val (.ref b0), .val (.long (9223372036854775807 : Int64)), .second] [(.ref b0)])) (fun _ kk => XS.aload X3.here hx rfl (hb hby at_91) rfl rfl kk) ?_
      refine own_st (G := T2.setTop (mkF m 94 #[.val (.int p0), .val (.long p1), .second, .val (.long v5), .second, .val (.int v12), .val (.ref b0), .val (.long (9223372036854775807 : Int64)), .second] [(.long v5), (.ref b0)])) (fun _ kk => XS.lloadN X3.here hx rfl (hb hby at_93) rfl kk) ?_
      refine own_callV X3 hx hZ (y := (⟨"com/example/finegrain/finegrain/FineUnit", "countInDays", "(J)J"⟩ : MethodName)) (b := b0) (as' := [(.long v5)]) hown (own_w hw 7 rfl) (own_w hw 8 rfl) (own_w hw 10 rfl) (own_w hw 9 rfl) (own_w hw 11 rfl) (own_w hw 3 rfl) (by decide) (own_rm1 l Z a0 hw [] v5 b0 (1 : Int32) h0 n0 F0 (by decide) (by decide)) E0 0 (by decide) (by decide) (by decide) (by decide) (rest := []) (by rw [hml]; rfl) (lenOf (by decide : parseMethodDescriptor "(J)J" = some ⟨[.long], some (.long)⟩) rfl) rfl (Nat.le_of_eq rfl) (hb hby at_94) e4 ?_
      intro T9 L10 v12 X11 hQ
      obtain ⟨rfl, rfl, eq7⟩ := hQ
      show own_Out _ _ _ _ (T9.setTop (mkF m 97 #[.val (.int p0), .val (.long p1), .second, .val (.long v5), .second, .val (.int v12), .val (.ref b0), .val (.long (9223372036854775807 : Int64)), .second] [(.long (own_cnt (1 : Int32) v5))]))
      have N8 := Fr.app N0 (Fr.nil n0)
      refine own_st (G := T9.setTop (mkF m 99 #[.val (.int p0), .val (.long p1), .second, .val (.long v5), .second, .val (.int v12), .val (.ref b0), .val (.long (9223372036854775807 : Int64)), .second] [(.long (9223372036854775807 : Int64)), (.long (own_cnt (1 : Int32) v5))])) (fun _ kk => XS.lload X11.here hx rfl (hb hby at_97) rfl kk) ?_
      refine own_st (G := T9.setTop (mkF m 100 #[.val (.int p0), .val (.long p1), .second, .val (.long v5), .second, .val (.int v12), .val (.ref b0), .val (.long (9223372036854775807 : Int64)), .second] [(.int (BdW.cmpL (own_cnt (1 : Int32) v5) (9223372036854775807 : Int64)))])) (fun _ kk => XT.lcmp X11.here hx rfl (hb hby at_99) rfl kk) ?_
      have hk13 : ((own_cnt (1 : Int32) v5) = (9223372036854775807 : Int64)) := by rw [own_k0, if_pos hc6]
      refine own_st (G := T9.setTop (mkF m 103 #[.val (.int p0), .val (.long p1), .second, .val (.long v5), .second, .val (.int v12), .val (.ref b0), .val (.long (9223372036854775807 : Int64)), .second] [])) (fun _ kk => XS.ifNo X11.here hx rfl (hb hby at_100) rfl (XT.ll_ne_f hk13) kk) ?_
      refine own_st (G := T9.setTop (mkF m 104 #[.val (.int p0), .val (.long p1), .second, .val (.long v5), .second, .val (.int v12), .val (.ref b0), .val (.long (9223372036854775807 : Int64)), .second] [(.int (1 : Int32))])) (fun _ kk => XT.iconstV X11.here hx rfl (1 : Int32) (hb hby at_103) (by decide) kk) ?_
      refine own_st (G := T9.setTop (mkF m 108 #[.val (.int p0), .val (.long p1), .second, .val (.long v5), .second, .val (.int v12), .val (.ref b0), .val (.long (9223372036854775807 : Int64)), .second] [(.int (1 : Int32))])) (fun _ kk => XS.goto X11.here hx rfl (pc0 := 104) (pc' := 108) rfl (hb hby at_104) (by decide) (by decide) kk) ?_
      refine own_retB X11 hx hret (by simp) hlk (hb hby at_108) (by decide) (by decide) ?_
      exact ⟨rfl, N8⟩
    · skip
      refine own_st (G := T2.setTop (mkF m 38 #[.val (.int p0), .val (.long p1), .second, .val (.long v5), .second, .val (.int v12), .val (.ref b0), .unset, .unset] [])) (fun _ kk => XS.ifYes X3.here hx rfl (pc0 := 29) (pc' := 38) rfl (hb hby at_29) rfl (XT.ll_le_t hc6) (by decide) (by decide) kk) ?_
      refine own_st (G := T2.setTop (mkF m 39 #[.val (.int p0), .val (.long p1), .second, .val (.long v5), .second, .val (.int v12), .val (.ref b0), .unset, .unset] [(.long v5)])) (fun _ kk => XS.lloadN X3.here hx rfl (hb hby at_38) rfl kk) ?_
      refine own_st (G := T2.setTop (mkF m 42 #[.val (.int p0), .val (.long p1), .second, .val (.long v5), .second, .val (.int v12), .val (.ref b0), .unset, .unset] [(.long (1440 : Int64)), (.long v5)])) (fun _ kk => X3.ldc2Long hx hown (mvT hZ (own_w hw 6 rfl)) (g := (mkF m 39 #[.val (.int p0), .val (.long p1), .second, .val (.long v5), .second, .val (.int v12), .val (.ref b0), .unset, .unset] [(.long v5)])) rfl (hb hby at_39) _ kk) ?_
      refine own_st (G := T2.setTop (mkF m 43 #[.val (.int p0), .val (.long p1), .second, .val (.long v5), .second, .val (.int v12), .val (.ref b0), .unset, .unset] [(.long (v5 * (1440 : Int64)))])) (fun _ kk => XS.lmul X3.here hx rfl (hb hby at_42) rfl kk) ?_
      refine own_st (G := T2.setTop (mkF m 45 #[.val (.int p0), .val (.long p1), .second, .val (.long v5), .second, .val (.int v12), .val (.ref b0), .val (.long (v5 * (1440 : Int64))), .second] [])) (fun _ kk => XS.lstore X3.here hx rfl (hb hby at_43) rfl (l' := #[.val (.int p0), .val (.long p1), .second, .val (.long v5), .second, .val (.int v12), .val (.ref b0), .val (.long (v5 * (1440 : Int64))), .second]) rfl kk) ?_
      refine own_st (G := T2.setTop (mkF m 91 #[.val (.int p0), .val (.long p1), .second, .val (.long v5), .second, .val (.int v12), .val (.ref b0), .val (.long (v5 * (1440 : Int64))), .second] [])) (fun _ kk => XS.goto X3.here hx rfl (pc0 := 45) (pc' := 91) rfl (hb hby at_45) (by decide) (by decide) kk) ?_
      refine own_st (G := T2.setTop (mkF m 93 #[.val (.int p0), .val (.long p1), .second, .val (.long v5), .second, .val (.int v12), .val (.ref b0), .val (.long (v5 * (1440 : Int64))), .second] [(.ref b0)])) (fun _ kk => XS.aload X3.here hx rfl (hb hby at_91) rfl rfl kk) ?_
      refine own_st (G := T2.setTop (mkF m 94 #[.val (.int p0), .val (.long p1), .second, .val (.long v5), .second, .val (.int v12), .val (.ref b0), .val (.long (v5 * (1440 : Int64))), .second] [(.long v5), (.ref b0)])) (fun _ kk => XS.lloadN X3.here hx rfl (hb hby at_93) rfl kk) ?_
      refine own_callV X3 hx hZ (y := (⟨"com/example/finegrain/finegrain/FineUnit", "countInDays", "(J)J"⟩ : MethodName)) (b := b0) (as' := [(.long v5)]) hown (own_w hw 7 rfl) (own_w hw 8 rfl) (own_w hw 10 rfl) (own_w hw 9 rfl) (own_w hw 11 rfl) (own_w hw 3 rfl) (by decide) (own_rm1 l Z a0 hw [] v5 b0 (1 : Int32) h0 n0 F0 (by decide) (by decide)) E0 0 (by decide) (by decide) (by decide) (by decide) (rest := []) (by rw [hml]; rfl) (lenOf (by decide : parseMethodDescriptor "(J)J" = some ⟨[.long], some (.long)⟩) rfl) rfl (Nat.le_of_eq rfl) (hb hby at_94) e4 ?_
      intro T16 L17 v19 X18 hQ
      obtain ⟨rfl, rfl, eq14⟩ := hQ
      show own_Out _ _ _ _ (T16.setTop (mkF m 97 #[.val (.int p0), .val (.long p1), .second, .val (.long v5), .second, .val (.int v12), .val (.ref b0), .val (.long (v5 * (1440 : Int64))), .second] [(.long (own_cnt (1 : Int32) v5))]))
      have N15 := Fr.app N0 (Fr.nil n0)
      refine own_st (G := T16.setTop (mkF m 99 #[.val (.int p0), .val (.long p1), .second, .val (.long v5), .second, .val (.int v12), .val (.ref b0), .val (.long (v5 * (1440 : Int64))), .second] [(.long (v5 * (1440 : Int64))), (.long (own_cnt (1 : Int32) v5))])) (fun _ kk => XS.lload X18.here hx rfl (hb hby at_97) rfl kk) ?_
      refine own_st (G := T16.setTop (mkF m 100 #[.val (.int p0), .val (.long p1), .second, .val (.long v5), .second, .val (.int v12), .val (.ref b0), .val (.long (v5 * (1440 : Int64))), .second] [(.int (BdW.cmpL (own_cnt (1 : Int32) v5) (v5 * (1440 : Int64))))])) (fun _ kk => XT.lcmp X18.here hx rfl (hb hby at_99) rfl kk) ?_
      have hk20 : ((own_cnt (1 : Int32) v5) = (v5 * (1440 : Int64))) := by rw [own_k0, if_neg hc6]
      refine own_st (G := T16.setTop (mkF m 103 #[.val (.int p0), .val (.long p1), .second, .val (.long v5), .second, .val (.int v12), .val (.ref b0), .val (.long (v5 * (1440 : Int64))), .second] [])) (fun _ kk => XS.ifNo X18.here hx rfl (hb hby at_100) rfl (XT.ll_ne_f hk20) kk) ?_
      refine own_st (G := T16.setTop (mkF m 104 #[.val (.int p0), .val (.long p1), .second, .val (.long v5), .second, .val (.int v12), .val (.ref b0), .val (.long (v5 * (1440 : Int64))), .second] [(.int (1 : Int32))])) (fun _ kk => XT.iconstV X18.here hx rfl (1 : Int32) (hb hby at_103) (by decide) kk) ?_
      refine own_st (G := T16.setTop (mkF m 108 #[.val (.int p0), .val (.long p1), .second, .val (.long v5), .second, .val (.int v12), .val (.ref b0), .val (.long (v5 * (1440 : Int64))), .second] [(.int (1 : Int32))])) (fun _ kk => XS.goto X18.here hx rfl (pc0 := 104) (pc' := 108) rfl (hb hby at_104) (by decide) (by decide) kk) ?_
      refine own_retB X18 hx hret (by simp) hlk (hb hby at_108) (by decide) (by decide) ?_
      exact ⟨rfl, N15⟩
  · skip
    refine own_st (G := T0.setTop (mkF m 48 #[.val (.int p0), .val (.long p1), .second, .val (.long v5), .second, .val (.int v12), .unset, .unset, .unset] [])) (fun _ kk => XS.ifYes X0.here hx rfl (pc0 := 16) (pc' := 48) rfl (hb hby at_16) rfl (XT.i0_ne_t hc1) (by decide) (by decide) kk) ?_
    refine own_st (G := T0.setTop (mkF m 50 #[.val (.int p0), .val (.long p1), .second, .val (.long v5), .second, .val (.int v12), .unset, .unset, .unset] [(.int v12)])) (fun _ kk => XS.iload X0.here hx rfl (hb hby at_48) rfl kk) ?_
    refine own_st (G := T0.setTop (mkF m 51 #[.val (.int p0), .val (.long p1), .second, .val (.long v5), .second, .val (.int v12), .unset, .unset, .unset] [(.int (1 : Int32)), (.int v12)])) (fun _ kk => XT.iconstV X0.here hx rfl (1 : Int32) (hb hby at_50) (by decide) kk) ?_
    by_cases hc21 : v12 = (1 : Int32)
    · skip
      refine own_st (G := T0.setTop (mkF m 54 #[.val (.int p0), .val (.long p1), .second, .val (.long v5), .second, .val (.int v12), .unset, .unset, .unset] [])) (fun _ kk => XS.icmpNo X0.here hx rfl (hb hby at_51) rfl (XT.ii_ne_f hc21) kk) ?_
      obtain ⟨T22, X23, e24, st25⟩ := getS (host := "") X0 hx hZ hown (own_w hw 15 rfl) Via.refl e0 S1 (g := (mkF m 54 #[.val (.int p0), .val (.long p1), .second, .val (.long v5), .second, .val (.int v12), .unset, .unset, .unset] [])) rfl (hb hby at_54)
      refine own_st st25 ?_
      show own_Out _ _ _ _ (T22.setTop (mkF m 57 #[.val (.int p0), .val (.long p1), .second, .val (.long v5), .second, .val (.int v12), .unset, .unset, .unset] [(.ref b1)]))
      refine own_st (G := T22.setTop (mkF m 59 #[.val (.int p0), .val (.long p1), .second, .val (.long v5), .second, .val (.int v12), .val (.ref b1), .unset, .unset] [])) (fun _ kk => XS.astore X23.here hx rfl (hb hby at_57) rfl rfl (l' := #[.val (.int p0), .val (.long p1), .second, .val (.long v5), .second, .val (.int v12), .val (.ref b1), .unset, .unset]) rfl kk) ?_
      refine own_st (G := T22.setTop (mkF m 60 #[.val (.int p0), .val (.long p1), .second, .val (.long v5), .second, .val (.int v12), .val (.ref b1), .unset, .unset] [(.long v5)])) (fun _ kk => XS.lloadN X23.here hx rfl (hb hby at_59) rfl kk) ?_
      refine own_st (G := T22.setTop (mkF m 63 #[.val (.int p0), .val (.long p1), .second, .val (.long v5), .second, .val (.int v12), .val (.ref b1), .unset, .unset] [(.long (384307168202282325 : Int64)), (.long v5)])) (fun _ kk => X23.ldc2Long hx hown (mvT hZ (own_w hw 17 rfl)) (g := (mkF m 60 #[.val (.int p0), .val (.long p1), .second, .val (.long v5), .second, .val (.int v12), .val (.ref b1), .unset, .unset] [(.long v5)])) rfl (hb hby at_60) _ kk) ?_
      refine own_st (G := T22.setTop (mkF m 64 #[.val (.int p0), .val (.long p1), .second, .val (.long v5), .second, .val (.int v12), .val (.ref b1), .unset, .unset] [(.int (BdW.cmpL v5 (384307168202282325 : Int64)))])) (fun _ kk => XT.lcmp X23.here hx rfl (hb hby at_63) rfl kk) ?_
      by_cases hc26 : (384307168202282325 : Int64) < v5
      · skip
        refine own_st (G := T22.setTop (mkF m 67 #[.val (.int p0), .val (.long p1), .second, .val (.long v5), .second, .val (.int v12), .val (.ref b1), .unset, .unset] [])) (fun _ kk => XS.ifNo X23.here hx rfl (hb hby at_64) rfl (XT.ll_le_f hc26) kk) ?_
        refine own_st (G := T22.setTop (mkF m 70 #[.val (.int p0), .val (.long p1), .second, .val (.long v5), .second, .val (.int v12), .val (.ref b1), .unset, .unset] [(.long (9223372036854775807 : Int64))])) (fun _ kk => X23.ldc2Long hx hown (mvT hZ (own_w hw 0 rfl)) (g := (mkF m 67 #[.val (.int p0), .val (.long p1), .second, .val (.long v5), .second, .val (.int v12), .val (.ref b1), .unset, .unset] [])) rfl (hb hby at_67) _ kk) ?_
        refine own_st (G := T22.setTop (mkF m 78 #[.val (.int p0), .val (.long p1), .second, .val (.long v5), .second, .val (.int v12), .val (.ref b1), .unset, .unset] [(.long (9223372036854775807 : Int64))])) (fun _ kk => XS.goto X23.here hx rfl (pc0 := 70) (pc' := 78) rfl (hb hby at_70) (by decide) (by decide) kk) ?_
        refine own_st (G := T22.setTop (mkF m 80 #[.val (.int p0), .val (.long p1), .second, .val (.long v5), .second, .val (.int v12), .val (.ref b1), .val (.long (9223372036854775807 : Int64)), .second] [])) (fun _ kk => XS.lstore X23.here hx rfl (hb hby at_78) rfl (l' := #[.val (.int p0), .val (.long p1), .second, .val (.long v5), .second, .val (.int v12), .val (.ref b1), .val (.long (9223372036854775807 : Int64)), .second]) rfl kk) ?_
        refine own_st (G := T22.setTop (mkF m 91 #[.val (.int p0), .val (.long p1), .second, .val (.long v5), .second, .val (.int v12), .val (.ref b1), .val (.long (9223372036854775807 : Int64)), .second] [])) (fun _ kk => XS.goto X23.here hx rfl (pc0 := 80) (pc' := 91) rfl (hb hby at_80) (by decide) (by decide) kk) ?_
        refine own_st (G := T22.setTop (mkF m 93 #[.val (.int p0), .val (.long p1), .second, .val (.long v5), .second, .val (.int v12), .val (.ref b1), .val (.long (9223372036854775807 : Int64)), .second] [(.ref b1)])) (fun _ kk => XS.aload X23.here hx rfl (hb hby at_91) rfl rfl kk) ?_
        refine own_st (G := T22.setTop (mkF m 94 #[.val (.int p0), .val (.long p1), .second, .val (.long v5), .second, .val (.int v12), .val (.ref b1), .val (.long (9223372036854775807 : Int64)), .second] [(.long v5), (.ref b1)])) (fun _ kk => XS.lloadN X23.here hx rfl (hb hby at_93) rfl kk) ?_
        refine own_callV X23 hx hZ (y := (⟨"com/example/finegrain/finegrain/FineUnit", "countInDays", "(J)J"⟩ : MethodName)) (b := b1) (as' := [(.long v5)]) hown (own_w hw 7 rfl) (own_w hw 8 rfl) (own_w hw 10 rfl) (own_w hw 9 rfl) (own_w hw 11 rfl) (own_w hw 3 rfl) (by decide) (own_rm1 l Z a0 hw [] v5 b1 (60 : Int32) h0 n0 F1 (by decide) (by decide)) E1 0 (by decide) (by decide) (by decide) (by decide) (rest := []) (by rw [hml]; rfl) (lenOf (by decide : parseMethodDescriptor "(J)J" = some ⟨[.long], some (.long)⟩) rfl) rfl (Nat.le_of_eq rfl) (hb hby at_94) e24 ?_
        intro T29 L30 v32 X31 hQ
        obtain ⟨rfl, rfl, eq27⟩ := hQ
        show own_Out _ _ _ _ (T29.setTop (mkF m 97 #[.val (.int p0), .val (.long p1), .second, .val (.long v5), .second, .val (.int v12), .val (.ref b1), .val (.long (9223372036854775807 : Int64)), .second] [(.long (own_cnt (60 : Int32) v5))]))
        have N28 := Fr.app N0 (Fr.nil n0)
        refine own_st (G := T29.setTop (mkF m 99 #[.val (.int p0), .val (.long p1), .second, .val (.long v5), .second, .val (.int v12), .val (.ref b1), .val (.long (9223372036854775807 : Int64)), .second] [(.long (9223372036854775807 : Int64)), (.long (own_cnt (60 : Int32) v5))])) (fun _ kk => XS.lload X31.here hx rfl (hb hby at_97) rfl kk) ?_
        refine own_st (G := T29.setTop (mkF m 100 #[.val (.int p0), .val (.long p1), .second, .val (.long v5), .second, .val (.int v12), .val (.ref b1), .val (.long (9223372036854775807 : Int64)), .second] [(.int (BdW.cmpL (own_cnt (60 : Int32) v5) (9223372036854775807 : Int64)))])) (fun _ kk => XT.lcmp X31.here hx rfl (hb hby at_99) rfl kk) ?_
        have hk33 : ((own_cnt (60 : Int32) v5) = (9223372036854775807 : Int64)) := by rw [own_k1, if_pos hc26]
        refine own_st (G := T29.setTop (mkF m 103 #[.val (.int p0), .val (.long p1), .second, .val (.long v5), .second, .val (.int v12), .val (.ref b1), .val (.long (9223372036854775807 : Int64)), .second] [])) (fun _ kk => XS.ifNo X31.here hx rfl (hb hby at_100) rfl (XT.ll_ne_f hk33) kk) ?_
        refine own_st (G := T29.setTop (mkF m 104 #[.val (.int p0), .val (.long p1), .second, .val (.long v5), .second, .val (.int v12), .val (.ref b1), .val (.long (9223372036854775807 : Int64)), .second] [(.int (1 : Int32))])) (fun _ kk => XT.iconstV X31.here hx rfl (1 : Int32) (hb hby at_103) (by decide) kk) ?_
        refine own_st (G := T29.setTop (mkF m 108 #[.val (.int p0), .val (.long p1), .second, .val (.long v5), .second, .val (.int v12), .val (.ref b1), .val (.long (9223372036854775807 : Int64)), .second] [(.int (1 : Int32))])) (fun _ kk => XS.goto X31.here hx rfl (pc0 := 104) (pc' := 108) rfl (hb hby at_104) (by decide) (by decide) kk) ?_
        refine own_retB X31 hx hret (by simp) hlk (hb hby at_108) (by decide) (by decide) ?_
        exact ⟨rfl, N28⟩
      · skip
        refine own_st (G := T22.setTop (mkF m 73 #[.val (.int p0), .val (.long p1), .second, .val (.long v5), .second, .val (.int v12), .val (.ref b1), .unset, .unset] [])) (fun _ kk => XS.ifYes X23.here hx rfl (pc0 := 64) (pc' := 73) rfl (hb hby at_64) rfl (XT.ll_le_t hc26) (by decide) (by decide) kk) ?_
        refine own_st (G := T22.setTop (mkF m 74 #[.val (.int p0), .val (.long p1), .second, .val (.long v5), .second, .val (.int v12), .val (.ref b1), .unset, .unset] [(.long v5)])) (fun _ kk => XS.lloadN X23.here hx rfl (hb hby at_73) rfl kk) ?_
        refine own_st (G := T22.setTop (mkF m 77 #[.val (.int p0), .val (.long p1), .second, .val (.long v5), .second, .val (.int v12), .val (.ref b1), .unset, .unset] [(.long (24 : Int64)), (.long v5)])) (fun _ kk => X23.ldc2Long hx hown (mvT hZ (own_w hw 20 rfl)) (g := (mkF m 74 #[.val (.int p0), .val (.long p1), .second, .val (.long v5), .second, .val (.int v12), .val (.ref b1), .unset, .unset] [(.long v5)])) rfl (hb hby at_74) _ kk) ?_
        refine own_st (G := T22.setTop (mkF m 78 #[.val (.int p0), .val (.long p1), .second, .val (.long v5), .second, .val (.int v12), .val (.ref b1), .unset, .unset] [(.long (v5 * (24 : Int64)))])) (fun _ kk => XS.lmul X23.here hx rfl (hb hby at_77) rfl kk) ?_
        refine own_st (G := T22.setTop (mkF m 80 #[.val (.int p0), .val (.long p1), .second, .val (.long v5), .second, .val (.int v12), .val (.ref b1), .val (.long (v5 * (24 : Int64))), .second] [])) (fun _ kk => XS.lstore X23.here hx rfl (hb hby at_78) rfl (l' := #[.val (.int p0), .val (.long p1), .second, .val (.long v5), .second, .val (.int v12), .val (.ref b1), .val (.long (v5 * (24 : Int64))), .second]) rfl kk) ?_
        refine own_st (G := T22.setTop (mkF m 91 #[.val (.int p0), .val (.long p1), .second, .val (.long v5), .second, .val (.int v12), .val (.ref b1), .val (.long (v5 * (24 : Int64))), .second] [])) (fun _ kk => XS.goto X23.here hx rfl (pc0 := 80) (pc' := 91) rfl (hb hby at_80) (by decide) (by decide) kk) ?_
        refine own_st (G := T22.setTop (mkF m 93 #[.val (.int p0), .val (.long p1), .second, .val (.long v5), .second, .val (.int v12), .val (.ref b1), .val (.long (v5 * (24 : Int64))), .second] [(.ref b1)])) (fun _ kk => XS.aload X23.here hx rfl (hb hby at_91) rfl rfl kk) ?_
        refine own_st (G := T22.setTop (mkF m 94 #[.val (.int p0), .val (.long p1), .second, .val (.long v5), .second, .val (.int v12), .val (.ref b1), .val (.long (v5 * (24 : Int64))), .second] [(.long v5), (.ref b1)])) (fun _ kk => XS.lloadN X23.here hx rfl (hb hby at_93) rfl kk) ?_
        refine own_callV X23 hx hZ (y := (⟨"com/example/finegrain/finegrain/FineUnit", "countInDays", "(J)J"⟩ : MethodName)) (b := b1) (as' := [(.long v5)]) hown (own_w hw 7 rfl) (own_w hw 8 rfl) (own_w hw 10 rfl) (own_w hw 9 rfl) (own_w hw 11 rfl) (own_w hw 3 rfl) (by decide) (own_rm1 l Z a0 hw [] v5 b1 (60 : Int32) h0 n0 F1 (by decide) (by decide)) E1 0 (by decide) (by decide) (by decide) (by decide) (rest := []) (by rw [hml]; rfl) (lenOf (by decide : parseMethodDescriptor "(J)J" = some ⟨[.long], some (.long)⟩) rfl) rfl (Nat.le_of_eq rfl) (hb hby at_94) e24 ?_
        intro T36 L37 v39 X38 hQ
        obtain ⟨rfl, rfl, eq34⟩ := hQ
        show own_Out _ _ _ _ (T36.setTop (mkF m 97 #[.val (.int p0), .val (.long p1), .second, .val (.long v5), .second, .val (.int v12), .val (.ref b1), .val (.long (v5 * (24 : Int64))), .second] [(.long (own_cnt (60 : Int32) v5))]))
        have N35 := Fr.app N0 (Fr.nil n0)
        refine own_st (G := T36.setTop (mkF m 99 #[.val (.int p0), .val (.long p1), .second, .val (.long v5), .second, .val (.int v12), .val (.ref b1), .val (.long (v5 * (24 : Int64))), .second] [(.long (v5 * (24 : Int64))), (.long (own_cnt (60 : Int32) v5))])) (fun _ kk => XS.lload X38.here hx rfl (hb hby at_97) rfl kk) ?_
        refine own_st (G := T36.setTop (mkF m 100 #[.val (.int p0), .val (.long p1), .second, .val (.long v5), .second, .val (.int v12), .val (.ref b1), .val (.long (v5 * (24 : Int64))), .second] [(.int (BdW.cmpL (own_cnt (60 : Int32) v5) (v5 * (24 : Int64))))])) (fun _ kk => XT.lcmp X38.here hx rfl (hb hby at_99) rfl kk) ?_
        have hk40 : ((own_cnt (60 : Int32) v5) = (v5 * (24 : Int64))) := by rw [own_k1, if_neg hc26]
        refine own_st (G := T36.setTop (mkF m 103 #[.val (.int p0), .val (.long p1), .second, .val (.long v5), .second, .val (.int v12), .val (.ref b1), .val (.long (v5 * (24 : Int64))), .second] [])) (fun _ kk => XS.ifNo X38.here hx rfl (hb hby at_100) rfl (XT.ll_ne_f hk40) kk) ?_
        refine own_st (G := T36.setTop (mkF m 104 #[.val (.int p0), .val (.long p1), .second, .val (.long v5), .second, .val (.int v12), .val (.ref b1), .val (.long (v5 * (24 : Int64))), .second] [(.int (1 : Int32))])) (fun _ kk => XT.iconstV X38.here hx rfl (1 : Int32) (hb hby at_103) (by decide) kk) ?_
        refine own_st (G := T36.setTop (mkF m 108 #[.val (.int p0), .val (.long p1), .second, .val (.long v5), .second, .val (.int v12), .val (.ref b1), .val (.long (v5 * (24 : Int64))), .second] [(.int (1 : Int32))])) (fun _ kk => XS.goto X38.here hx rfl (pc0 := 104) (pc' := 108) rfl (hb hby at_104) (by decide) (by decide) kk) ?_
        refine own_retB X38 hx hret (by simp) hlk (hb hby at_108) (by decide) (by decide) ?_
        exact ⟨rfl, N35⟩
    · skip
      refine own_st (G := T0.setTop (mkF m 83 #[.val (.int p0), .val (.long p1), .second, .val (.long v5), .second, .val (.int v12), .unset, .unset, .unset] [])) (fun _ kk => XS.icmpYes X0.here hx rfl (pc0 := 51) (pc' := 83) rfl (hb hby at_51) rfl (XT.ii_ne_t hc21) (by decide) (by decide) kk) ?_
      obtain ⟨T41, X42, e43, st44⟩ := getS (host := "") X0 hx hZ hown (own_w hw 18 rfl) Via.refl e0 S2 (g := (mkF m 83 #[.val (.int p0), .val (.long p1), .second, .val (.long v5), .second, .val (.int v12), .unset, .unset, .unset] [])) rfl (hb hby at_83)
      refine own_st st44 ?_
      show own_Out _ _ _ _ (T41.setTop (mkF m 86 #[.val (.int p0), .val (.long p1), .second, .val (.long v5), .second, .val (.int v12), .unset, .unset, .unset] [(.ref b2)]))
      refine own_st (G := T41.setTop (mkF m 88 #[.val (.int p0), .val (.long p1), .second, .val (.long v5), .second, .val (.int v12), .val (.ref b2), .unset, .unset] [])) (fun _ kk => XS.astore X42.here hx rfl (hb hby at_86) rfl rfl (l' := #[.val (.int p0), .val (.long p1), .second, .val (.long v5), .second, .val (.int v12), .val (.ref b2), .unset, .unset]) rfl kk) ?_
      refine own_st (G := T41.setTop (mkF m 89 #[.val (.int p0), .val (.long p1), .second, .val (.long v5), .second, .val (.int v12), .val (.ref b2), .unset, .unset] [(.long v5)])) (fun _ kk => XS.lloadN X42.here hx rfl (hb hby at_88) rfl kk) ?_
      refine own_st (G := T41.setTop (mkF m 91 #[.val (.int p0), .val (.long p1), .second, .val (.long v5), .second, .val (.int v12), .val (.ref b2), .val (.long v5), .second] [])) (fun _ kk => XS.lstore X42.here hx rfl (hb hby at_89) rfl (l' := #[.val (.int p0), .val (.long p1), .second, .val (.long v5), .second, .val (.int v12), .val (.ref b2), .val (.long v5), .second]) rfl kk) ?_
      refine own_st (G := T41.setTop (mkF m 93 #[.val (.int p0), .val (.long p1), .second, .val (.long v5), .second, .val (.int v12), .val (.ref b2), .val (.long v5), .second] [(.ref b2)])) (fun _ kk => XS.aload X42.here hx rfl (hb hby at_91) rfl rfl kk) ?_
      refine own_st (G := T41.setTop (mkF m 94 #[.val (.int p0), .val (.long p1), .second, .val (.long v5), .second, .val (.int v12), .val (.ref b2), .val (.long v5), .second] [(.long v5), (.ref b2)])) (fun _ kk => XS.lloadN X42.here hx rfl (hb hby at_93) rfl kk) ?_
      refine own_callV X42 hx hZ (y := (⟨"com/example/finegrain/finegrain/FineUnit", "countInDays", "(J)J"⟩ : MethodName)) (b := b2) (as' := [(.long v5)]) hown (own_w hw 7 rfl) (own_w hw 8 rfl) (own_w hw 10 rfl) (own_w hw 9 rfl) (own_w hw 11 rfl) (own_w hw 3 rfl) (by decide) (own_rm1 l Z a0 hw [] v5 b2 (1440 : Int32) h0 n0 F2 (by decide) (by decide)) E2 0 (by decide) (by decide) (by decide) (by decide) (rest := []) (by rw [hml]; rfl) (lenOf (by decide : parseMethodDescriptor "(J)J" = some ⟨[.long], some (.long)⟩) rfl) rfl (Nat.le_of_eq rfl) (hb hby at_94) e43 ?_
      intro T47 L48 v50 X49 hQ
      obtain ⟨rfl, rfl, eq45⟩ := hQ
      show own_Out _ _ _ _ (T47.setTop (mkF m 97 #[.val (.int p0), .val (.long p1), .second, .val (.long v5), .second, .val (.int v12), .val (.ref b2), .val (.long v5), .second] [(.long (own_cnt (1440 : Int32) v5))]))
      have N46 := Fr.app N0 (Fr.nil n0)
      refine own_st (G := T47.setTop (mkF m 99 #[.val (.int p0), .val (.long p1), .second, .val (.long v5), .second, .val (.int v12), .val (.ref b2), .val (.long v5), .second] [(.long v5), (.long (own_cnt (1440 : Int32) v5))])) (fun _ kk => XS.lload X49.here hx rfl (hb hby at_97) rfl kk) ?_
      refine own_st (G := T47.setTop (mkF m 100 #[.val (.int p0), .val (.long p1), .second, .val (.long v5), .second, .val (.int v12), .val (.ref b2), .val (.long v5), .second] [(.int (BdW.cmpL (own_cnt (1440 : Int32) v5) v5))])) (fun _ kk => XT.lcmp X49.here hx rfl (hb hby at_99) rfl kk) ?_
      have hk51 : ((own_cnt (1440 : Int32) v5) = v5) := own_k2 p1 v5 hv5
      refine own_st (G := T47.setTop (mkF m 103 #[.val (.int p0), .val (.long p1), .second, .val (.long v5), .second, .val (.int v12), .val (.ref b2), .val (.long v5), .second] [])) (fun _ kk => XS.ifNo X49.here hx rfl (hb hby at_100) rfl (XT.ll_ne_f hk51) kk) ?_
      refine own_st (G := T47.setTop (mkF m 104 #[.val (.int p0), .val (.long p1), .second, .val (.long v5), .second, .val (.int v12), .val (.ref b2), .val (.long v5), .second] [(.int (1 : Int32))])) (fun _ kk => XT.iconstV X49.here hx rfl (1 : Int32) (hb hby at_103) (by decide) kk) ?_
      refine own_st (G := T47.setTop (mkF m 108 #[.val (.int p0), .val (.long p1), .second, .val (.long v5), .second, .val (.int v12), .val (.ref b2), .val (.long v5), .second] [(.int (1 : Int32))])) (fun _ kk => XS.goto X49.here hx rfl (pc0 := 104) (pc' := 108) rfl (hb hby at_104) (by decide) (by decide) kk) ?_
      refine own_retB X49 hx hret (by simp) hlk (hb hby at_108) (by decide) (by decide) ?_
      exact ⟨rfl, N46⟩
set_option maxRecDepth 65536 in
set_option maxHeartbeats 40000000 in
theorem comes_1 {Post : Tables → Env → Array Value → State → Outcome → State → Prop} (hpost : ∀ tb e args s v u, (limb_1_1.after args s (.returned v) u = true ∧ limb_1_2.after args s (.returned v) u = true ∧ True) → FrameEnd s (.returned v) u (Jvm.fieldLocs frame_1_writes args s ++ Jvm.arrayLocs frame_1_arrays args s ++ Jvm.staticLocs frame_1_statics s) 0 0 → Post tb e args s (.returned v) u) :
    ArmFor flags0 classFile x code maxLocals ret World_1 tables_1 room_1 Calls_1 rest_1 Pre_1 Post := by
  intro l hfl _ _ p e ha hc hk s m args below hf hA hF happ hP
  obtain ⟨hcalls, hrest, hpre⟩ := hP
  obtain ⟨-, -, -, hnamed, -, -, -, hat⟩ := (Spec.applies_iff hf).mp happ
  obtain ⟨hg, hn⟩ := and_e (Cond.before_iff.mp (show (Jvm.Cond.and given_1 narrow_1).before args s = true from hpre))
  obtain ⟨hct, hk0⟩ := and_e hg
  obtain ⟨ha0, hk1⟩ := and_e hk0
  have ha1 := hk1
  obtain ⟨w0, w1, rfl⟩ : ∃ w0 w1 : Value, args = #[w0, w1] := by
    have hs : args.size = 2 := by simpa [Cond.value, given_1] using hct
    obtain ⟨L⟩ := args
    match L, hs with
    | [w0, w1], _ => exact ⟨w0, w1, rfl⟩
  have hw := fun d (hd : d ∈ tables_1) => atoms_spec (ws := Jvm.Cond.code x code maxLocals ret :: tables_1) hat d (List.mem_cons_of_mem _ hd)
  obtain ⟨i0, e0⟩ := is_v ha0
  obtain rfl : w0 = (.int i0) := Option.some.inj e0
  obtain ⟨i1, e1⟩ := isL_v ha1
  obtain rfl : w1 = (.long i1) := Option.some.inj e1
  obtain ⟨nn0, mm0⟩ := and_e hn
  obtain ⟨nn1, mm1⟩ := and_e mm0
  obtain ⟨nn2, mm2⟩ := and_e mm1
  obtain ⟨nn3, mm3⟩ := and_e mm2
  obtain ⟨nn4, mm4⟩ := and_e mm3
  have nn5 := mm4
  obtain ⟨a_MINUTE, ea_MINUTE⟩ := exa_v nn0
  have S_MINUTE : Sta s s.heap "com/example/finegrain/finegrain/FineUnit" "MINUTE" "Lcom/example/finegrain/finegrain/FineUnit;" (.ref a_MINUTE) := Sta.start ea_MINUTE (Or.inr ⟨(own_w hw 3 rfl), (own_w hw 4 rfl)⟩)
  have E_MINUTE : Exa s s.heap a_MINUTE "com/example/finegrain/finegrain/FineUnit" := Exa.start ea_MINUTE nn0
  obtain ⟨a_HOUR, ea_HOUR⟩ := exa_v nn2
  have S_HOUR : Sta s s.heap "com/example/finegrain/finegrain/FineUnit" "HOUR" "Lcom/example/finegrain/finegrain/FineUnit;" (.ref a_HOUR) := Sta.start ea_HOUR (Or.inr ⟨(own_w hw 3 rfl), (own_w hw 16 rfl)⟩)
  have E_HOUR : Exa s s.heap a_HOUR "com/example/finegrain/finegrain/FineUnit" := Exa.start ea_HOUR nn2
  obtain ⟨a_DAY, ea_DAY⟩ := exa_v nn4
  have S_DAY : Sta s s.heap "com/example/finegrain/finegrain/FineUnit" "DAY" "Lcom/example/finegrain/finegrain/FineUnit;" (.ref a_DAY) := Sta.start ea_DAY (Or.inr ⟨(own_w hw 3 rfl), (own_w hw 19 rfl)⟩)
  have E_DAY : Exa s s.heap a_DAY "com/example/finegrain/finegrain/FineUnit" := Exa.start ea_DAY nn4
  have F_MINUTE : Fld s s.heap a_MINUTE "com/example/finegrain/finegrain/FineUnit" "m_nMinutes" "I" (.int (1 : Int32)) := Fld.start (own_eqi nn1 ea_MINUTE)
  have F_HOUR : Fld s s.heap a_HOUR "com/example/finegrain/finegrain/FineUnit" "m_nMinutes" "I" (.int (60 : Int32)) := Fld.start (own_eqi nn3 ea_HOUR)
  have F_DAY : Fld s s.heap a_DAY "com/example/finegrain/finegrain/FineUnit" "m_nMinutes" "I" (.int (1440 : Int32)) := Fld.start (own_eqi nn5 ea_DAY)
  obtain ⟨n, o, h1, h2, h3, _, L, rfl, ⟨rfl, N⟩, hq⟩ := own_law l s _ hw tables_1 i0 i1 a_MINUTE a_HOUR a_DAY s.heap s.heap.size S_MINUTE E_MINUTE F_MINUTE S_HOUR E_HOUR F_HOUR S_DAY E_DAY F_DAY p e ha hc hk s m _ below hf ((Spec.applies_iff_loose hf).mp happ).1 ⟨rfl, State.Warmed39.refl s, rfl⟩ trivial
  refine ⟨n, _, h1, h2, h3, hpost _ _ _ _ _ _ ⟨Cond.after_iff.mpr rfl, Cond.after_iff.mpr (eq_i res_at (Term.int_eval (1)) rfl), trivial⟩ ⟨hq.1, hq.2.1, (hq.2.2.sift fun y hy => Or.inr (N y hy)).mono (by decide) (by decide)⟩⟩
theorem main_1_1 : Claimed_1_1 := comes_1 fun _ _ _ _ _ _ h hF => ⟨h.1, hF⟩
theorem main_1_2 : Claimed_1_2 := comes_1 fun _ _ _ _ _ _ h hF => ⟨h.2.1, hF⟩
end Jvm.Pilot.@@N@@
namespace Jvm.Pilot.@@N@@
open Jvm Jvm.ClassFile Sem Op Lib Jvm.Free Jvm.Stand Jvm.Pilot.@@N@@.Jvm.D
/-! MADE BY PROGRAM (witnessworld.py) out of the Statement's table words and the real class files: 12 classes; the members and pool entries that the words name. The judged class is class 1, her method 1. -/
namespace start1
open Jvm.ClassFile
def u (s : String) : CpInfo := .utf8 (stringToUtf16 s)
/-- a pool by its gaps: so many unusable entries, then the entry; so many at the end -/
def gap : Nat → List CpInfo → List CpInfo
  | 0, r => r
  | n + 1, r => .unusable :: gap n r
def poolList (es : List (Nat × CpInfo)) (last : Nat) : List CpInfo := es.foldr (fun e r => gap e.1 (e.2 :: r)) (gap last [])
def pool (es : List (Nat × CpInfo)) (last : Nat) : Array CpInfo := ⟨poolList es last⟩
def fileOf (pool : Array CpInfo) (this : Nat) (attrs : Array Attribute := #[]) (ms : Array MethodInfo := #[]) (fl : Nat := 33) (sup : Nat := 0) (ifs : Array Nat := #[]) (fds : Array FieldInfo := #[]) : ClassFile where
  minorVersion := 0
  majorVersion := 65
  constantPool := pool
  accessFlags := fl
  thisClass := this
  superClass := sup
  interfaces := ifs
  fields := fds
  methods := ms
  attributes := attrs
def plain (name : String) (sup : Option ClassId) : Class where
  name := name
  kind := .ordinary
  loader := none
  accessFlags := 33
  super := sup
  interfaces := #[]
  cf := none
  fields := #[]
  methods := #[]
  instanceTypes := #[]
  staticTypes := #[]
  resolved := #[]
  callSites := []
  init := .initialized
  statics := none
  mirror := none

def pool0 : Array CpInfo := pool [(5, u "<init>"), (0, u "()V"), (1, .class_ 10), (1, u "java/lang/Object")] 113

def k0m0 : Method := { name := "<init>", desc := "()V", sig := { parameters := [], returnType := none }, accessFlags := 1, code := none }
/-- java/lang/Object -/
def k0 : Class := { plain "java/lang/Object" none with
  accessFlags := 33
  interfaces := #[]
  cf := some (fileOf pool0 8 #[] #[{ accessFlags := 1, nameIndex := 5, descriptorIndex := 6, attributes := #[] }] 33 0 #[] #[])
  fields := #[]
  methods := #[k0m0]
  instanceTypes := #[]
  staticTypes := #[]
  resolved := Array.replicate 124 none
  statics := none }

def pool1 : Array CpInfo := pool [(2, .class_ 4), (1, u "java/lang/Object"), (0, u "<init>"), (0, u "()V"), (2, .long 9223372036854775807), (1, .integer 2147483647), (0, .fieldref 13 14), (0, .class_ 15), (0, .nameAndType 16 17), (0, u "com/example/finegrain/finegrain/FineUnit"), (0, u "MINUTE"), (0, u "Lcom/example/finegrain/finegrain/FineUnit;"), (0, .long 6405119470038038), (1, .long 1440), (1, .fieldref 13 23), (0, .nameAndType 24 17), (0, u "HOUR"), (0, .long 384307168202282325), (1, .long 24), (1, .fieldref 13 30), (0, .nameAndType 31 17), (0, u "DAY"), (0, .methodref 13 33), (0, .nameAndType 34 35), (0, u "countInDays"), (0, u "(J)J"), (0, .class_ 37), (0, u "com/example/finegrain/finegrain/FineUnitCountInDaysPinLaw"), (2, u "law"), (0, u "(IJ)Z")] 3

def k1m0 : Method := { name := "<init>", desc := "()V", sig := { parameters := [], returnType := none }, accessFlags := 2, code := none }
def k1c1 : Code := { maxStack := 4, maxLocals := 9, code := code, exceptionTable := #[], attributes := #[] }
def k1m1 : Method := { name := "law", desc := "(IJ)Z", sig := { parameters := [.int, .long], returnType := some .boolean }, accessFlags := 9, code := some k1c1 }
/-- com/example/finegrain/finegrain/FineUnitCountInDaysPinLaw -/
def k1 : Class := { plain "com/example/finegrain/finegrain/FineUnitCountInDaysPinLaw" (some 0) with
  accessFlags := 49
  interfaces := #[]
  cf := some (fileOf pool1 36 #[] #[{ accessFlags := 2, nameIndex := 5, descriptorIndex := 6, attributes := #[] }, { accessFlags := 9, nameIndex := 40, descriptorIndex := 41, attributes := #[] }] 49 2 #[] #[])
  fields := #[]
  methods := #[k1m0, k1m1]
  instanceTypes := #[]
  staticTypes := #[]
  resolved := Array.replicate 45 none
  statics := none }

def pool2 : Array CpInfo := pool [(1, .class_ 2), (0, u "java/lang/constant/Constable"), (0, .class_ 4), (0, u "java/lang/Object")] 6

/-- java/lang/constant/Constable -/
def k2 : Class := { plain "java/lang/constant/Constable" (some 0) with
  accessFlags := 1537
  interfaces := #[]
  cf := some (fileOf pool2 1 #[] #[] 1537 3 #[] #[])
  fields := #[]
  methods := #[]
  instanceTypes := #[]
  staticTypes := #[]
  resolved := Array.replicate 11 none
  statics := none }

def pool3 : Array CpInfo := pool [(1, .class_ 2), (0, u "java/lang/Comparable"), (0, .class_ 4), (0, u "java/lang/Object")] 7

/-- java/lang/Comparable -/
def k3 : Class := { plain "java/lang/Comparable" (some 0) with
  accessFlags := 1537
  interfaces := #[]
  cf := some (fileOf pool3 1 #[] #[] 1537 3 #[] #[])
  fields := #[]
  methods := #[]
  instanceTypes := #[]
  staticTypes := #[]
  resolved := Array.replicate 12 none
  statics := none }

def pool4 : Array CpInfo := pool [(1, .class_ 2), (0, u "java/io/Serializable"), (0, .class_ 4), (0, u "java/lang/Object")] 2

/-- java/io/Serializable -/
def k4 : Class := { plain "java/io/Serializable" (some 0) with
  accessFlags := 1537
  interfaces := #[]
  cf := some (fileOf pool4 1 #[] #[] 1537 3 #[] #[])
  fields := #[]
  methods := #[]
  instanceTypes := #[]
  staticTypes := #[]
  resolved := Array.replicate 7 none
  statics := none }

def pool5 : Array CpInfo := pool [(2, .class_ 4), (1, u "java/lang/Enum"), (0, u "name"), (0, u "Ljava/lang/String;"), (2, u "ordinal"), (0, u "I"), (1, .class_ 14), (1, u "java/lang/Object"), (4, u "hash"), (86, .class_ 108), (1, u "java/lang/Enum$EnumDesc"), (2, .class_ 112), (0, u "java/lang/constant/Constable"), (0, .class_ 114), (0, u "java/lang/Comparable"), (0, .class_ 116), (0, u "java/io/Serializable")] 87

/-- java/lang/Enum -/
def k5 : Class := { plain "java/lang/Enum" (some 0) with
  accessFlags := 1057
  interfaces := #[2, 3, 4]
  cf := some (fileOf pool5 2 #[.nestMembers #[106]] #[] 1057 12 #[111, 113, 115] #[{ accessFlags := 18, nameIndex := 5, descriptorIndex := 6, attributes := #[] }, { accessFlags := 18, nameIndex := 9, descriptorIndex := 10, attributes := #[] }, { accessFlags := 2, nameIndex := 19, descriptorIndex := 10, attributes := #[] }])
  fields := #[{ name := "name", type := (.object "java/lang/String"), accessFlags := 18, slot := 0, constantValue := 0 }, { name := "ordinal", type := .int, accessFlags := 18, slot := 1, constantValue := 0 }, { name := "hash", type := .int, accessFlags := 2, slot := 2, constantValue := 0 }]
  methods := #[]
  instanceTypes := #[(.object "java/lang/String"), .int, .int]
  staticTypes := #[]
  resolved := Array.replicate 204 none
  statics := none }

def pool6 : Array CpInfo := pool [(1, .class_ 2), (0, u "com/example/finegrain/finegrain/FineUnit"), (2, u "MINUTE"), (0, u "Lcom/example/finegrain/finegrain/FineUnit;"), (2, u "HOUR"), (2, u "DAY"), (2, u "WEEK"), (2, u "MONTH"), (2, u "$VALUES"), (0, u "[Lcom/example/finegrain/finegrain/FineUnit;"), (6, .class_ 31), (1, u "java/lang/Enum"), (8, u "m_sName"), (0, u "Ljava/lang/String;"), (2, u "m_aLength"), (0, u "Ljava/time/temporal/ChronoUnit;"), (12, .fieldref 1 59), (0, .nameAndType 60 61), (0, u "m_nMinutes"), (0, u "I"), (72, .long 9223372036854775807), (38, u "DAYS_PER_WEEK"), (21, u "countInDays"), (0, u "(J)J")] 5

def k6c0 : Code := { maxStack := 6, maxLocals := 5, code := prog_13_method_13_code, exceptionTable := #[], attributes := #[] }
def k6m0 : Method := { name := "countInDays", desc := "(J)J", sig := { parameters := [.long], returnType := some .long }, accessFlags := 0, code := some k6c0 }
/-- com/example/finegrain/finegrain/FineUnit -/
def k6 : Class := { plain "com/example/finegrain/finegrain/FineUnit" (some 5) with
  accessFlags := 16433
  interfaces := #[]
  cf := some (fileOf pool6 1 #[] #[{ accessFlags := 0, nameIndex := 195, descriptorIndex := 196, attributes := #[] }] 16433 29 #[] #[{ accessFlags := 16409, nameIndex := 5, descriptorIndex := 6, attributes := #[] }, { accessFlags := 16409, nameIndex := 9, descriptorIndex := 6, attributes := #[] }, { accessFlags := 16409, nameIndex := 12, descriptorIndex := 6, attributes := #[] }, { accessFlags := 16409, nameIndex := 15, descriptorIndex := 6, attributes := #[] }, { accessFlags := 16409, nameIndex := 18, descriptorIndex := 6, attributes := #[] }, { accessFlags := 26, nameIndex := 173, descriptorIndex := 61, attributes := #[] }, { accessFlags := 18, nameIndex := 40, descriptorIndex := 41, attributes := #[] }, { accessFlags := 18, nameIndex := 44, descriptorIndex := 45, attributes := #[] }, { accessFlags := 18, nameIndex := 60, descriptorIndex := 61, attributes := #[] }, { accessFlags := 4122, nameIndex := 21, descriptorIndex := 22, attributes := #[] }])
  fields := #[{ name := "MINUTE", type := (.object "com/example/finegrain/finegrain/FineUnit"), accessFlags := 16409, slot := 0, constantValue := 0 }, { name := "HOUR", type := (.object "com/example/finegrain/finegrain/FineUnit"), accessFlags := 16409, slot := 1, constantValue := 0 }, { name := "DAY", type := (.object "com/example/finegrain/finegrain/FineUnit"), accessFlags := 16409, slot := 2, constantValue := 0 }, { name := "WEEK", type := (.object "com/example/finegrain/finegrain/FineUnit"), accessFlags := 16409, slot := 3, constantValue := 0 }, { name := "MONTH", type := (.object "com/example/finegrain/finegrain/FineUnit"), accessFlags := 16409, slot := 4, constantValue := 0 }, { name := "DAYS_PER_WEEK", type := .int, accessFlags := 26, slot := 5, constantValue := 0 }, { name := "m_sName", type := (.object "java/lang/String"), accessFlags := 18, slot := 3, constantValue := 0 }, { name := "m_aLength", type := (.object "java/time/temporal/ChronoUnit"), accessFlags := 18, slot := 4, constantValue := 0 }, { name := "m_nMinutes", type := .int, accessFlags := 18, slot := 5, constantValue := 0 }, { name := "$VALUES", type := (.array (.object "com/example/finegrain/finegrain/FineUnit")), accessFlags := 4122, slot := 6, constantValue := 0 }]
  methods := #[k6m0]
  instanceTypes := #[(.object "java/lang/String"), .int, .int, (.object "java/lang/String"), (.object "java/time/temporal/ChronoUnit"), .int]
  staticTypes := #[(.object "com/example/finegrain/finegrain/FineUnit"), (.object "com/example/finegrain/finegrain/FineUnit"), (.object "com/example/finegrain/finegrain/FineUnit"), (.object "com/example/finegrain/finegrain/FineUnit"), (.object "com/example/finegrain/finegrain/FineUnit"), .int, (.array (.object "com/example/finegrain/finegrain/FineUnit"))]
  resolved := Array.replicate 202 none
  statics := some 0 }

def pool7 : Array CpInfo := pool [(1, u "java/lang/Cloneable"), (0, .class_ 1), (0, u "java/lang/Object"), (0, .class_ 3)] 3

/-- java/lang/Cloneable -/
def k7 : Class := { plain "java/lang/Cloneable" (some 0) with
  accessFlags := 1537
  interfaces := #[]
  cf := some (fileOf pool7 2 #[] #[] 1537 4 #[] #[])
  fields := #[]
  methods := #[]
  instanceTypes := #[]
  staticTypes := #[]
  resolved := Array.replicate 8 none
  statics := none }

/-- the primitive byte -/
def k8 : Class := { plain "byte" none with kind := .primitive 'B', accessFlags := 0x411 }
/-- [B -/
def k9 : Class := { plain "[B" (some 0) with kind := .array 8 .byte, interfaces := #[7, 4], accessFlags := 1041 }

/-- the primitive int -/
def k10 : Class := { plain "int" none with kind := .primitive 'I', accessFlags := 0x411 }
/-- [I -/
def k11 : Class := { plain "[I" (some 0) with kind := .array 10 .int, interfaces := #[7, 4], accessFlags := 1041 }

def heap : Heap := #[{ cls := 6, slots := #[.ref 1, .ref 2, .ref 3, .null, .null, .int 0, .null], vm := .statics 6 },
  { cls := 6, slots := #[.null, .int 0, .int 0, .null, .null, .int 1], vm := .none },
  { cls := 6, slots := #[.null, .int 1, .int 0, .null, .null, .int 60], vm := .none },
  { cls := 6, slots := #[.null, .int 2, .int 0, .null, .null, .int 1440], vm := .none }]
def classes : Array Class := #[k0, k1, k2, k3, k4, k5, k6, k7, k8, k9, k10, k11]
def interned : List (Array UInt16 × Addr) := []
def slotsUsed : Nat := 25
def theMethod : MethodId := ⟨1, 1⟩
def args0 : Array Value := #[.int 5, .long 7]
def aboutOver (below : List Frame) : State where
  vm := { classes := classes, interned := interned.toArray }
  heap := heap
  slotsUsed := slotsUsed
  threads := #[{ frames := .invoking theMethod args0 :: below }]
def below0 : List Frame := [.native { method := ⟨0, 0⟩, args := #[] }]
def about1 : State := aboutOver below0
def p0 : Program := .bare "" "" ""
def e0 : Env := launch0.env 0 0 0
theorem w_frames : about1.frames = Frame.invoking theMethod args0 :: below0 := rfl
set_option maxRecDepth 65536 in
theorem w_args : argsFit about1.vm theMethod args0 = true := by decide +kernel
set_option maxRecDepth 65536 in
theorem w_heap : heapFits about1 = true := by decide +kernel
set_option maxRecDepth 65536 in
theorem w_runnable : about1.curStatus? = some .runnable := by decide +kernel
set_option maxRecDepth 65536 in
theorem w_alone : about1.alone = true := by decide +kernel
set_option maxRecDepth 65536 in
theorem w_named : about1.methodNamed? x = some theMethod := by decide +kernel
set_option maxRecDepth 65536 in
theorem w_hears : about1.hears theMethod below0 = true := by decide +kernel
set_option maxRecDepth 65536 in
theorem w_ripe : about1.ripe theMethod args0 below0 = true := by decide +kernel
theorem w_running : about1.status = .running := rfl
set_option maxRecDepth 65536 in
theorem w_room : about1.hasRoom e0.platform room_1 = true :=
  launch0.hasRoom_least _ room_1 (by decide +kernel) (by decide +kernel) (by decide +kernel) (by decide +kernel) (by decide +kernel) (by decide +kernel)
theorem allAtoms_all (ts : List Jvm.Cond) (a : Array Jvm.Value) (st : Jvm.State) : (allAtoms ts).before a st = ts.all (fun c => c.before a st) := by
  induction ts with
  | nil => rfl
  | cons c t ih =>
    show (Jvm.Cond.and c (allAtoms t)).before a st = _
    rw [Jvm.Cond.before_and, ih, List.all_cons]
def words1 : List Jvm.Cond := Jvm.Cond.code x code maxLocals ret :: tables_1
/-- a 'code' word, met by the world's own term for the bytes: nothing is compared byte by byte -/
theorem code_word {y : MethodName} {bytes : ByteArray} {mx : Nat} {rt : Option FieldType} {a : Array Value} {s : State} {m : MethodId} {meth : Method} {c : Code} (h1 : s.methodNamed? y = some m) (h2 : s.vm.method? m = some meth) (h3 : meth.code = some c) (h4 : c.code = bytes)
    (h5 : (c.maxLocals == mx && c.exceptionTable.isEmpty && decide (c.maxStack ≤ mostOperands) && decide (meth.sig.returnType = rt) && !meth.locks && decide (parseMethodDescriptor y.desc = some meth.sig)) = true) : (Jvm.Cond.code y bytes mx rt).before a s = true := by
  simp only [Bool.and_eq_true, beq_iff_eq, Bool.not_eq_true', decide_eq_true_eq] at h5
  obtain ⟨⟨⟨⟨⟨g1, g2⟩, g3⟩, g4⟩, g5⟩, g6⟩ := h5
  simp [Cond.before, Cond.holds, Cond.value, h1, h2, h3, h4, g1, g2, g3, g4, g5, g6]
def isCode : Jvm.Cond → Bool
  | .code _ _ _ _ => true
  | _ => false
theorem all_split {L : List Jvm.Cond} {P : Jvm.Cond → Bool} (h1 : L.all (fun c => isCode c || P c) = true) (h2 : ∀ c ∈ L.filter isCode, P c = true) : L.all P = true := by
  refine List.all_eq_true.mpr fun c hc => ?_
  have h := List.all_eq_true.mp h1 c hc
  rcases Bool.eq_false_or_eq_true (isCode c) with hi | hi
  · exact h2 c (List.mem_filter.mpr ⟨hc, hi⟩)
  · simpa [hi] using h
set_option maxRecDepth 65536 in
theorem w_c0 : (Jvm.Cond.code x code maxLocals ret).before args0 about1 = true := code_word (m := ⟨1, 1⟩) (meth := k1m1) (c := k1c1) (by decide +kernel) rfl rfl rfl (by decide +kernel)
set_option maxRecDepth 65536 in
theorem w_c1 : (Jvm.Cond.code ({ cls := "com/example/finegrain/finegrain/FineUnit", name := "countInDays", desc := "(J)J" } : Jvm.MethodName) prog_13_method_13_code (5 : Nat) (Option.some Jvm.ClassFile.FieldType.long)).before args0 about1 = true := code_word (m := ⟨6, 0⟩) (meth := k6m0) (c := k6c0) (by decide +kernel) rfl rfl rfl (by decide +kernel)
def codes1 : List Jvm.Cond := [Jvm.Cond.code x code maxLocals ret, Jvm.Cond.code ({ cls := "com/example/finegrain/finegrain/FineUnit", name := "countInDays", desc := "(J)J" } : Jvm.MethodName) prog_13_method_13_code (5 : Nat) (Option.some Jvm.ClassFile.FieldType.long)]
set_option maxRecDepth 65536 in
theorem codes_eq : words1.filter isCode = codes1 := rfl
theorem w_codes : ∀ c ∈ words1.filter isCode, c.before args0 about1 = true := by
  rw [codes_eq]
  intro c hc
  simp only [codes1, List.mem_cons, List.not_mem_nil, or_false] at hc
  rcases hc with rfl | rfl
  · exact w_c0
  · exact w_c1
set_option maxRecDepth 65536 in
theorem w_t1 : words1.all (fun c => isCode c || c.before args0 about1) = true := by decide +kernel
theorem w_tables : (allAtoms (Jvm.Cond.code x code maxLocals ret :: tables_1)).before args0 about1 = true := by
  rw [allAtoms_all]
  show words1.all (fun c => c.before args0 about1) = true
  refine all_split ?_ w_codes
  rw [w_t1]
set_option maxRecDepth 65536 in
theorem w_case : (Jvm.Cond.and given_1 narrow_1).before args0 about1 = true := by decide +kernel
theorem w_applies : (headSpec (Jvm.Cond.code x code maxLocals ret :: tables_1) room_1).applies x e0.platform about1 = true :=
  (Spec.applies_iff w_frames).mpr ⟨w_running, w_runnable, w_alone, w_named, w_hears, w_ripe, w_room, w_tables⟩
theorem atStart : AtStart classFile x code maxLocals ret World_1 tables_1 room_1 Calls_1 rest_1 Pre_1 launch0 p0 e0 about1 theMethod args0 below0 :=
  ⟨lists_1, trivial, launch0.admits_env _ _ _, launch0.least_env, fairChoices_fair.cas, fairChoices_fair.clock, w_frames, w_args, w_heap, w_applies, trivial, trivial, w_case⟩
end start1
theorem witness_1 : WitnessClaimed_1 := ⟨start1.p0, start1.e0, start1.about1, start1.theMethod, start1.args0, start1.below0, start1.atStart⟩
end Jvm.Pilot.@@N@@
