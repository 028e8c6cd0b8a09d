import JvmDerived
import JvmDerived.Pilot.@@N@@Statement
import JvmDerived.Pilot.@@N@@Code
set_option linter.unusedVariables false
set_option linter.unusedSimpArgs false
@@BLOCK:NumsL.lean.txt@@
namespace Jvm.RoadKit
open Sem ClassFile Op Lib Jvm.Stand Jvm.Free Jvm.LawKit
section Own
variable {p : Program} {l : Launch} {e : Env} {R : Room} {s : State} {m : MethodId} {args : Array Value} {below : List Frame} {meth : Method} {c : Code} {T : State} {locs : List Loc} {cells slots : Nat} {Z : State} {a0 : Array Value} {h : Heap}
/-- from the state F the walked method comes to its end, and Q holds there -/
def own_Out (p : Program) (e : Env) (below : List Frame) (Q : Outcome → State → Prop) (F : State) : Prop :=
  ∃ s₂ o, Steps p.tables e below F s₂ ∧ s₂.status = .running ∧ Ended s₂ below o ∧ Q o s₂
/-- what a contract says of the end, out of a statement on the value, the heap and the written places -/
def own_Q (Q : Option Value → Heap → List Loc → Prop) (s : State) (k n : Nat) : Outcome → State → Prop :=
  fun o U => ∃ v L, o = .returned v ∧ Q v U.heap L ∧ FrameEnd s o U L k n
theorem own_st {Q : Outcome → State → Prop} {F G : State} (h : ∀ t, Steps p.tables e below G t → Steps p.tables e below F t) (k : own_Out p e below Q G) : own_Out p e below Q F := by
  obtain ⟨s2, o, h1, h2⟩ := k
  exact ⟨s2, o, h _ h1, h2⟩
theorem own_tr {Q : Outcome → State → Prop} {F G : State} (h : Steps p.tables e below F G) (k : own_Out p e below Q G) : own_Out p e below Q F :=
  own_st (fun _ q => h.trans q) k
theorem own_retB (X : Stand p l e R s m args below meth c T locs cells slots) (hx : p.tables.exec = Jvm.exec) {Q : Option Value → Heap → List Loc → Prop} {k n : Nat} {pc : Nat} {Ls : Array Slot} {z : Int32} {t : FieldType} {rest : List Value}
    (hret : meth.sig.returnType = some t) (ht : t = .boolean ∨ t = .byte ∨ t = .char ∨ t = .short) (hlk : meth.locks = false) (hd : decode c.code pc = .ok (.ireturn, 1)) (hc : cells ≤ k) (hs : slots ≤ n)
    (hq : Q (some (.int (nar t z))) T.heap locs) : own_Out p e below (own_Q Q s k n) (T.setTop (mkF m pc Ls (.int z :: rest))) := by
  obtain ⟨fs, hr, hrun, hended, hW, hsame⟩ := X.leave (v := some (.int (nar t z))) (fun h => by rw [hret] at h; cases h) hlk
  exact ⟨_, _, retN X hx (t := t) hret ht hd hr, hrun, hended, _, _, rfl, hq, ⟨_, rfl⟩, hW, hsame.mono hc hs⟩
theorem own_retV (X : Stand p l e R s m args below meth c T locs cells slots) (hx : p.tables.exec = Jvm.exec) {Q : Option Value → Heap → List Loc → Prop} {k n : Nat} {pc : Nat} {Ls : Array Slot} {w : Value} {t : FieldType} {i : Instr} {rest : List Value}
    (hret : meth.sig.returnType = some t) (hn : narrow t w = w)
    (hi : (i = .ireturn ∧ (t = .int ∨ t = .boolean ∨ t = .byte ∨ t = .char ∨ t = .short) ∧ ∃ z, w = .int z) ∨ (i = .lreturn ∧ t = .long ∧ ∃ z, w = .long z) ∨ (i = .dreturn ∧ t = .double ∧ ∃ z, w = .double z) ∨ (i = .freturn ∧ t = .float ∧ ∃ z, w = .float z) ∨ (i = .areturn ∧ t.isReference = true ∧ w.isRef = true))
    (hlk : meth.locks = false) (hd : decode c.code pc = .ok (i, 1)) (hc : cells ≤ k) (hs : slots ≤ n)
    (hq : Q (some w) T.heap locs) : own_Out p e below (own_Q Q s k n) (T.setTop (mkF m pc Ls (w :: rest))) := by
  obtain ⟨fs, hr, hrun, hended, hW, hsame⟩ := X.leave (v := some w) (fun h => by rw [hret] at h; cases h) hlk
  exact ⟨_, _, retOut X hx hret hn hi hd hr, hrun, hended, _, _, rfl, hq, ⟨_, rfl⟩, hW, hsame.mono hc hs⟩
theorem own_retI (X : Stand p l e R s m args below meth c T locs cells slots) (hx : p.tables.exec = Jvm.exec) {Q : Option Value → Heap → List Loc → Prop} {k n : Nat} {pc : Nat} {Ls : Array Slot} {z : Int32} {rest : List Value}
    (hret : meth.sig.returnType = some .int) (hlk : meth.locks = false) (hd : decode c.code pc = .ok (.ireturn, 1)) (hc : cells ≤ k) (hs : slots ≤ n)
    (hq : Q (some (.int z)) T.heap locs) : own_Out p e below (own_Q Q s k n) (T.setTop (mkF m pc Ls (.int z :: rest))) :=
  own_retV X hx hret rfl (Or.inl ⟨rfl, Or.inl rfl, _, rfl⟩) hlk hd hc hs hq
theorem own_retJ (X : Stand p l e R s m args below meth c T locs cells slots) (hx : p.tables.exec = Jvm.exec) {Q : Option Value → Heap → List Loc → Prop} {k n : Nat} {pc : Nat} {Ls : Array Slot} {z : Int64} {rest : List Value}
    (hret : meth.sig.returnType = some .long) (hlk : meth.locks = false) (hd : decode c.code pc = .ok (.lreturn, 1)) (hc : cells ≤ k) (hs : slots ≤ n)
    (hq : Q (some (.long z)) T.heap locs) : own_Out p e below (own_Q Q s k n) (T.setTop (mkF m pc Ls (.long z :: rest))) :=
  own_retV X hx hret rfl (Or.inr (Or.inl ⟨rfl, rfl, _, rfl⟩)) hlk hd hc hs hq
theorem own_retA (X : Stand p l e R s m args below meth c T locs cells slots) (hx : p.tables.exec = Jvm.exec) {Q : Option Value → Heap → List Loc → Prop} {k n : Nat} {pc : Nat} {Ls : Array Slot} {w : Value} {t : FieldType} {rest : List Value}
    (hret : meth.sig.returnType = some t) (ht : t.isReference = true) (hw : w.isRef = true) (hlk : meth.locks = false) (hd : decode c.code pc = .ok (.areturn, 1)) (hc : cells ≤ k) (hs : slots ≤ n)
    (hq : Q (some w) T.heap locs) : own_Out p e below (own_Q Q s k n) (T.setTop (mkF m pc Ls (w :: rest))) :=
  own_retV X hx hret (by cases t <;> first | (cases ht; done) | rfl | (cases w <;> rfl)) (Or.inr (Or.inr (Or.inr (Or.inr ⟨rfl, ht, hw⟩)))) hlk hd hc hs hq
theorem own_ret0 (X : Stand p l e R s m args below meth c T locs cells slots) (hx : p.tables.exec = Jvm.exec) {Q : Option Value → Heap → List Loc → Prop} {k n : Nat} {pc : Nat} {Ls : Array Slot}
    (hret : meth.sig.returnType = none) (hlk : meth.locks = false) (hd : decode c.code pc = .ok (.return_, 1)) (hc : cells ≤ k) (hs : slots ≤ n)
    (hq : Q none T.heap locs) : own_Out p e below (own_Q Q s k n) (T.setTop (mkF m pc Ls [])) := by
  obtain ⟨fs, hr, hrun, hended, hW, hsame⟩ := X.leave (v := none) (fun _ => rfl) hlk
  exact ⟨_, _, X.returnOut hx hret hd hr, hrun, hended, _, _, rfl, hq, ⟨_, rfl⟩, hW, hsame.mono hc hs⟩
/-- the head of every body's walk -/
theorem own_body {x : MethodName} {code : ByteArray} {maxL : Nat} {ret : Option FieldType} {ws : List Jvm.Cond} {rm : Room} {as' : Array Value} {Q : Option Value → Heap → List Loc → Prop} (hpn : plainName x.cls = true) (Lf : Array Slot)
    (hent : ∀ m, entryFrame m as' maxL = mkF m 0 Lf [])
    (body : ∀ p e s m below meth c T, Stand p l e rm s m as' below meth c T [] 0 0 → p.tables.exec = Jvm.exec → c.code = code → c.maxLocals = maxL → meth.sig.returnType = ret → meth.locks = false →
      s.vm.findClass x.cls = some m.cls → meth.name = x.name → Z.Warmed39 s.vm → T.heap = h → own_Out p e below (own_Q Q s rm.cells rm.slots) (T.setTop (mkF m 0 Lf []))) :
    MetFree l x (head1 (Jvm.Cond.code x code maxL ret :: ws) rm) (fun a U => a = as' ∧ Z.Warmed39 U.vm ∧ U.heap = h) (fun _ _ _ _ _ => True)
      (fun _ U o U' => ∃ v L, o = .returned v ∧ Q v U'.heap L ∧ FrameEnd U o U' L rm.cells rm.slots) := by
  refine MetFree.of_bodySF (plainFor_of_name hpn) hisR ?_
  intro p e s m args below meth c s₁ Bd hml0 hP hK
  obtain ⟨rfl, hZ, hh⟩ := hP
  have e0 : s₁.heap = h := by rw [← hh, Bd.state]; rfl
  obtain ⟨s2, o, h1, h2⟩ := body p e s m below meth c s₁ (Stand.of_body Bd) Bd.exec Bd.bytes hml0 Bd.returns (BodyLoose.notSynchronized Bd) (findClass_of_methodNamed Bd.named) (name_of_methodNamed Bd.named Bd.method).1 hZ e0
  exact ⟨s2, o, castTop (hent m) h1, h2⟩
/-- a static call by the callee's own contract -/
theorem own_callS (X : Stand p l e R s m args below meth c T locs cells slots) (hx : p.tables.exec = Jvm.exec) (hZ : Z.Warmed39 s.vm) {own : String} {index : Nat} {y : MethodName} {bytes : ByteArray} {maxL : Nat} {ret : Option FieldType} {rm : Room} {as' : List Value} {Q : Option Value → Heap → List Loc → Prop} {Qf : Outcome → State → Prop}
    (hown : s.vm.findClass own = some m.cls) (w1 : (Jvm.Cond.methodLink own index y).before a0 Z = true) (w2 : (Jvm.Cond.static y).before a0 Z = true) (w3 : (Jvm.Cond.initialized y.cls).before a0 Z = true) (w4 : (Jvm.Cond.code y bytes maxL ret).before a0 Z = true)
    (hy : y.cls ≠ "java/lang/invoke/MethodHandle" ∧ y.cls ≠ "java/lang/invoke/VarHandle")
    (hM : MetFree l y (head1 [Jvm.Cond.code y bytes maxL ret] rm) (fun a U => a = as'.toArray ∧ Z.Warmed39 U.vm ∧ U.heap = h) (fun _ _ _ _ _ => True) (fun _ U o U' => ∃ v L, o = .returned v ∧ Q v U'.heap L ∧ FrameEnd U o U' L rm.cells rm.slots))
    (W : Nat) (hf : rm.frames + 1 ≤ R.frames) (hl : W + (maxL + 11) + rm.locals ≤ R.locals) (hc : cells + rm.cells ≤ R.cells) (hs : slots + rm.slots ≤ R.slots)
    {pc : Nat} {Ls : Array Slot} {stk rest : List Value} (hsize : Ls.size = c.maxLocals) (hlen : ∀ sig, parseMethodDescriptor y.desc = some sig → as'.length = sig.parameters.length) (hstack : stk = as'.reverse ++ rest) (hW : (rest.map fun v => v.category).sum ≤ W) (hd : decode c.code pc = .ok (.invokestatic index, 3)) (eT : T.heap = h)
    (k : ∀ T' L v, Stand p l e R s m args below meth c T' (locs ++ L) (cells + rm.cells) (slots + rm.slots) → Q v T'.heap L → own_Out p e below Qf (T'.setTop (mkF m (pc + 3) Ls (v.toList ++ rest)))) :
    own_Out p e below Qf (T.setTop (mkF m pc Ls stk)) := by
  obtain ⟨v, _, ⟨T', L', k', n'⟩, -, X', ⟨Lc, hQ, hl', hy', hz'⟩, st⟩ := Jvm.LawKit.callS X hx (y := y) hown (mvT hZ w1) (mvT hZ w2) (mvT hZ w3) (mvT hZ w4) hy (backOf (W := W) hM hZ w4 w3 hf hl) (g := mkF m pc Ls stk) rfl hsize (argsL := as') (rest := rest) hlen hstack (by show 2 * 0 + _ ≤ _; omega) hd (fun _ _ => ⟨rfl, eT, hc, hs⟩)
  dsimp only [Pt.U, Pt.locs, Pt.cells, Pt.slots] at X' hl' hy' hz' st hQ
  subst hl' hy' hz'
  exact own_st st (k _ _ _ X' hQ)
/-- an instance method by its own contract -/
theorem own_callV (X : Stand p l e R s m args below meth c T locs cells slots) (hx : p.tables.exec = Jvm.exec) (hZ : Z.Warmed39 s.vm) {own C : String} {index : Nat} {y : MethodName} {bytes : ByteArray} {maxL : Nat} {ret : Option FieldType} {rm : Room} {b : Addr} {as' : List Value} {Q : Option Value → Heap → List Loc → Prop} {Qf : Outcome → State → Prop}
    (hown : s.vm.findClass own = some m.cls) (w1 : (Jvm.Cond.methodLink own index y).before a0 Z = true) (w2 : (Jvm.Cond.declares y).before a0 Z = true) (w5 : (Jvm.Cond.selects C y y).before a0 Z = true) (w6 : (Jvm.Cond.instanceMethod y).before a0 Z = true) (w4 : (Jvm.Cond.code y bytes maxL ret).before a0 Z = true) (w3 : (Jvm.Cond.initialized y.cls).before a0 Z = true)
    (hy : y.cls ≠ "java/lang/invoke/MethodHandle" ∧ y.cls ≠ "java/lang/invoke/VarHandle")
    (hM : MetFree l y (head1 [Jvm.Cond.code y bytes maxL ret] rm) (fun a U => a = (.ref b :: as').toArray ∧ Z.Warmed39 U.vm ∧ U.heap = h) (fun _ _ _ _ _ => True) (fun _ U o U' => ∃ v L, o = .returned v ∧ Q v U'.heap L ∧ FrameEnd U o U' L rm.cells rm.slots))
    (E : Exa Z h b C)
    (W : Nat) (hf : rm.frames + 1 ≤ R.frames) (hl : W + (maxL + 11) + rm.locals ≤ R.locals) (hc : cells + rm.cells ≤ R.cells) (hs : slots + rm.slots ≤ R.slots)
    {pc : Nat} {Ls : Array Slot} {stk rest : List Value} (hsize : Ls.size = c.maxLocals) (hlen : ∀ sig, parseMethodDescriptor y.desc = some sig → as'.length = sig.parameters.length) (hstack : stk = as'.reverse ++ .ref b :: rest) (hW : (rest.map fun v => v.category).sum ≤ W) (hd : decode c.code pc = .ok (.invokevirtual index, 3)) (eT : T.heap = h)
    (k : ∀ T' L v, Stand p l e R s m args below meth c T' (locs ++ L) (cells + rm.cells) (slots + rm.slots) → Q v T'.heap L → own_Out p e below Qf (T'.setTop (mkF m (pc + 3) Ls (v.toList ++ rest)))) :
    own_Out p e below Qf (T.setTop (mkF m pc Ls stk)) := by
  obtain ⟨cq, kq, qa, qb, qc⟩ := isOf hZ eT E
  obtain ⟨v, _, ⟨T', L', k', n'⟩, -, X', ⟨Lc, hQ, hl', hy', hz'⟩, st⟩ := X.virtualBack hx (y := y) (z := y) hown (mvT hZ w1) (mvT hZ w2) (notFace_of_selects (args := #[]) (mvT hZ w5)) (mvT hZ w5) (mvT hZ w6) hy (backOf (W := W) hM hZ w4 w3 hf hl) qa qc (g := mkF m pc Ls stk) rfl hsize (Steps.refl _) (argsL := as') (rest := rest) hlen hstack (by show 2 * 0 + _ ≤ _; omega) hd (fun _ _ => ⟨rfl, eT, hc, hs⟩)
  dsimp only [Pt.U, Pt.locs, Pt.cells, Pt.slots] at X' hl' hy' hz' st hQ
  subst hl' hy' hz'
  exact own_tr st (k _ _ _ X' hQ)
/-- a constructor by its own contract -/
theorem own_callI (X : Stand p l e R s m args below meth c T locs cells slots) (hx : p.tables.exec = Jvm.exec) (hZ : Z.Warmed39 s.vm) {own : String} {index : Nat} {y : MethodName} {bytes : ByteArray} {maxL : Nat} {rm : Room} {b : Addr} {as' : List Value} {Q : Option Value → Heap → List Loc → Prop} {Qf : Outcome → State → Prop} (hy1 : y.name = "<init>")
    (hown : s.vm.findClass own = some m.cls) (w1 : (Jvm.Cond.methodLink own index y).before a0 Z = true) (w6 : (Jvm.Cond.instanceMethod y).before a0 Z = true) (w4 : (Jvm.Cond.code y bytes maxL none).before a0 Z = true) (w3 : (Jvm.Cond.initialized y.cls).before a0 Z = true)
    (hy : y.cls ≠ "java/lang/invoke/MethodHandle" ∧ y.cls ≠ "java/lang/invoke/VarHandle")
    (hM : MetFree l y (head1 [Jvm.Cond.code y bytes maxL none] rm) (fun a U => a = (.ref b :: as').toArray ∧ Z.Warmed39 U.vm ∧ U.heap = h) (fun _ _ _ _ _ => True) (fun _ U o U' => ∃ v L, o = .returned v ∧ Q v U'.heap L ∧ FrameEnd U o U' L rm.cells rm.slots))
    (W : Nat) (hf : rm.frames + 1 ≤ R.frames) (hl : W + (maxL + 11) + rm.locals ≤ R.locals) (hc : cells + rm.cells ≤ R.cells) (hs : slots + rm.slots ≤ R.slots)
    {pc : Nat} {Ls : Array Slot} {stk rest : List Value} (hsize : Ls.size = c.maxLocals) (hlen : ∀ sig, parseMethodDescriptor y.desc = some sig → as'.length = sig.parameters.length) (hstack : stk = as'.reverse ++ .ref b :: rest) (hW : (rest.map fun v => v.category).sum ≤ W) (hd : decode c.code pc = .ok (.invokespecial index, 3)) (eT : T.heap = h)
    (k : ∀ T' L v, Stand p l e R s m args below meth c T' (locs ++ L) (cells + rm.cells) (slots + rm.slots) → Q v T'.heap L → own_Out p e below Qf (T'.setTop (mkF m (pc + 3) Ls (v.toList ++ rest)))) :
    own_Out p e below Qf (T.setTop (mkF m pc Ls stk)) := by
  obtain ⟨v, _, ⟨T', L', k', n'⟩, -, X', ⟨Lc, hQ, hl', hy', hz'⟩, st⟩ := X.specialBack hx (y := y) hy1 hown (mvT hZ w1) (mvT hZ w6) (mvT hZ w4) hy (backOf (W := W) hM hZ w4 w3 hf hl) (g := mkF m pc Ls stk) rfl hsize (Steps.refl _) (a := b) (argsL := as') (rest := rest) hlen hstack (by show 2 * 0 + _ ≤ _; omega) hd (fun _ _ => ⟨rfl, eT, hc, hs⟩)
  dsimp only [Pt.U, Pt.locs, Pt.cells, Pt.slots] at X' hl' hy' hz' st hQ
  subst hl' hy' hz'
  exact own_tr st (k _ _ _ X' hQ)
theorem own_fits {C : String} {v : Value} (h : v.isRef = true) : fits (.object C) v = true := by cases v <;> first | rfl | cases h
theorem own_narO {C : String} {v : Value} (h : v.isRef = true) : narrow (.object C) v = v := by cases v <;> first | rfl | cases h
theorem own_nf {y y' : MethodName} (hc : y'.cls = y.cls) (h : NotFace s y) (hi : (Jvm.Cond.instanceMethod y).before a0 s = true) : NotFace s y' := fun r0 h0 => by
  obtain ⟨mk, methM, hnamed, -⟩ := Cond.instanceMethod_spec hi
  have h1 := findClass_of_methodNamed hnamed
  have h2 := findClass_of_methodNamed h0
  rw [hc, h1] at h2
  have h3 := Option.some.inj h2
  rw [← h3]
  exact h mk hnamed
/-- a private method (invokevirtual) by its own contract -/
theorem own_callP (X : Stand p l e R s m args below meth c T locs cells slots) (hx : p.tables.exec = Jvm.exec) (hZ : Z.Warmed39 s.vm) {own C : String} {index : Nat} {y : MethodName} {bytes : ByteArray} {maxL : Nat} {ret : Option FieldType} {rm : Room} {b : Addr} {as' : List Value} {Q : Option Value → Heap → List Loc → Prop} {Qf : Outcome → State → Prop}
    (hown : s.vm.findClass own = some m.cls) (w1 : (Jvm.Cond.methodLink own index y).before a0 Z = true) (w6 : (Jvm.Cond.instanceMethod y).before a0 Z = true) (w8 : (Jvm.Cond.privateMethod y).before a0 Z = true) (w4 : (Jvm.Cond.code y bytes maxL ret).before a0 Z = true) (w3 : (Jvm.Cond.initialized y.cls).before a0 Z = true) (hnf : NotFace s y)
    (hy : y.cls ≠ "java/lang/invoke/MethodHandle" ∧ y.cls ≠ "java/lang/invoke/VarHandle")
    (hM : MetFree l y (head1 [Jvm.Cond.code y bytes maxL ret] rm) (fun a U => a = (.ref b :: as').toArray ∧ Z.Warmed39 U.vm ∧ U.heap = h) (fun _ _ _ _ _ => True) (fun _ U o U' => ∃ v L, o = .returned v ∧ Q v U'.heap L ∧ FrameEnd U o U' L rm.cells rm.slots))
    (E : Exa Z h b C)
    (W : Nat) (hf : rm.frames + 1 ≤ R.frames) (hl : W + (maxL + 11) + rm.locals ≤ R.locals) (hc : cells + rm.cells ≤ R.cells) (hs : slots + rm.slots ≤ R.slots)
    {pc : Nat} {Ls : Array Slot} {stk rest : List Value} (hsize : Ls.size = c.maxLocals) (hlen : ∀ sig, parseMethodDescriptor y.desc = some sig → as'.length = sig.parameters.length) (hstack : stk = as'.reverse ++ .ref b :: rest) (hW : (rest.map fun v => v.category).sum ≤ W) (hd : decode c.code pc = .ok (.invokevirtual index, 3)) (eT : T.heap = h)
    (k : ∀ T' L v, Stand p l e R s m args below meth c T' (locs ++ L) (cells + rm.cells) (slots + rm.slots) → Q v T'.heap L → own_Out p e below Qf (T'.setTop (mkF m (pc + 3) Ls (v.toList ++ rest)))) :
    own_Out p e below Qf (T.setTop (mkF m pc Ls stk)) := by
  obtain ⟨mk, methM, hnamed, hmethM, hstM, habM⟩ := Cond.instanceMethod_spec (mvT (args := args) hZ w6)
  obtain ⟨methM', cM, hmethM', -, -, -, -, -, -, hsigM⟩ := Cond.code_spec hnamed (mvT (args := args) hZ w4)
  cases hmethM.symm.trans hmethM'
  obtain ⟨kP, hkP, hkPi⟩ := hnf mk hnamed
  obtain ⟨cell, hcell, hobj⟩ := E.cell
  have hselP : selectMethod e.platform s.vm cell.cls mk = .method mk := selectMethod_private hmethM (Cond.privateMethod_at (mvP hZ w8 (args := #[])) mk methM hnamed hmethM)
  obtain ⟨vm₁, X₁, hstep₁⟩ := X.invokevirtual hx hown (mvT hZ w1) hnamed hmethM hstM hkP hkPi hy (a := b) (cell := cell) (by rw [eT]; exact hcell) hobj hselP hmethM habM hkP hkPi (g := mkF m pc Ls stk) rfl (argsL := as') (rest := rest) (hlen _ hsigM) hstack hd
  obtain ⟨v, ⟨T', L', k', n'⟩, X', ⟨Lc, hQ, hl', hy', hz'⟩, st⟩ := backOf (W := W) hM hZ w4 w3 hf hl m meth c ⟨T.setVm vm₁, locs, cells, slots⟩ { mkF m pc Ls stk with stack := rest } (.invokevirtual index) mk (.ref b :: as').toArray X₁ rfl hsize hd (by show 2 * 0 + (rest.map fun v => v.category).sum ≤ W; omega) (X₁.named hnamed) ⟨rfl, eT, hc, hs⟩
  dsimp only [Pt.U, Pt.locs, Pt.cells, Pt.slots] at X' hl' hy' hz' st hQ
  subst hl' hy' hz'
  exact own_st (fun target q => hstep₁ _ fun acts => by rw [doInvoke_state]; exact st.trans q) (k _ _ _ X' hQ)
end Own
end Jvm.RoadKit
namespace Jvm.Pilot.@@N@@
open Jvm Jvm.ClassFile Sem Op Lib Jvm.Free Jvm.Stand Jvm.LawKit Jvm.RoadKit Bundle Jvm.Pilot.@@N@@.Jvm.D
theorem own_w {Z : State} {a0 : Array Value} (hw : ∀ d ∈ tables_1, d.before a0 Z = true) {d : Jvm.Cond} (k : Nat) (h : tables_1[k]? = some d) : d.before a0 Z = true := hw _ (List.mem_of_getElem? h)
def own_ascii (d : Int32) (k : Int32) : Int64 := (((48 : Int32) + d).toInt64 <<< (((8 : Int32) * k).toInt64 &&& 63))
theorem pn_own_rm1 : plainName "com/example/kennel/kennel/EightBytesDigitsOfPinLaw" = true := by first | (simp [plainName, overriddenIn]; done) | decide +kernel
theorem down_rm1_0 : decode method_2_code 0 = .ok (.bipush 48, 2) := by decide +kernel
theorem down_rm1_2 : decode method_2_code 2 = .ok (.iload_n 0, 1) := by decide +kernel
theorem down_rm1_3 : decode method_2_code 3 = .ok (.iadd, 1) := by decide +kernel
theorem down_rm1_4 : decode method_2_code 4 = .ok (.i2l, 1) := by decide +kernel
theorem down_rm1_5 : decode method_2_code 5 = .ok (.bipush 8, 2) := by decide +kernel
theorem down_rm1_7 : decode method_2_code 7 = .ok (.iload_n 1, 1) := by decide +kernel
theorem down_rm1_8 : decode method_2_code 8 = .ok (.imul, 1) := by decide +kernel
theorem down_rm1_9 : decode method_2_code 9 = .ok (.lshl, 1) := by decide +kernel
theorem down_rm1_10 : decode method_2_code 10 = .ok (.lreturn, 1) := by decide +kernel
def Q_own_rm1 (Z : State) (d : Int32) (k : Int32)  (h0 : Heap) (n0 : Nat) (v : Option Value) (h : Heap) (L : List Loc) : Prop := v = some (.long (own_ascii d k)) ∧ L = [] ∧ h = h0
set_option maxRecDepth 65536 in
set_option maxHeartbeats 40000000 in
theorem own_rm1 (l : Launch) (Z : State) (a0 : Array Value) (hw : ∀ d ∈ tables_1, d.before a0 Z = true) (ws : List Jvm.Cond) (d : Int32) (k : Int32)  (h0 : Heap) (n0 : Nat)  :
    MetFree l (⟨"com/example/kennel/kennel/EightBytesDigitsOfPinLaw", "ascii", "(II)J"⟩ : MethodName) (head1 (Jvm.Cond.code (⟨"com/example/kennel/kennel/EightBytesDigitsOfPinLaw", "ascii", "(II)J"⟩ : MethodName) method_2_code 2 (some (.long)) :: ws) ({ frames := 0, cells := 0, slots := 0, locals := 0 } : Room)) (fun aa U => aa = #[(.int d), (.int k)] ∧ Z.Warmed39 U.vm ∧ U.heap = h0) (fun _ _ _ _ _ => True) (fun _ U o U' => ∃ v L, o = .returned v ∧ Q_own_rm1 Z d k h0 n0 v U'.heap L ∧ FrameEnd U o U' L ({ frames := 0, cells := 0, slots := 0, locals := 0 } : Room).cells ({ frames := 0, cells := 0, slots := 0, locals := 0 } : Room).slots) := by
  refine own_body (x := (⟨"com/example/kennel/kennel/EightBytesDigitsOfPinLaw", "ascii", "(II)J"⟩ : MethodName)) (maxL := 2) (as' := #[(.int d), (.int k)]) (Q := Q_own_rm1 Z d k h0 n0) pn_own_rm1 #[.val (.int d), .val (.int k)] (fun m => by first | rfl | (simp [entryFrame, mkF, argsToLocals, Value.category]; done)) ?_
  intro p e s m below meth c T0 X0 hx hby hml hret hlk hown hnm hZ e0
  replace hml : c.maxLocals = 2 := hml
  replace hown : s.vm.findClass "com/example/kennel/kennel/EightBytesDigitsOfPinLaw" = some m.cls := hown
  have N0 := Fr.nil n0
  refine own_st (G := T0.setTop (mkF m 2 #[.val (.int d), .val (.int k)] [(.int (48 : Int32))])) (fun _ kk => XT.bipushV X0.here hx rfl (48 : Int32) (hb hby down_rm1_0) (by decide) kk) ?_
  refine own_st (G := T0.setTop (mkF m 3 #[.val (.int d), .val (.int k)] [(.int d), (.int (48 : Int32))])) (fun _ kk => XS.iloadN X0.here hx rfl (hb hby down_rm1_2) rfl kk) ?_
  refine own_st (G := T0.setTop (mkF m 4 #[.val (.int d), .val (.int k)] [(.int ((48 : Int32) + d))])) (fun _ kk => XS.iadd X0.here hx rfl (hb hby down_rm1_3) rfl kk) ?_
  refine own_st (G := T0.setTop (mkF m 5 #[.val (.int d), .val (.int k)] [(.long ((48 : Int32) + d).toInt64)])) (fun _ kk => XS.i2l X0.here hx rfl (hb hby down_rm1_4) rfl kk) ?_
  refine own_st (G := T0.setTop (mkF m 7 #[.val (.int d), .val (.int k)] [(.int (8 : Int32)), (.long ((48 : Int32) + d).toInt64)])) (fun _ kk => XT.bipushV X0.here hx rfl (8 : Int32) (hb hby down_rm1_5) (by decide) kk) ?_
  refine own_st (G := T0.setTop (mkF m 8 #[.val (.int d), .val (.int k)] [(.int k), (.int (8 : Int32)), (.long ((48 : Int32) + d).toInt64)])) (fun _ kk => XS.iloadN X0.here hx rfl (hb hby down_rm1_7) rfl kk) ?_
  refine own_st (G := T0.setTop (mkF m 9 #[.val (.int d), .val (.int k)] [(.int ((8 : Int32) * k)), (.long ((48 : Int32) + d).toInt64)])) (fun _ kk => XS.imul X0.here hx rfl (hb hby down_rm1_8) rfl kk) ?_
  refine own_st (G := T0.setTop (mkF m 10 #[.val (.int d), .val (.int k)] [(.long (((48 : Int32) + d).toInt64 <<< (((8 : Int32) * k).toInt64 &&& 63)))])) (fun _ kk => XT.lshl X0.here hx rfl (hb hby down_rm1_9) rfl kk) ?_
  refine own_retJ X0 hx hret hlk (hb hby down_rm1_10) (by decide) (by decide) ?_
  exact ⟨rfl, rfl, e0⟩
def own_a (q : Int32) : Int64 := ((q / (10000 : Int32)).toInt64 ||| ((q % (10000 : Int32)).toInt64 <<< ((32 : Int32).toInt64 &&& 63)))
def own_c (q : Int32) : Int64 := ((XT.ushrL ((own_a q) * (10486 : Int64)) (20 : Int32)) &&& (545460846719 : Int64))
def own_e (q : Int32) : Int64 := ((own_c q) ||| (((own_a q) - ((100 : Int64) * (own_c q))) <<< ((16 : Int32).toInt64 &&& 63)))
def own_t (q : Int32) : Int64 := ((XT.ushrL ((own_e q) * (103 : Int64)) (10 : Int32)) &&& (4222189076152335 : Int64))
def own_g (q : Int32) : Int64 := ((own_t q) ||| (((own_e q) - ((10 : Int64) * (own_t q))) <<< ((8 : Int32).toInt64 &&& 63)))
def own_digits (q : Int32) : Int64 := ((own_g q) + (3472328296227680304 : Int64))
theorem pn_own_rm2 : plainName "com/example/kennel/kennel/EightBytes" = true := by first | (simp [plainName, overriddenIn]; done) | decide +kernel
theorem down_rm2_0 : decode prog_11_method_10_code 0 = .ok (.iload_n 0, 1) := by decide +kernel
theorem down_rm2_1 : decode prog_11_method_10_code 1 = .ok (.sipush 10000, 3) := by decide +kernel
theorem down_rm2_4 : decode prog_11_method_10_code 4 = .ok (.idiv, 1) := by decide +kernel
theorem down_rm2_5 : decode prog_11_method_10_code 5 = .ok (.i2l, 1) := by decide +kernel
theorem down_rm2_6 : decode prog_11_method_10_code 6 = .ok (.iload_n 0, 1) := by decide +kernel
theorem down_rm2_7 : decode prog_11_method_10_code 7 = .ok (.sipush 10000, 3) := by decide +kernel
theorem down_rm2_10 : decode prog_11_method_10_code 10 = .ok (.irem, 1) := by decide +kernel
theorem down_rm2_11 : decode prog_11_method_10_code 11 = .ok (.i2l, 1) := by decide +kernel
theorem down_rm2_12 : decode prog_11_method_10_code 12 = .ok (.bipush 32, 2) := by decide +kernel
theorem down_rm2_14 : decode prog_11_method_10_code 14 = .ok (.lshl, 1) := by decide +kernel
theorem down_rm2_15 : decode prog_11_method_10_code 15 = .ok (.lor, 1) := by decide +kernel
theorem down_rm2_16 : decode prog_11_method_10_code 16 = .ok (.lstore_n 1, 1) := by decide +kernel
theorem down_rm2_17 : decode prog_11_method_10_code 17 = .ok (.lload_n 1, 1) := by decide +kernel
theorem down_rm2_18 : decode prog_11_method_10_code 18 = .ok (.ldc2_w 73, 3) := by decide +kernel
theorem down_rm2_21 : decode prog_11_method_10_code 21 = .ok (.lmul, 1) := by decide +kernel
theorem down_rm2_22 : decode prog_11_method_10_code 22 = .ok (.bipush 20, 2) := by decide +kernel
theorem down_rm2_24 : decode prog_11_method_10_code 24 = .ok (.lushr, 1) := by decide +kernel
theorem down_rm2_25 : decode prog_11_method_10_code 25 = .ok (.ldc2_w 75, 3) := by decide +kernel
theorem down_rm2_28 : decode prog_11_method_10_code 28 = .ok (.land, 1) := by decide +kernel
theorem down_rm2_29 : decode prog_11_method_10_code 29 = .ok (.lstore_n 3, 1) := by decide +kernel
theorem down_rm2_30 : decode prog_11_method_10_code 30 = .ok (.lload_n 3, 1) := by decide +kernel
theorem down_rm2_31 : decode prog_11_method_10_code 31 = .ok (.lload_n 1, 1) := by decide +kernel
theorem down_rm2_32 : decode prog_11_method_10_code 32 = .ok (.ldc2_w 65, 3) := by decide +kernel
theorem down_rm2_35 : decode prog_11_method_10_code 35 = .ok (.lload_n 3, 1) := by decide +kernel
theorem down_rm2_36 : decode prog_11_method_10_code 36 = .ok (.lmul, 1) := by decide +kernel
theorem down_rm2_37 : decode prog_11_method_10_code 37 = .ok (.lsub, 1) := by decide +kernel
theorem down_rm2_38 : decode prog_11_method_10_code 38 = .ok (.bipush 16, 2) := by decide +kernel
theorem down_rm2_40 : decode prog_11_method_10_code 40 = .ok (.lshl, 1) := by decide +kernel
theorem down_rm2_41 : decode prog_11_method_10_code 41 = .ok (.lor, 1) := by decide +kernel
theorem down_rm2_42 : decode prog_11_method_10_code 42 = .ok (.lstore 5, 2) := by decide +kernel
theorem down_rm2_44 : decode prog_11_method_10_code 44 = .ok (.lload 5, 2) := by decide +kernel
theorem down_rm2_46 : decode prog_11_method_10_code 46 = .ok (.ldc2_w 77, 3) := by decide +kernel
theorem down_rm2_49 : decode prog_11_method_10_code 49 = .ok (.lmul, 1) := by decide +kernel
theorem down_rm2_50 : decode prog_11_method_10_code 50 = .ok (.bipush 10, 2) := by decide +kernel
theorem down_rm2_52 : decode prog_11_method_10_code 52 = .ok (.lushr, 1) := by decide +kernel
theorem down_rm2_53 : decode prog_11_method_10_code 53 = .ok (.ldc2_w 79, 3) := by decide +kernel
theorem down_rm2_56 : decode prog_11_method_10_code 56 = .ok (.land, 1) := by decide +kernel
theorem down_rm2_57 : decode prog_11_method_10_code 57 = .ok (.lstore 7, 2) := by decide +kernel
theorem down_rm2_59 : decode prog_11_method_10_code 59 = .ok (.lload 7, 2) := by decide +kernel
theorem down_rm2_61 : decode prog_11_method_10_code 61 = .ok (.lload 5, 2) := by decide +kernel
theorem down_rm2_63 : decode prog_11_method_10_code 63 = .ok (.ldc2_w 61, 3) := by decide +kernel
theorem down_rm2_66 : decode prog_11_method_10_code 66 = .ok (.lload 7, 2) := by decide +kernel
theorem down_rm2_68 : decode prog_11_method_10_code 68 = .ok (.lmul, 1) := by decide +kernel
theorem down_rm2_69 : decode prog_11_method_10_code 69 = .ok (.lsub, 1) := by decide +kernel
theorem down_rm2_70 : decode prog_11_method_10_code 70 = .ok (.bipush 8, 2) := by decide +kernel
theorem down_rm2_72 : decode prog_11_method_10_code 72 = .ok (.lshl, 1) := by decide +kernel
theorem down_rm2_73 : decode prog_11_method_10_code 73 = .ok (.lor, 1) := by decide +kernel
theorem down_rm2_74 : decode prog_11_method_10_code 74 = .ok (.lstore 9, 2) := by decide +kernel
theorem down_rm2_76 : decode prog_11_method_10_code 76 = .ok (.lload 9, 2) := by decide +kernel
theorem down_rm2_78 : decode prog_11_method_10_code 78 = .ok (.ldc2_w 57, 3) := by decide +kernel
theorem down_rm2_81 : decode prog_11_method_10_code 81 = .ok (.ladd, 1) := by decide +kernel
theorem down_rm2_82 : decode prog_11_method_10_code 82 = .ok (.lreturn, 1) := by decide +kernel
def Q_own_rm2 (Z : State) (q : Int32)  (h0 : Heap) (n0 : Nat) (v : Option Value) (h : Heap) (L : List Loc) : Prop := v = some (.long (own_digits q)) ∧ L = [] ∧ h = h0
set_option maxRecDepth 65536 in
set_option maxHeartbeats 40000000 in
theorem own_rm2 (l : Launch) (Z : State) (a0 : Array Value) (hw : ∀ d ∈ tables_1, d.before a0 Z = true) (ws : List Jvm.Cond) (q : Int32)  (h0 : Heap) (n0 : Nat)  :
    MetFree l (⟨"com/example/kennel/kennel/EightBytes", "digitsOf", "(I)J"⟩ : MethodName) (head1 (Jvm.Cond.code (⟨"com/example/kennel/kennel/EightBytes", "digitsOf", "(I)J"⟩ : MethodName) prog_11_method_10_code 11 (some (.long)) :: ws) ({ frames := 0, cells := 0, slots := 0, locals := 0 } : Room)) (fun aa U => aa = #[(.int q)] ∧ Z.Warmed39 U.vm ∧ U.heap = h0) (fun _ _ _ _ _ => True) (fun _ U o U' => ∃ v L, o = .returned v ∧ Q_own_rm2 Z q h0 n0 v U'.heap L ∧ FrameEnd U o U' L ({ frames := 0, cells := 0, slots := 0, locals := 0 } : Room).cells ({ frames := 0, cells := 0, slots := 0, locals := 0 } : Room).slots) := by
  refine own_body (x := (⟨"com/example/kennel/kennel/EightBytes", "digitsOf", "(I)J"⟩ : MethodName)) (maxL := 11) (as' := #[(.int q)]) (Q := Q_own_rm2 Z q h0 n0) pn_own_rm2 #[.val (.int q), .unset, .unset, .unset, .unset, .unset, .unset, .unset, .unset, .unset, .unset] (fun m => by first | rfl | (simp [entryFrame, mkF, argsToLocals, Value.category]; done)) ?_
  intro p e s m below meth c T0 X0 hx hby hml hret hlk hown hnm hZ e0
  replace hml : c.maxLocals = 11 := hml
  replace hown : s.vm.findClass "com/example/kennel/kennel/EightBytes" = some m.cls := hown
  have N0 := Fr.nil n0
  refine own_st (G := T0.setTop (mkF m 1 #[.val (.int q), .unset, .unset, .unset, .unset, .unset, .unset, .unset, .unset, .unset, .unset] [(.int q)])) (fun _ kk => XS.iloadN X0.here hx rfl (hb hby down_rm2_0) rfl kk) ?_
  refine own_st (G := T0.setTop (mkF m 4 #[.val (.int q), .unset, .unset, .unset, .unset, .unset, .unset, .unset, .unset, .unset, .unset] [(.int (10000 : Int32)), (.int q)])) (fun _ kk => XT.sipushV X0.here hx rfl (10000 : Int32) (hb hby down_rm2_1) (by decide) kk) ?_
  refine own_st (G := T0.setTop (mkF m 5 #[.val (.int q), .unset, .unset, .unset, .unset, .unset, .unset, .unset, .unset, .unset, .unset] [(.int (q / (10000 : Int32)))])) (fun _ kk => XS.idiv X0.here hx rfl (hb hby down_rm2_4) rfl (by decide) kk) ?_
  refine own_st (G := T0.setTop (mkF m 6 #[.val (.int q), .unset, .unset, .unset, .unset, .unset, .unset, .unset, .unset, .unset, .unset] [(.long (q / (10000 : Int32)).toInt64)])) (fun _ kk => XS.i2l X0.here hx rfl (hb hby down_rm2_5) rfl kk) ?_
  refine own_st (G := T0.setTop (mkF m 7 #[.val (.int q), .unset, .unset, .unset, .unset, .unset, .unset, .unset, .unset, .unset, .unset] [(.int q), (.long (q / (10000 : Int32)).toInt64)])) (fun _ kk => XS.iloadN X0.here hx rfl (hb hby down_rm2_6) rfl kk) ?_
  refine own_st (G := T0.setTop (mkF m 10 #[.val (.int q), .unset, .unset, .unset, .unset, .unset, .unset, .unset, .unset, .unset, .unset] [(.int (10000 : Int32)), (.int q), (.long (q / (10000 : Int32)).toInt64)])) (fun _ kk => XT.sipushV X0.here hx rfl (10000 : Int32) (hb hby down_rm2_7) (by decide) kk) ?_
  refine own_st (G := T0.setTop (mkF m 11 #[.val (.int q), .unset, .unset, .unset, .unset, .unset, .unset, .unset, .unset, .unset, .unset] [(.int (q % (10000 : Int32))), (.long (q / (10000 : Int32)).toInt64)])) (fun _ kk => iremM X0 hx rfl (hb hby down_rm2_10) rfl (by decide) kk) ?_
  refine own_st (G := T0.setTop (mkF m 12 #[.val (.int q), .unset, .unset, .unset, .unset, .unset, .unset, .unset, .unset, .unset, .unset] [(.long (q % (10000 : Int32)).toInt64), (.long (q / (10000 : Int32)).toInt64)])) (fun _ kk => XS.i2l X0.here hx rfl (hb hby down_rm2_11) rfl kk) ?_
  refine own_st (G := T0.setTop (mkF m 14 #[.val (.int q), .unset, .unset, .unset, .unset, .unset, .unset, .unset, .unset, .unset, .unset] [(.int (32 : Int32)), (.long (q % (10000 : Int32)).toInt64), (.long (q / (10000 : Int32)).toInt64)])) (fun _ kk => XT.bipushV X0.here hx rfl (32 : Int32) (hb hby down_rm2_12) (by decide) kk) ?_
  refine own_st (G := T0.setTop (mkF m 15 #[.val (.int q), .unset, .unset, .unset, .unset, .unset, .unset, .unset, .unset, .unset, .unset] [(.long ((q % (10000 : Int32)).toInt64 <<< ((32 : Int32).toInt64 &&& 63))), (.long (q / (10000 : Int32)).toInt64)])) (fun _ kk => XT.lshl X0.here hx rfl (hb hby down_rm2_14) rfl kk) ?_
  refine own_st (G := T0.setTop (mkF m 16 #[.val (.int q), .unset, .unset, .unset, .unset, .unset, .unset, .unset, .unset, .unset, .unset] [(.long ((q / (10000 : Int32)).toInt64 ||| ((q % (10000 : Int32)).toInt64 <<< ((32 : Int32).toInt64 &&& 63))))])) (fun _ kk => XS.lor X0.here hx rfl (hb hby down_rm2_15) rfl kk) ?_
  show own_Out _ _ _ _ (T0.setTop (mkF m 16 #[.val (.int q), .unset, .unset, .unset, .unset, .unset, .unset, .unset, .unset, .unset, .unset] [(.long (own_a q))]))
  refine own_st (G := T0.setTop (mkF m 17 #[.val (.int q), .val (.long (own_a q)), .second, .unset, .unset, .unset, .unset, .unset, .unset, .unset, .unset] [])) (fun _ kk => XS.lstoreN X0.here hx rfl (hb hby down_rm2_16) rfl (l' := #[.val (.int q), .val (.long (own_a q)), .second, .unset, .unset, .unset, .unset, .unset, .unset, .unset, .unset]) rfl kk) ?_
  refine own_st (G := T0.setTop (mkF m 18 #[.val (.int q), .val (.long (own_a q)), .second, .unset, .unset, .unset, .unset, .unset, .unset, .unset, .unset] [(.long (own_a q))])) (fun _ kk => XS.lloadN X0.here hx rfl (hb hby down_rm2_17) rfl kk) ?_
  refine own_st (G := T0.setTop (mkF m 21 #[.val (.int q), .val (.long (own_a q)), .second, .unset, .unset, .unset, .unset, .unset, .unset, .unset, .unset] [(.long (10486 : Int64)), (.long (own_a q))])) (fun _ kk => X0.ldc2Long hx hown (mvT hZ (own_w hw 13 rfl)) (g := (mkF m 18 #[.val (.int q), .val (.long (own_a q)), .second, .unset, .unset, .unset, .unset, .unset, .unset, .unset, .unset] [(.long (own_a q))])) rfl (hb hby down_rm2_18) _ kk) ?_
  refine own_st (G := T0.setTop (mkF m 22 #[.val (.int q), .val (.long (own_a q)), .second, .unset, .unset, .unset, .unset, .unset, .unset, .unset, .unset] [(.long ((own_a q) * (10486 : Int64)))])) (fun _ kk => XS.lmul X0.here hx rfl (hb hby down_rm2_21) rfl kk) ?_
  refine own_st (G := T0.setTop (mkF m 24 #[.val (.int q), .val (.long (own_a q)), .second, .unset, .unset, .unset, .unset, .unset, .unset, .unset, .unset] [(.int (20 : Int32)), (.long ((own_a q) * (10486 : Int64)))])) (fun _ kk => XT.bipushV X0.here hx rfl (20 : Int32) (hb hby down_rm2_22) (by decide) kk) ?_
  refine own_st (G := T0.setTop (mkF m 25 #[.val (.int q), .val (.long (own_a q)), .second, .unset, .unset, .unset, .unset, .unset, .unset, .unset, .unset] [(.long (XT.ushrL ((own_a q) * (10486 : Int64)) (20 : Int32)))])) (fun _ kk => XT.lushr X0.here hx rfl (hb hby down_rm2_24) rfl kk) ?_
  refine own_st (G := T0.setTop (mkF m 28 #[.val (.int q), .val (.long (own_a q)), .second, .unset, .unset, .unset, .unset, .unset, .unset, .unset, .unset] [(.long (545460846719 : Int64)), (.long (XT.ushrL ((own_a q) * (10486 : Int64)) (20 : Int32)))])) (fun _ kk => X0.ldc2Long hx hown (mvT hZ (own_w hw 14 rfl)) (g := (mkF m 25 #[.val (.int q), .val (.long (own_a q)), .second, .unset, .unset, .unset, .unset, .unset, .unset, .unset, .unset] [(.long (XT.ushrL ((own_a q) * (10486 : Int64)) (20 : Int32)))])) rfl (hb hby down_rm2_25) _ kk) ?_
  refine own_st (G := T0.setTop (mkF m 29 #[.val (.int q), .val (.long (own_a q)), .second, .unset, .unset, .unset, .unset, .unset, .unset, .unset, .unset] [(.long ((XT.ushrL ((own_a q) * (10486 : Int64)) (20 : Int32)) &&& (545460846719 : Int64)))])) (fun _ kk => XS.land X0.here hx rfl (hb hby down_rm2_28) rfl kk) ?_
  show own_Out _ _ _ _ (T0.setTop (mkF m 29 #[.val (.int q), .val (.long (own_a q)), .second, .unset, .unset, .unset, .unset, .unset, .unset, .unset, .unset] [(.long (own_c q))]))
  refine own_st (G := T0.setTop (mkF m 30 #[.val (.int q), .val (.long (own_a q)), .second, .val (.long (own_c q)), .second, .unset, .unset, .unset, .unset, .unset, .unset] [])) (fun _ kk => XS.lstoreN X0.here hx rfl (hb hby down_rm2_29) rfl (l' := #[.val (.int q), .val (.long (own_a q)), .second, .val (.long (own_c q)), .second, .unset, .unset, .unset, .unset, .unset, .unset]) rfl kk) ?_
  refine own_st (G := T0.setTop (mkF m 31 #[.val (.int q), .val (.long (own_a q)), .second, .val (.long (own_c q)), .second, .unset, .unset, .unset, .unset, .unset, .unset] [(.long (own_c q))])) (fun _ kk => XS.lloadN X0.here hx rfl (hb hby down_rm2_30) rfl kk) ?_
  refine own_st (G := T0.setTop (mkF m 32 #[.val (.int q), .val (.long (own_a q)), .second, .val (.long (own_c q)), .second, .unset, .unset, .unset, .unset, .unset, .unset] [(.long (own_a q)), (.long (own_c q))])) (fun _ kk => XS.lloadN X0.here hx rfl (hb hby down_rm2_31) rfl kk) ?_
  refine own_st (G := T0.setTop (mkF m 35 #[.val (.int q), .val (.long (own_a q)), .second, .val (.long (own_c q)), .second, .unset, .unset, .unset, .unset, .unset, .unset] [(.long (100 : Int64)), (.long (own_a q)), (.long (own_c q))])) (fun _ kk => X0.ldc2Long hx hown (mvT hZ (own_w hw 15 rfl)) (g := (mkF m 32 #[.val (.int q), .val (.long (own_a q)), .second, .val (.long (own_c q)), .second, .unset, .unset, .unset, .unset, .unset, .unset] [(.long (own_a q)), (.long (own_c q))])) rfl (hb hby down_rm2_32) _ kk) ?_
  refine own_st (G := T0.setTop (mkF m 36 #[.val (.int q), .val (.long (own_a q)), .second, .val (.long (own_c q)), .second, .unset, .unset, .unset, .unset, .unset, .unset] [(.long (own_c q)), (.long (100 : Int64)), (.long (own_a q)), (.long (own_c q))])) (fun _ kk => XS.lloadN X0.here hx rfl (hb hby down_rm2_35) rfl kk) ?_
  refine own_st (G := T0.setTop (mkF m 37 #[.val (.int q), .val (.long (own_a q)), .second, .val (.long (own_c q)), .second, .unset, .unset, .unset, .unset, .unset, .unset] [(.long ((100 : Int64) * (own_c q))), (.long (own_a q)), (.long (own_c q))])) (fun _ kk => XS.lmul X0.here hx rfl (hb hby down_rm2_36) rfl kk) ?_
  refine own_st (G := T0.setTop (mkF m 38 #[.val (.int q), .val (.long (own_a q)), .second, .val (.long (own_c q)), .second, .unset, .unset, .unset, .unset, .unset, .unset] [(.long ((own_a q) - ((100 : Int64) * (own_c q)))), (.long (own_c q))])) (fun _ kk => XS.lsub X0.here hx rfl (hb hby down_rm2_37) rfl kk) ?_
  refine own_st (G := T0.setTop (mkF m 40 #[.val (.int q), .val (.long (own_a q)), .second, .val (.long (own_c q)), .second, .unset, .unset, .unset, .unset, .unset, .unset] [(.int (16 : Int32)), (.long ((own_a q) - ((100 : Int64) * (own_c q)))), (.long (own_c q))])) (fun _ kk => XT.bipushV X0.here hx rfl (16 : Int32) (hb hby down_rm2_38) (by decide) kk) ?_
  refine own_st (G := T0.setTop (mkF m 41 #[.val (.int q), .val (.long (own_a q)), .second, .val (.long (own_c q)), .second, .unset, .unset, .unset, .unset, .unset, .unset] [(.long (((own_a q) - ((100 : Int64) * (own_c q))) <<< ((16 : Int32).toInt64 &&& 63))), (.long (own_c q))])) (fun _ kk => XT.lshl X0.here hx rfl (hb hby down_rm2_40) rfl kk) ?_
  refine own_st (G := T0.setTop (mkF m 42 #[.val (.int q), .val (.long (own_a q)), .second, .val (.long (own_c q)), .second, .unset, .unset, .unset, .unset, .unset, .unset] [(.long ((own_c q) ||| (((own_a q) - ((100 : Int64) * (own_c q))) <<< ((16 : Int32).toInt64 &&& 63))))])) (fun _ kk => XS.lor X0.here hx rfl (hb hby down_rm2_41) rfl kk) ?_
  show own_Out _ _ _ _ (T0.setTop (mkF m 42 #[.val (.int q), .val (.long (own_a q)), .second, .val (.long (own_c q)), .second, .unset, .unset, .unset, .unset, .unset, .unset] [(.long (own_e q))]))
  refine own_st (G := T0.setTop (mkF m 44 #[.val (.int q), .val (.long (own_a q)), .second, .val (.long (own_c q)), .second, .val (.long (own_e q)), .second, .unset, .unset, .unset, .unset] [])) (fun _ kk => XS.lstore X0.here hx rfl (hb hby down_rm2_42) rfl (l' := #[.val (.int q), .val (.long (own_a q)), .second, .val (.long (own_c q)), .second, .val (.long (own_e q)), .second, .unset, .unset, .unset, .unset]) rfl kk) ?_
  refine own_st (G := T0.setTop (mkF m 46 #[.val (.int q), .val (.long (own_a q)), .second, .val (.long (own_c q)), .second, .val (.long (own_e q)), .second, .unset, .unset, .unset, .unset] [(.long (own_e q))])) (fun _ kk => XS.lload X0.here hx rfl (hb hby down_rm2_44) rfl kk) ?_
  refine own_st (G := T0.setTop (mkF m 49 #[.val (.int q), .val (.long (own_a q)), .second, .val (.long (own_c q)), .second, .val (.long (own_e q)), .second, .unset, .unset, .unset, .unset] [(.long (103 : Int64)), (.long (own_e q))])) (fun _ kk => X0.ldc2Long hx hown (mvT hZ (own_w hw 16 rfl)) (g := (mkF m 46 #[.val (.int q), .val (.long (own_a q)), .second, .val (.long (own_c q)), .second, .val (.long (own_e q)), .second, .unset, .unset, .unset, .unset] [(.long (own_e q))])) rfl (hb hby down_rm2_46) _ kk) ?_
  refine own_st (G := T0.setTop (mkF m 50 #[.val (.int q), .val (.long (own_a q)), .second, .val (.long (own_c q)), .second, .val (.long (own_e q)), .second, .unset, .unset, .unset, .unset] [(.long ((own_e q) * (103 : Int64)))])) (fun _ kk => XS.lmul X0.here hx rfl (hb hby down_rm2_49) rfl kk) ?_
  refine own_st (G := T0.setTop (mkF m 52 #[.val (.int q), .val (.long (own_a q)), .second, .val (.long (own_c q)), .second, .val (.long (own_e q)), .second, .unset, .unset, .unset, .unset] [(.int (10 : Int32)), (.long ((own_e q) * (103 : Int64)))])) (fun _ kk => XT.bipushV X0.here hx rfl (10 : Int32) (hb hby down_rm2_50) (by decide) kk) ?_
  refine own_st (G := T0.setTop (mkF m 53 #[.val (.int q), .val (.long (own_a q)), .second, .val (.long (own_c q)), .second, .val (.long (own_e q)), .second, .unset, .unset, .unset, .unset] [(.long (XT.ushrL ((own_e q) * (103 : Int64)) (10 : Int32)))])) (fun _ kk => XT.lushr X0.here hx rfl (hb hby down_rm2_52) rfl kk) ?_
  refine own_st (G := T0.setTop (mkF m 56 #[.val (.int q), .val (.long (own_a q)), .second, .val (.long (own_c q)), .second, .val (.long (own_e q)), .second, .unset, .unset, .unset, .unset] [(.long (4222189076152335 : Int64)), (.long (XT.ushrL ((own_e q) * (103 : Int64)) (10 : Int32)))])) (fun _ kk => X0.ldc2Long hx hown (mvT hZ (own_w hw 17 rfl)) (g := (mkF m 53 #[.val (.int q), .val (.long (own_a q)), .second, .val (.long (own_c q)), .second, .val (.long (own_e q)), .second, .unset, .unset, .unset, .unset] [(.long (XT.ushrL ((own_e q) * (103 : Int64)) (10 : Int32)))])) rfl (hb hby down_rm2_53) _ kk) ?_
  refine own_st (G := T0.setTop (mkF m 57 #[.val (.int q), .val (.long (own_a q)), .second, .val (.long (own_c q)), .second, .val (.long (own_e q)), .second, .unset, .unset, .unset, .unset] [(.long ((XT.ushrL ((own_e q) * (103 : Int64)) (10 : Int32)) &&& (4222189076152335 : Int64)))])) (fun _ kk => XS.land X0.here hx rfl (hb hby down_rm2_56) rfl kk) ?_
  show own_Out _ _ _ _ (T0.setTop (mkF m 57 #[.val (.int q), .val (.long (own_a q)), .second, .val (.long (own_c q)), .second, .val (.long (own_e q)), .second, .unset, .unset, .unset, .unset] [(.long (own_t q))]))
  refine own_st (G := T0.setTop (mkF m 59 #[.val (.int q), .val (.long (own_a q)), .second, .val (.long (own_c q)), .second, .val (.long (own_e q)), .second, .val (.long (own_t q)), .second, .unset, .unset] [])) (fun _ kk => XS.lstore X0.here hx rfl (hb hby down_rm2_57) rfl (l' := #[.val (.int q), .val (.long (own_a q)), .second, .val (.long (own_c q)), .second, .val (.long (own_e q)), .second, .val (.long (own_t q)), .second, .unset, .unset]) rfl kk) ?_
  refine own_st (G := T0.setTop (mkF m 61 #[.val (.int q), .val (.long (own_a q)), .second, .val (.long (own_c q)), .second, .val (.long (own_e q)), .second, .val (.long (own_t q)), .second, .unset, .unset] [(.long (own_t q))])) (fun _ kk => XS.lload X0.here hx rfl (hb hby down_rm2_59) rfl kk) ?_
  refine own_st (G := T0.setTop (mkF m 63 #[.val (.int q), .val (.long (own_a q)), .second, .val (.long (own_c q)), .second, .val (.long (own_e q)), .second, .val (.long (own_t q)), .second, .unset, .unset] [(.long (own_e q)), (.long (own_t q))])) (fun _ kk => XS.lload X0.here hx rfl (hb hby down_rm2_61) rfl kk) ?_
  refine own_st (G := T0.setTop (mkF m 66 #[.val (.int q), .val (.long (own_a q)), .second, .val (.long (own_c q)), .second, .val (.long (own_e q)), .second, .val (.long (own_t q)), .second, .unset, .unset] [(.long (10 : Int64)), (.long (own_e q)), (.long (own_t q))])) (fun _ kk => X0.ldc2Long hx hown (mvT hZ (own_w hw 18 rfl)) (g := (mkF m 63 #[.val (.int q), .val (.long (own_a q)), .second, .val (.long (own_c q)), .second, .val (.long (own_e q)), .second, .val (.long (own_t q)), .second, .unset, .unset] [(.long (own_e q)), (.long (own_t q))])) rfl (hb hby down_rm2_63) _ kk) ?_
  refine own_st (G := T0.setTop (mkF m 68 #[.val (.int q), .val (.long (own_a q)), .second, .val (.long (own_c q)), .second, .val (.long (own_e q)), .second, .val (.long (own_t q)), .second, .unset, .unset] [(.long (own_t q)), (.long (10 : Int64)), (.long (own_e q)), (.long (own_t q))])) (fun _ kk => XS.lload X0.here hx rfl (hb hby down_rm2_66) rfl kk) ?_
  refine own_st (G := T0.setTop (mkF m 69 #[.val (.int q), .val (.long (own_a q)), .second, .val (.long (own_c q)), .second, .val (.long (own_e q)), .second, .val (.long (own_t q)), .second, .unset, .unset] [(.long ((10 : Int64) * (own_t q))), (.long (own_e q)), (.long (own_t q))])) (fun _ kk => XS.lmul X0.here hx rfl (hb hby down_rm2_68) rfl kk) ?_
  refine own_st (G := T0.setTop (mkF m 70 #[.val (.int q), .val (.long (own_a q)), .second, .val (.long (own_c q)), .second, .val (.long (own_e q)), .second, .val (.long (own_t q)), .second, .unset, .unset] [(.long ((own_e q) - ((10 : Int64) * (own_t q)))), (.long (own_t q))])) (fun _ kk => XS.lsub X0.here hx rfl (hb hby down_rm2_69) rfl kk) ?_
  refine own_st (G := T0.setTop (mkF m 72 #[.val (.int q), .val (.long (own_a q)), .second, .val (.long (own_c q)), .second, .val (.long (own_e q)), .second, .val (.long (own_t q)), .second, .unset, .unset] [(.int (8 : Int32)), (.long ((own_e q) - ((10 : Int64) * (own_t q)))), (.long (own_t q))])) (fun _ kk => XT.bipushV X0.here hx rfl (8 : Int32) (hb hby down_rm2_70) (by decide) kk) ?_
  refine own_st (G := T0.setTop (mkF m 73 #[.val (.int q), .val (.long (own_a q)), .second, .val (.long (own_c q)), .second, .val (.long (own_e q)), .second, .val (.long (own_t q)), .second, .unset, .unset] [(.long (((own_e q) - ((10 : Int64) * (own_t q))) <<< ((8 : Int32).toInt64 &&& 63))), (.long (own_t q))])) (fun _ kk => XT.lshl X0.here hx rfl (hb hby down_rm2_72) rfl kk) ?_
  refine own_st (G := T0.setTop (mkF m 74 #[.val (.int q), .val (.long (own_a q)), .second, .val (.long (own_c q)), .second, .val (.long (own_e q)), .second, .val (.long (own_t q)), .second, .unset, .unset] [(.long ((own_t q) ||| (((own_e q) - ((10 : Int64) * (own_t q))) <<< ((8 : Int32).toInt64 &&& 63))))])) (fun _ kk => XS.lor X0.here hx rfl (hb hby down_rm2_73) rfl kk) ?_
  show own_Out _ _ _ _ (T0.setTop (mkF m 74 #[.val (.int q), .val (.long (own_a q)), .second, .val (.long (own_c q)), .second, .val (.long (own_e q)), .second, .val (.long (own_t q)), .second, .unset, .unset] [(.long (own_g q))]))
  refine own_st (G := T0.setTop (mkF m 76 #[.val (.int q), .val (.long (own_a q)), .second, .val (.long (own_c q)), .second, .val (.long (own_e q)), .second, .val (.long (own_t q)), .second, .val (.long (own_g q)), .second] [])) (fun _ kk => XS.lstore X0.here hx rfl (hb hby down_rm2_74) rfl (l' := #[.val (.int q), .val (.long (own_a q)), .second, .val (.long (own_c q)), .second, .val (.long (own_e q)), .second, .val (.long (own_t q)), .second, .val (.long (own_g q)), .second]) rfl kk) ?_
  refine own_st (G := T0.setTop (mkF m 78 #[.val (.int q), .val (.long (own_a q)), .second, .val (.long (own_c q)), .second, .val (.long (own_e q)), .second, .val (.long (own_t q)), .second, .val (.long (own_g q)), .second] [(.long (own_g q))])) (fun _ kk => XS.lload X0.here hx rfl (hb hby down_rm2_76) rfl kk) ?_
  refine own_st (G := T0.setTop (mkF m 81 #[.val (.int q), .val (.long (own_a q)), .second, .val (.long (own_c q)), .second, .val (.long (own_e q)), .second, .val (.long (own_t q)), .second, .val (.long (own_g q)), .second] [(.long (3472328296227680304 : Int64)), (.long (own_g q))])) (fun _ kk => X0.ldc2Long hx hown (mvT hZ (own_w hw 19 rfl)) (g := (mkF m 78 #[.val (.int q), .val (.long (own_a q)), .second, .val (.long (own_c q)), .second, .val (.long (own_e q)), .second, .val (.long (own_t q)), .second, .val (.long (own_g q)), .second] [(.long (own_g q))])) rfl (hb hby down_rm2_78) _ kk) ?_
  refine own_st (G := T0.setTop (mkF m 82 #[.val (.int q), .val (.long (own_a q)), .second, .val (.long (own_c q)), .second, .val (.long (own_e q)), .second, .val (.long (own_t q)), .second, .val (.long (own_g q)), .second] [(.long ((own_g q) + (3472328296227680304 : Int64)))])) (fun _ kk => XS.ladd X0.here hx rfl (hb hby down_rm2_81) rfl kk) ?_
  refine own_retJ X0 hx hret hlk (hb hby down_rm2_82) (by decide) (by decide) ?_
  exact ⟨rfl, rfl, e0⟩
/-- the bits of a long, as a number -/
def own_N (x : Int64) : Nat := x.toBitVec.toNat
theorem own_N_lt (x : Int64) : own_N x < 18446744073709551616 := x.toBitVec.isLt
theorem own_N_inj {x y : Int64} (h : own_N x = own_N y) : x = y := Int64.toBitVec_inj.mp (BitVec.eq_of_toNat_eq h)
theorem own_N_add (x y : Int64) : own_N (x + y) = (own_N x + own_N y) % 18446744073709551616 := by
  show (x + y).toBitVec.toNat = _
  rw [Int64.toBitVec_add, BitVec.toNat_add]; rfl
theorem own_N_sub (x y : Int64) : own_N (x - y) = (18446744073709551616 - own_N y + own_N x) % 18446744073709551616 := by
  show (x - y).toBitVec.toNat = _
  rw [Int64.toBitVec_sub, BitVec.toNat_sub]; rfl
theorem own_N_mul (x y : Int64) : own_N (x * y) = (own_N x * own_N y) % 18446744073709551616 := by
  show (x * y).toBitVec.toNat = _
  rw [Int64.toBitVec_mul, BitVec.toNat_mul]; rfl
theorem own_N_and (x y : Int64) : own_N (x &&& y) = own_N x &&& own_N y := by
  show (x &&& y).toBitVec.toNat = _
  rw [Int64.toBitVec_and, BitVec.toNat_and]; rfl
theorem own_N_or (x y : Int64) : own_N (x ||| y) = own_N x ||| own_N y := by
  show (x ||| y).toBitVec.toNat = _
  rw [Int64.toBitVec_or, BitVec.toNat_or]; rfl
theorem own_N_shl (x n : Int64) {k : Nat} (hn : (n.toBitVec.smod 64).toNat = k) : own_N (x <<< n) = (own_N x * 2 ^ k) % 18446744073709551616 := by
  show (x <<< n).toBitVec.toNat = _
  rw [Int64.toBitVec_shiftLeft, BitVec.shiftLeft_eq', BitVec.toNat_shiftLeft, hn, Nat.shiftLeft_eq]; rfl
theorem own_ushr_eq (x : Int64) (n : Int32) : XT.ushrL x n = (x.toUInt64 >>> (n.toInt64.toUInt64 &&& Int64.toUInt64 63)).toInt64 := rfl
theorem own_N_ushr (x : Int64) (n : Int32) {k : Nat} (hn : (n.toInt64.toUInt64 &&& Int64.toUInt64 63).toNat % 64 = k) : own_N (XT.ushrL x n) = own_N x / 2 ^ k := by
  rw [own_ushr_eq]
  show (x.toUInt64 >>> (n.toInt64.toUInt64 &&& Int64.toUInt64 63)).toNat = _
  rw [UInt64.toNat_shiftRight, hn, Nat.shiftRight_eq_div_pow]; rfl
theorem own_N_int {x : Int64} (h : 0 ≤ x.toInt) : (own_N x : Int) = x.toInt := by
  have e : x.toInt = if 2 * own_N x < 2 ^ 64 then (own_N x : Int) else (own_N x : Int) - (2 ^ 64 : Nat) := BitVec.toInt_eq_toNat_cond x.toBitVec
  have := own_N_lt x
  split at e
  · exact e.symm
  · rw [e] at h; omega
theorem own_and (k a b m n : Nat) (ha : a < 2 ^ k) (hm : m < 2 ^ k) : (a + 2 ^ k * b) &&& (m + 2 ^ k * n) = (a &&& m) + 2 ^ k * (b &&& n) := by
  have hlt : a &&& m < 2 ^ k := Nat.and_lt_two_pow _ hm
  rw [Nat.add_comm a, Nat.add_comm m, Nat.add_comm (a &&& m)]
  apply Nat.eq_of_testBit_eq
  intro j
  rw [Nat.testBit_and, Nat.testBit_two_pow_mul_add _ ha, Nat.testBit_two_pow_mul_add _ hm, Nat.testBit_two_pow_mul_add _ hlt]
  split
  · rw [Nat.testBit_and]
  · rw [Nat.testBit_and]
theorem own_orr (k a b m n : Nat) (ha : a < 2 ^ k) (hm : m < 2 ^ k) : (a + 2 ^ k * b) ||| (m + 2 ^ k * n) = (a ||| m) + 2 ^ k * (b ||| n) := by
  have hlt : a ||| m < 2 ^ k := Nat.or_lt_two_pow ha hm
  rw [Nat.add_comm a, Nat.add_comm m, Nat.add_comm (a ||| m)]
  apply Nat.eq_of_testBit_eq
  intro j
  rw [Nat.testBit_or, Nat.testBit_two_pow_mul_add _ ha, Nat.testBit_two_pow_mul_add _ hm, Nat.testBit_two_pow_mul_add _ hlt]
  split
  · rw [Nat.testBit_or]
  · rw [Nat.testBit_or]
theorem own_or (k x d : Nat) (hx : x < 2 ^ k) : x ||| (d * 2 ^ k) = x + d * 2 ^ k := by
  rw [Nat.mul_comm, Nat.or_comm, ← Nat.two_pow_add_eq_or_of_lt hx, Nat.add_comm]
theorem own_b (y v : Int32) (hv : ((y &&& (2147483647 : Int32)) % (100000000 : Int32)) = v) : 0 ≤ v.toInt ∧ v.toInt < 100000000 := by
  have e1 : (y &&& (2147483647 : Int32)).toInt = y.toInt % 2 ^ 31 := Jvm.Kit.i32_mask y 2147483647 (k := 31) (by decide) (by decide)
  have e2 : v.toInt = (y &&& (2147483647 : Int32)).toInt % 100000000 := by
    rw [← hv, Jvm.Kit.i32_rem_nonneg (by omega)]; rfl
  omega
theorem own_wid (z : Int32) (k : Nat) (h : z.toInt = (k : Int)) : own_N z.toInt64 = k := by
  have := own_N_int (x := z.toInt64) (by rw [Int32.toInt_toInt64]; omega)
  rw [Int32.toInt_toInt64] at this
  omega
theorem own_dv (v k : Int32) (n K : Nat) (hn : v.toInt = (n : Int)) (hK : k.toInt = (K : Int)) : (v / k).toInt = ((n / K : Nat) : Int) := by
  rw [Jvm.Kit.i32_div (by omega), hn, hK]; rfl
theorem own_md (v k : Int32) (n K : Nat) (hn : v.toInt = (n : Int)) (hK : k.toInt = (K : Int)) : (v % k).toInt = ((n % K : Nat) : Int) := by
  rw [Jvm.Kit.i32_rem_nonneg (by omega), hn, hK]; rfl
theorem own_val (u0 w0 u1 w1 u2 w2 u3 w3 : Nat) (h0 : u0 < 10) (h1 : w0 < 10) (h2 : u1 < 10) (h3 : w1 < 10) (h4 : u2 < 10) (h5 : w2 < 10) (h6 : u3 < 10) (h7 : w3 < 10) (q : Int32)
    (ha : own_N (own_a q) = (1000 * u0 + 100 * w0 + 10 * u1 + w1) + (1000 * u2 + 100 * w2 + 10 * u3 + w3) * 4294967296) :
    own_N (own_digits q) = (48 + u0) + (48 + w0) * 256 + (48 + u1) * 65536 + (48 + w1) * 16777216 + (48 + u2) * 4294967296 + (48 + w2) * 1099511627776 + (48 + u3) * 281474976710656 + (48 + w3) * 72057594037927936 := by
  have hc : own_N (own_c q) = (10 * u0 + w0) + 2 ^ 32 * (10 * u2 + w2) := by
    unfold own_c
    rw [own_N_and, own_N_ushr _ _ (k := 20) (by decide +kernel), own_N_mul, ha, show own_N (10486 : Int64) = 10486 from by decide +kernel, show own_N (545460846719 : Int64) = 127 + 2 ^ 32 * 127 from by decide +kernel]
    rw [Nat.mod_eq_of_lt (a := ((1000 * u0 + 100 * w0 + 10 * u1 + w1) + (1000 * u2 + 100 * w2 + 10 * u3 + w3) * 4294967296) * 10486) (by omega)]
    have e1 : ((1000 * u0 + 100 * w0 + 10 * u1 + w1) + (1000 * u2 + 100 * w2 + 10 * u3 + w3) * 4294967296) * 10486 = (24 * (10 * u0 + w0) + 10486 * (10 * u1 + w1)) + 2 ^ 20 * ((10 * u0 + w0) + (24 * (10 * u2 + w2) + 10486 * (10 * u3 + w3)) * 4096 + 2 ^ 32 * (10 * u2 + w2)) := by omega
    rw [e1, Nat.add_mul_div_left _ _ (by decide), Nat.div_eq_of_lt (by omega), Nat.zero_add]
    rw [own_and 32 _ _ _ _ (by omega) (by decide)]
    rw [show (127 : Nat) = 2 ^ 7 - 1 from rfl, Nat.and_two_pow_sub_one_eq_mod, Nat.and_two_pow_sub_one_eq_mod]
    rw [show ((10 * u0 + w0) + (24 * (10 * u2 + w2) + 10486 * (10 * u3 + w3)) * 4096) % 2 ^ 7 = 10 * u0 + w0 from by omega, show (10 * u2 + w2) % 2 ^ 7 = 10 * u2 + w2 from by omega]
  have he : own_N (own_e q) = (10 * u0 + w0) + (10 * u1 + w1) * 65536 + (10 * u2 + w2) * 4294967296 + (10 * u3 + w3) * 281474976710656 := by
    unfold own_e
    rw [own_N_or, own_N_shl _ _ (k := 16) (by decide +kernel), own_N_sub, own_N_mul, hc, ha, show own_N (100 : Int64) = 100 from by decide +kernel]
    rw [Nat.mod_eq_of_lt (a := 100 * ((10 * u0 + w0) + 2 ^ 32 * (10 * u2 + w2))) (by omega), show 18446744073709551616 - 100 * ((10 * u0 + w0) + 2 ^ 32 * (10 * u2 + w2)) + ((1000 * u0 + 100 * w0 + 10 * u1 + w1) + (1000 * u2 + 100 * w2 + 10 * u3 + w3) * 4294967296) = ((10 * u1 + w1) + (10 * u3 + w3) * 4294967296) + 18446744073709551616 from by omega, Nat.add_mod_right, Nat.mod_eq_of_lt (a := (10 * u1 + w1) + (10 * u3 + w3) * 4294967296) (by omega), Nat.mod_eq_of_lt (by omega)]
    rw [show ((10 * u1 + w1) + (10 * u3 + w3) * 4294967296) * 2 ^ 16 = ((10 * u1 + w1) * 2 ^ 16) + 2 ^ 32 * ((10 * u3 + w3) * 2 ^ 16) from by omega]
    rw [own_orr 32 _ _ _ _ (by omega) (by omega), own_or 16 _ _ (by omega), own_or 16 _ _ (by omega)]
    omega
  have ht : own_N (own_t q) = u0 + 2 ^ 16 * (u1 + 2 ^ 16 * (u2 + 2 ^ 16 * u3)) := by
    unfold own_t
    rw [own_N_and, own_N_ushr _ _ (k := 10) (by decide +kernel), own_N_mul, he, show own_N (103 : Int64) = 103 from by decide +kernel, show own_N (4222189076152335 : Int64) = 15 + 2 ^ 16 * (15 + 2 ^ 16 * (15 + 2 ^ 16 * 15)) from by decide +kernel]
    rw [Nat.mod_eq_of_lt (a := ((10 * u0 + w0) + (10 * u1 + w1) * 65536 + (10 * u2 + w2) * 4294967296 + (10 * u3 + w3) * 281474976710656) * 103) (by omega)]
    have e1 : ((10 * u0 + w0) + (10 * u1 + w1) * 65536 + (10 * u2 + w2) * 4294967296 + (10 * u3 + w3) * 281474976710656) * 103 = (6 * u0 + 103 * w0) + 2 ^ 10 * ((u0 + (6 * u1 + 103 * w1) * 64) + 2 ^ 16 * ((u1 + (6 * u2 + 103 * w2) * 64) + 2 ^ 16 * ((u2 + (6 * u3 + 103 * w3) * 64) + 2 ^ 16 * u3))) := by omega
    rw [e1, Nat.add_mul_div_left _ _ (by decide), Nat.div_eq_of_lt (by omega), Nat.zero_add]
    rw [own_and 16 _ _ _ _ (by omega) (by decide), own_and 16 _ _ _ _ (by omega) (by decide), own_and 16 _ _ _ _ (by omega) (by decide)]
    rw [show (15 : Nat) = 2 ^ 4 - 1 from rfl, Nat.and_two_pow_sub_one_eq_mod, Nat.and_two_pow_sub_one_eq_mod, Nat.and_two_pow_sub_one_eq_mod, Nat.and_two_pow_sub_one_eq_mod]
    rw [show (u0 + (6 * u1 + 103 * w1) * 64) % 2 ^ 4 = u0 from by omega, show (u1 + (6 * u2 + 103 * w2) * 64) % 2 ^ 4 = u1 from by omega, show (u2 + (6 * u3 + 103 * w3) * 64) % 2 ^ 4 = u2 from by omega, show u3 % 2 ^ 4 = u3 from by omega]
  have hg : own_N (own_g q) = u0 + w0 * 256 + u1 * 65536 + w1 * 16777216 + u2 * 4294967296 + w2 * 1099511627776 + u3 * 281474976710656 + w3 * 72057594037927936 := by
    unfold own_g
    rw [own_N_or, own_N_shl _ _ (k := 8) (by decide +kernel), own_N_sub, own_N_mul, ht, he, show own_N (10 : Int64) = 10 from by decide +kernel]
    rw [Nat.mod_eq_of_lt (a := 10 * (u0 + 2 ^ 16 * (u1 + 2 ^ 16 * (u2 + 2 ^ 16 * u3)))) (by omega), show 18446744073709551616 - 10 * (u0 + 2 ^ 16 * (u1 + 2 ^ 16 * (u2 + 2 ^ 16 * u3))) + ((10 * u0 + w0) + (10 * u1 + w1) * 65536 + (10 * u2 + w2) * 4294967296 + (10 * u3 + w3) * 281474976710656) = (w0 + w1 * 65536 + w2 * 4294967296 + w3 * 281474976710656) + 18446744073709551616 from by omega, Nat.add_mod_right, Nat.mod_eq_of_lt (a := w0 + w1 * 65536 + w2 * 4294967296 + w3 * 281474976710656) (by omega), Nat.mod_eq_of_lt (by omega)]
    rw [show (w0 + w1 * 65536 + w2 * 4294967296 + w3 * 281474976710656) * 2 ^ 8 = (w0 * 2 ^ 8) + 2 ^ 16 * ((w1 * 2 ^ 8) + 2 ^ 16 * ((w2 * 2 ^ 8) + 2 ^ 16 * (w3 * 2 ^ 8))) from by omega]
    rw [own_orr 16 _ _ _ _ (by omega) (by omega), own_orr 16 _ _ _ _ (by omega) (by omega), own_orr 16 _ _ _ _ (by omega) (by omega), own_or 8 _ _ (by omega), own_or 8 _ _ (by omega), own_or 8 _ _ (by omega), own_or 8 _ _ (by omega)]
    omega
  unfold own_digits
  rw [own_N_add, hg, show own_N (3472328296227680304 : Int64) = 3472328296227680304 from by decide +kernel, Nat.mod_eq_of_lt (by omega)]
  omega
theorem own_asc (d k : Int32) (D : Nat) {K : Nat} (hd : d.toInt = (D : Int)) (hD : D < 10) (hk : ((((8 : Int32) * k).toInt64 &&& 63).toBitVec.smod 64).toNat = K) (hK : (48 + D) * 2 ^ K < 18446744073709551616) : own_N (own_ascii d k) = (48 + D) * 2 ^ K := by
  unfold own_ascii
  have e : ((48 : Int32) + d).toInt = ((48 + D : Nat) : Int) := by
    rw [Jvm.Kit.i32_add (by rw [hd]; simp only [Int32.reduceToInt]; omega) (by rw [hd]; simp only [Int32.reduceToInt]; omega), hd]
    simp only [Int32.reduceToInt]; omega
  rw [own_N_shl _ _ hk, own_wid _ _ e, Nat.mod_eq_of_lt hK]
theorem own_stp (x y : Int64) {k X Y : Nat} (hx : own_N x = X) (hy : own_N y = Y * 2 ^ k) (hX : X < 2 ^ k) : own_N (x ||| y) = X + Y * 2 ^ k := by
  rw [own_N_or, hx, hy, own_or _ _ _ hX]
theorem own_dm (n p : Nat) : n / p = 10 * (n / (p * 10)) + n / p % 10 := by
  rw [← Nat.div_div_eq_div_mul]; exact (Nat.div_add_mod _ _).symm
theorem own_top (n : Nat) (hb : n < 100000000) : n / 10000000 = n / 10000000 % 10 := by omega
theorem own_sum (n q1 q2 q3 q4 q5 q6 q7 a0 a1 a2 a3 a4 a5 a6 a7 : Nat) (h7 : n = 10 * q1 + a7) (h6 : q1 = 10 * q2 + a6) (h5 : q2 = 10 * q3 + a5) (h4 : q3 = 10 * q4 + a4) (h3 : q4 = 10 * q5 + a3) (h2 : q5 = 10 * q6 + a2) (h1 : q6 = 10 * q7 + a1) (h0 : q7 = a0) :
    n = a0 * 10000000 + a1 * 1000000 + a2 * 100000 + a3 * 10000 + a4 * 1000 + a5 * 100 + a6 * 10 + a7 := by omega
theorem own_bytes (x a0 a1 a2 a3 a4 a5 a6 a7 : Nat) (h : x = 48 + a0 + (48 + a1) * 2 ^ 8 + (48 + a2) * 2 ^ 16 + (48 + a3) * 2 ^ 24 + (48 + a4) * 2 ^ 32 + (48 + a5) * 2 ^ 40 + (48 + a6) * 2 ^ 48 + (48 + a7) * 2 ^ 56) :
    x = (48 + a0) + (48 + a1) * 256 + (48 + a2) * 65536 + (48 + a3) * 16777216 + (48 + a4) * 4294967296 + (48 + a5) * 1099511627776 + (48 + a6) * 281474976710656 + (48 + a7) * 72057594037927936 := by omega
theorem own_lt8 (X a k : Nat) (h : X < 2 ^ k) (ha : a < 10) : X + (48 + a) * 2 ^ k < 2 ^ (k + 8) := by
  have : (48 + a) * 2 ^ k ≤ 57 * 2 ^ k := Nat.mul_le_mul_right _ (by omega)
  rw [Nat.pow_add]
  omega
theorem own_lt64 (a k : Nat) (hk : k ≤ 56) (ha : a < 10) : (48 + a) * 2 ^ k < 18446744073709551616 := by
  have h1 : (48 + a) * 2 ^ k ≤ 57 * 2 ^ k := Nat.mul_le_mul_right _ (by omega)
  have h2 : 2 ^ k ≤ 2 ^ 56 := Nat.pow_le_pow_right (by decide) hk
  have h3 : (57 : Nat) * 2 ^ 56 < 18446744073709551616 := by decide
  omega
theorem own_q1 (n : Nat) : n / 1000000 % 10 = n / 1000000 % 10 := rfl
theorem own_div4 (n q4 a0 a1 a2 a3 : Nat) (q5 q6 q7 : Nat) (h4 : n / 10000 = q4) (h3 : q4 = 10 * q5 + a3) (h2 : q5 = 10 * q6 + a2) (h1 : q6 = 10 * q7 + a1) (h0 : q7 = a0) : n / 10000 = 1000 * a0 + 100 * a1 + 10 * a2 + a3 := by omega
theorem own_mod4 (n q1 q2 q3 q4 a4 a5 a6 a7 : Nat) (b4 : a4 < 10) (b5 : a5 < 10) (b6 : a6 < 10) (b7 : a7 < 10) (h7 : n = 10 * q1 + a7) (h6 : q1 = 10 * q2 + a6) (h5 : q2 = 10 * q3 + a5) (h4 : q3 = 10 * q4 + a4) : n % 10000 = 1000 * a4 + 100 * a5 + 10 * a6 + a7 := by omega
set_option maxHeartbeats 4000000 in
theorem own_plain (v : Int32) (h1 : 0 ≤ v.toInt) (h2 : v.toInt < 100000000) : (own_digits v) = ((((((((own_ascii (v / (10000000 : Int32)) (0 : Int32)) ||| (own_ascii ((v / (1000000 : Int32)) % (10 : Int32)) (1 : Int32))) ||| (own_ascii ((v / (100000 : Int32)) % (10 : Int32)) (2 : Int32))) ||| (own_ascii ((v / (10000 : Int32)) % (10 : Int32)) (3 : Int32))) ||| (own_ascii ((v / (1000 : Int32)) % (10 : Int32)) (4 : Int32))) ||| (own_ascii ((v / (100 : Int32)) % (10 : Int32)) (5 : Int32))) ||| (own_ascii ((v / (10 : Int32)) % (10 : Int32)) (6 : Int32))) ||| (own_ascii (v % (10 : Int32)) (7 : Int32))) := by
  obtain ⟨n, hn⟩ : ∃ n : Nat, v.toInt = (n : Int) := ⟨v.toInt.toNat, by omega⟩
  have hb : n < 100000000 := by omega
  have t0 := own_dv v (10000000 : Int32) n 10000000 hn (by rfl)
  have t1 := own_md _ (10 : Int32) _ 10 (own_dv v (1000000 : Int32) n 1000000 hn (by rfl)) (by rfl)
  have t2 := own_md _ (10 : Int32) _ 10 (own_dv v (100000 : Int32) n 100000 hn (by rfl)) (by rfl)
  have t3 := own_md _ (10 : Int32) _ 10 (own_dv v (10000 : Int32) n 10000 hn (by rfl)) (by rfl)
  have t4 := own_md _ (10 : Int32) _ 10 (own_dv v (1000 : Int32) n 1000 hn (by rfl)) (by rfl)
  have t5 := own_md _ (10 : Int32) _ 10 (own_dv v (100 : Int32) n 100 hn (by rfl)) (by rfl)
  have t6 := own_md _ (10 : Int32) _ 10 (own_dv v (10 : Int32) n 10 hn (by rfl)) (by rfl)
  have t7 := own_md v (10 : Int32) n 10 hn (by rfl)
  have e1 := own_wid _ _ (own_dv v (10000 : Int32) n 10000 hn (by rfl))
  have e2 := own_wid _ _ (own_md v (10000 : Int32) n 10000 hn (by rfl))
  rw [own_top n hb] at t0
  rw [← Nat.div_one n] at t7
  generalize ga0 : n / 10000000 % 10 = a0 at t0
  generalize ga1 : n / 1000000 % 10 = a1 at t1
  generalize ga2 : n / 100000 % 10 = a2 at t2
  generalize ga3 : n / 10000 % 10 = a3 at t3
  generalize ga4 : n / 1000 % 10 = a4 at t4
  generalize ga5 : n / 100 % 10 = a5 at t5
  generalize ga6 : n / 10 % 10 = a6 at t6
  generalize ga7 : n / 1 % 10 = a7 at t7
  have b0 : a0 < 10 := by rw [← ga0]; exact Nat.mod_lt _ (by decide)
  have b1 : a1 < 10 := by rw [← ga1]; exact Nat.mod_lt _ (by decide)
  have b2 : a2 < 10 := by rw [← ga2]; exact Nat.mod_lt _ (by decide)
  have b3 : a3 < 10 := by rw [← ga3]; exact Nat.mod_lt _ (by decide)
  have b4 : a4 < 10 := by rw [← ga4]; exact Nat.mod_lt _ (by decide)
  have b5 : a5 < 10 := by rw [← ga5]; exact Nat.mod_lt _ (by decide)
  have b6 : a6 < 10 := by rw [← ga6]; exact Nat.mod_lt _ (by decide)
  have b7 : a7 < 10 := by rw [← ga7]; exact Nat.mod_lt _ (by decide)
  have r7 : n / 1 = 10 * (n / 10) + a7 := by rw [← ga7]; exact own_dm n 1
  have r6 : n / 10 = 10 * (n / 100) + a6 := by rw [← ga6]; exact own_dm n 10
  have r5 : n / 100 = 10 * (n / 1000) + a5 := by rw [← ga5]; exact own_dm n 100
  have r4 : n / 1000 = 10 * (n / 10000) + a4 := by rw [← ga4]; exact own_dm n 1000
  have r3 : n / 10000 = 10 * (n / 100000) + a3 := by rw [← ga3]; exact own_dm n 10000
  have r2 : n / 100000 = 10 * (n / 1000000) + a2 := by rw [← ga2]; exact own_dm n 100000
  have r1 : n / 1000000 = 10 * (n / 10000000) + a1 := by rw [← ga1]; exact own_dm n 1000000
  have r0 : n / 10000000 = a0 := by rw [← ga0]; exact own_top n hb
  have d0 := own_asc _ (0 : Int32) a0 (K := 0) t0 b0 (by decide +kernel) (own_lt64 _ _ (by decide) b0)
  have d1 := own_asc _ (1 : Int32) a1 (K := 8) t1 b1 (by decide +kernel) (own_lt64 _ _ (by decide) b1)
  have d2 := own_asc _ (2 : Int32) a2 (K := 16) t2 b2 (by decide +kernel) (own_lt64 _ _ (by decide) b2)
  have d3 := own_asc _ (3 : Int32) a3 (K := 24) t3 b3 (by decide +kernel) (own_lt64 _ _ (by decide) b3)
  have d4 := own_asc _ (4 : Int32) a4 (K := 32) t4 b4 (by decide +kernel) (own_lt64 _ _ (by decide) b4)
  have d5 := own_asc _ (5 : Int32) a5 (K := 40) t5 b5 (by decide +kernel) (own_lt64 _ _ (by decide) b5)
  have d6 := own_asc _ (6 : Int32) a6 (K := 48) t6 b6 (by decide +kernel) (own_lt64 _ _ (by decide) b6)
  have d7 := own_asc _ (7 : Int32) a7 (K := 56) t7 b7 (by decide +kernel) (own_lt64 _ _ (by decide) b7)
  have m1 := own_div4 n _ _ _ _ _ _ _ _ rfl r3 r2 r1 r0
  have m2 := own_mod4 n _ _ _ _ _ _ _ _ b4 b5 b6 b7 ((Nat.div_one n).symm.trans r7) r6 r5 r4
  have ha : own_N (own_a v) = (1000 * a0 + 100 * a1 + 10 * a2 + a3) + (1000 * a4 + 100 * a5 + 10 * a6 + a7) * 4294967296 := by
    unfold own_a
    rw [own_N_or, own_N_shl _ _ (k := 32) (by decide +kernel), e1, e2, m1, m2, Nat.mod_eq_of_lt (by omega), own_or 32 _ _ (by omega)]
  have hv := own_val a0 a1 a2 a3 a4 a5 a6 a7 b0 b1 b2 b3 b4 b5 b6 b7 v ha
  apply own_N_inj
  rw [hv]
  have l0 : 48 + a0 < 2 ^ 8 := Nat.lt_of_lt_of_le (Nat.add_lt_add_left b0 48) (by decide)
  have s0 : own_N (own_ascii (v / (10000000 : Int32)) (0 : Int32)) = 48 + a0 := d0.trans (Nat.mul_one _)
  have s1 := own_stp _ _ (k := 8) s0 d1 l0
  have l1 := own_lt8 _ _ _ l0 b1
  have s2 := own_stp _ _ (k := 16) s1 d2 l1
  have l2 := own_lt8 _ _ _ l1 b2
  have s3 := own_stp _ _ (k := 24) s2 d3 l2
  have l3 := own_lt8 _ _ _ l2 b3
  have s4 := own_stp _ _ (k := 32) s3 d4 l3
  have l4 := own_lt8 _ _ _ l3 b4
  have s5 := own_stp _ _ (k := 40) s4 d5 l4
  have l5 := own_lt8 _ _ _ l4 b5
  have s6 := own_stp _ _ (k := 48) s5 d6 l5
  have l6 := own_lt8 _ _ _ l5 b6
  have s7 := own_stp _ _ (k := 56) s6 d7 l6
  have l7 := own_lt8 _ _ _ l6 b7
  exact (own_bytes _ _ _ _ _ _ _ _ _ s7).symm

theorem pn_own_law : plainName "com/example/kennel/kennel/EightBytesDigitsOfPinLaw" = true := by first | (simp [plainName, overriddenIn]; done) | decide +kernel
def Q_own_law (Z : State) (p0 : Int32)  (h0 : Heap) (n0 : Nat) (v : Option Value) (h : Heap) (L : List Loc) : Prop := v = some (.int 1) ∧ Fr n0 L
set_option maxRecDepth 65536 in
set_option maxHeartbeats 40000000 in
theorem own_law (l : Launch) (Z : State) (a0 : Array Value) (hw : ∀ d ∈ tables_1, d.before a0 Z = true) (ws : List Jvm.Cond) (p0 : Int32)  (h0 : Heap) (n0 : Nat)  :
    MetFree l x (head1 (Jvm.Cond.code x code maxLocals ret :: ws) room_1) (fun aa U => aa = #[(.int p0)] ∧ Z.Warmed39 U.vm ∧ U.heap = h0) (fun _ _ _ _ _ => True) (fun _ U o U' => ∃ v L, o = .returned v ∧ Q_own_law Z p0 h0 n0 v U'.heap L ∧ FrameEnd U o U' L room_1.cells room_1.slots) := by
  refine own_body (x := x) (maxL := maxLocals) (as' := #[(.int p0)]) (Q := Q_own_law Z p0 h0 n0) pn_own_law #[.val (.int p0), .unset, .unset, .unset, .unset, .unset, .unset, .unset, .unset, .unset, .unset, .unset] (fun m => by first | rfl | (simp [entryFrame, mkF, argsToLocals, Value.category, maxLocals]; done)) ?_
  intro p e s m below meth c T0 X0 hx hby hml hret hlk hown hnm hZ e0
  replace hml : c.maxLocals = 12 := hml
  replace hown : s.vm.findClass "com/example/kennel/kennel/EightBytesDigitsOfPinLaw" = some m.cls := hown
  have N0 := Fr.nil n0
  refine own_st (G := T0.setTop (mkF m 1 #[.val (.int p0), .unset, .unset, .unset, .unset, .unset, .unset, .unset, .unset, .unset, .unset, .unset] [(.int p0)])) (fun _ kk => XS.iloadN X0.here hx rfl (hb hby at_0) rfl kk) ?_
  refine own_st (G := T0.setTop (mkF m 3 #[.val (.int p0), .unset, .unset, .unset, .unset, .unset, .unset, .unset, .unset, .unset, .unset, .unset] [(.int (2147483647 : Int32)), (.int p0)])) (fun _ kk => X0.ldcInt hx hown (mvT hZ (own_w hw 0 rfl)) (g := (mkF m 1 #[.val (.int p0), .unset, .unset, .unset, .unset, .unset, .unset, .unset, .unset, .unset, .unset, .unset] [(.int p0)])) rfl (hb hby at_1) _ kk) ?_
  refine own_st (G := T0.setTop (mkF m 4 #[.val (.int p0), .unset, .unset, .unset, .unset, .unset, .unset, .unset, .unset, .unset, .unset, .unset] [(.int (p0 &&& (2147483647 : Int32)))])) (fun _ kk => XS.iand X0.here hx rfl (hb hby at_3) rfl kk) ?_
  refine own_st (G := T0.setTop (mkF m 6 #[.val (.int p0), .unset, .unset, .unset, .unset, .unset, .unset, .unset, .unset, .unset, .unset, .unset] [(.int (100000000 : Int32)), (.int (p0 &&& (2147483647 : Int32)))])) (fun _ kk => X0.ldcInt hx hown (mvT hZ (own_w hw 1 rfl)) (g := (mkF m 4 #[.val (.int p0), .unset, .unset, .unset, .unset, .unset, .unset, .unset, .unset, .unset, .unset, .unset] [(.int (p0 &&& (2147483647 : Int32)))])) rfl (hb hby at_4) _ kk) ?_
  refine own_st (G := T0.setTop (mkF m 7 #[.val (.int p0), .unset, .unset, .unset, .unset, .unset, .unset, .unset, .unset, .unset, .unset, .unset] [(.int ((p0 &&& (2147483647 : Int32)) % (100000000 : Int32)))])) (fun _ kk => iremM X0 hx rfl (hb hby at_6) rfl (by decide) kk) ?_
  generalize hv7 : ((p0 &&& (2147483647 : Int32)) % (100000000 : Int32)) = v7
  refine own_st (G := T0.setTop (mkF m 8 #[.val (.int p0), .val (.int v7), .unset, .unset, .unset, .unset, .unset, .unset, .unset, .unset, .unset, .unset] [])) (fun _ kk => XS.istoreN X0.here hx rfl (hb hby at_7) rfl (l' := #[.val (.int p0), .val (.int v7), .unset, .unset, .unset, .unset, .unset, .unset, .unset, .unset, .unset, .unset]) rfl kk) ?_
  refine own_st (G := T0.setTop (mkF m 9 #[.val (.int p0), .val (.int v7), .unset, .unset, .unset, .unset, .unset, .unset, .unset, .unset, .unset, .unset] [(.int v7)])) (fun _ kk => XS.iloadN X0.here hx rfl (hb hby at_8) rfl kk) ?_
  refine own_st (G := T0.setTop (mkF m 11 #[.val (.int p0), .val (.int v7), .unset, .unset, .unset, .unset, .unset, .unset, .unset, .unset, .unset, .unset] [(.int (10000000 : Int32)), (.int v7)])) (fun _ kk => X0.ldcInt hx hown (mvT hZ (own_w hw 2 rfl)) (g := (mkF m 9 #[.val (.int p0), .val (.int v7), .unset, .unset, .unset, .unset, .unset, .unset, .unset, .unset, .unset, .unset] [(.int v7)])) rfl (hb hby at_9) _ kk) ?_
  refine own_st (G := T0.setTop (mkF m 12 #[.val (.int p0), .val (.int v7), .unset, .unset, .unset, .unset, .unset, .unset, .unset, .unset, .unset, .unset] [(.int (v7 / (10000000 : Int32)))])) (fun _ kk => XS.idiv X0.here hx rfl (hb hby at_11) rfl (by decide) kk) ?_
  refine own_st (G := T0.setTop (mkF m 13 #[.val (.int p0), .val (.int v7), .val (.int (v7 / (10000000 : Int32))), .unset, .unset, .unset, .unset, .unset, .unset, .unset, .unset, .unset] [])) (fun _ kk => XS.istoreN X0.here hx rfl (hb hby at_12) rfl (l' := #[.val (.int p0), .val (.int v7), .val (.int (v7 / (10000000 : Int32))), .unset, .unset, .unset, .unset, .unset, .unset, .unset, .unset, .unset]) rfl kk) ?_
  refine own_st (G := T0.setTop (mkF m 14 #[.val (.int p0), .val (.int v7), .val (.int (v7 / (10000000 : Int32))), .unset, .unset, .unset, .unset, .unset, .unset, .unset, .unset, .unset] [(.int v7)])) (fun _ kk => XS.iloadN X0.here hx rfl (hb hby at_13) rfl kk) ?_
  refine own_st (G := T0.setTop (mkF m 16 #[.val (.int p0), .val (.int v7), .val (.int (v7 / (10000000 : Int32))), .unset, .unset, .unset, .unset, .unset, .unset, .unset, .unset, .unset] [(.int (1000000 : Int32)), (.int v7)])) (fun _ kk => X0.ldcInt hx hown (mvT hZ (own_w hw 3 rfl)) (g := (mkF m 14 #[.val (.int p0), .val (.int v7), .val (.int (v7 / (10000000 : Int32))), .unset, .unset, .unset, .unset, .unset, .unset, .unset, .unset, .unset] [(.int v7)])) rfl (hb hby at_14) _ kk) ?_
  refine own_st (G := T0.setTop (mkF m 17 #[.val (.int p0), .val (.int v7), .val (.int (v7 / (10000000 : Int32))), .unset, .unset, .unset, .unset, .unset, .unset, .unset, .unset, .unset] [(.int (v7 / (1000000 : Int32)))])) (fun _ kk => XS.idiv X0.here hx rfl (hb hby at_16) rfl (by decide) kk) ?_
  refine own_st (G := T0.setTop (mkF m 19 #[.val (.int p0), .val (.int v7), .val (.int (v7 / (10000000 : Int32))), .unset, .unset, .unset, .unset, .unset, .unset, .unset, .unset, .unset] [(.int (10 : Int32)), (.int (v7 / (1000000 : Int32)))])) (fun _ kk => XT.bipushV X0.here hx rfl (10 : Int32) (hb hby at_17) (by decide) kk) ?_
  refine own_st (G := T0.setTop (mkF m 20 #[.val (.int p0), .val (.int v7), .val (.int (v7 / (10000000 : Int32))), .unset, .unset, .unset, .unset, .unset, .unset, .unset, .unset, .unset] [(.int ((v7 / (1000000 : Int32)) % (10 : Int32)))])) (fun _ kk => iremM X0 hx rfl (hb hby at_19) rfl (by decide) kk) ?_
  refine own_st (G := T0.setTop (mkF m 21 #[.val (.int p0), .val (.int v7), .val (.int (v7 / (10000000 : Int32))), .val (.int ((v7 / (1000000 : Int32)) % (10 : Int32))), .unset, .unset, .unset, .unset, .unset, .unset, .unset, .unset] [])) (fun _ kk => XS.istoreN X0.here hx rfl (hb hby at_20) rfl (l' := #[.val (.int p0), .val (.int v7), .val (.int (v7 / (10000000 : Int32))), .val (.int ((v7 / (1000000 : Int32)) % (10 : Int32))), .unset, .unset, .unset, .unset, .unset, .unset, .unset, .unset]) rfl kk) ?_
  refine own_st (G := T0.setTop (mkF m 22 #[.val (.int p0), .val (.int v7), .val (.int (v7 / (10000000 : Int32))), .val (.int ((v7 / (1000000 : Int32)) % (10 : Int32))), .unset, .unset, .unset, .unset, .unset, .unset, .unset, .unset] [(.int v7)])) (fun _ kk => XS.iloadN X0.here hx rfl (hb hby at_21) rfl kk) ?_
  refine own_st (G := T0.setTop (mkF m 24 #[.val (.int p0), .val (.int v7), .val (.int (v7 / (10000000 : Int32))), .val (.int ((v7 / (1000000 : Int32)) % (10 : Int32))), .unset, .unset, .unset, .unset, .unset, .unset, .unset, .unset] [(.int (100000 : Int32)), (.int v7)])) (fun _ kk => X0.ldcInt hx hown (mvT hZ (own_w hw 4 rfl)) (g := (mkF m 22 #[.val (.int p0), .val (.int v7), .val (.int (v7 / (10000000 : Int32))), .val (.int ((v7 / (1000000 : Int32)) % (10 : Int32))), .unset, .unset, .unset, .unset, .unset, .unset, .unset, .unset] [(.int v7)])) rfl (hb hby at_22) _ kk) ?_
  refine own_st (G := T0.setTop (mkF m 25 #[.val (.int p0), .val (.int v7), .val (.int (v7 / (10000000 : Int32))), .val (.int ((v7 / (1000000 : Int32)) % (10 : Int32))), .unset, .unset, .unset, .unset, .unset, .unset, .unset, .unset] [(.int (v7 / (100000 : Int32)))])) (fun _ kk => XS.idiv X0.here hx rfl (hb hby at_24) rfl (by decide) kk) ?_
  refine own_st (G := T0.setTop (mkF m 27 #[.val (.int p0), .val (.int v7), .val (.int (v7 / (10000000 : Int32))), .val (.int ((v7 / (1000000 : Int32)) % (10 : Int32))), .unset, .unset, .unset, .unset, .unset, .unset, .unset, .unset] [(.int (10 : Int32)), (.int (v7 / (100000 : Int32)))])) (fun _ kk => XT.bipushV X0.here hx rfl (10 : Int32) (hb hby at_25) (by decide) kk) ?_
  refine own_st (G := T0.setTop (mkF m 28 #[.val (.int p0), .val (.int v7), .val (.int (v7 / (10000000 : Int32))), .val (.int ((v7 / (1000000 : Int32)) % (10 : Int32))), .unset, .unset, .unset, .unset, .unset, .unset, .unset, .unset] [(.int ((v7 / (100000 : Int32)) % (10 : Int32)))])) (fun _ kk => iremM X0 hx rfl (hb hby at_27) rfl (by decide) kk) ?_
  refine own_st (G := T0.setTop (mkF m 30 #[.val (.int p0), .val (.int v7), .val (.int (v7 / (10000000 : Int32))), .val (.int ((v7 / (1000000 : Int32)) % (10 : Int32))), .val (.int ((v7 / (100000 : Int32)) % (10 : Int32))), .unset, .unset, .unset, .unset, .unset, .unset, .unset] [])) (fun _ kk => XS.istore X0.here hx rfl (hb hby at_28) rfl (l' := #[.val (.int p0), .val (.int v7), .val (.int (v7 / (10000000 : Int32))), .val (.int ((v7 / (1000000 : Int32)) % (10 : Int32))), .val (.int ((v7 / (100000 : Int32)) % (10 : Int32))), .unset, .unset, .unset, .unset, .unset, .unset, .unset]) rfl kk) ?_
  refine own_st (G := T0.setTop (mkF m 31 #[.val (.int p0), .val (.int v7), .val (.int (v7 / (10000000 : Int32))), .val (.int ((v7 / (1000000 : Int32)) % (10 : Int32))), .val (.int ((v7 / (100000 : Int32)) % (10 : Int32))), .unset, .unset, .unset, .unset, .unset, .unset, .unset] [(.int v7)])) (fun _ kk => XS.iloadN X0.here hx rfl (hb hby at_30) rfl kk) ?_
  refine own_st (G := T0.setTop (mkF m 34 #[.val (.int p0), .val (.int v7), .val (.int (v7 / (10000000 : Int32))), .val (.int ((v7 / (1000000 : Int32)) % (10 : Int32))), .val (.int ((v7 / (100000 : Int32)) % (10 : Int32))), .unset, .unset, .unset, .unset, .unset, .unset, .unset] [(.int (10000 : Int32)), (.int v7)])) (fun _ kk => XT.sipushV X0.here hx rfl (10000 : Int32) (hb hby at_31) (by decide) kk) ?_
  refine own_st (G := T0.setTop (mkF m 35 #[.val (.int p0), .val (.int v7), .val (.int (v7 / (10000000 : Int32))), .val (.int ((v7 / (1000000 : Int32)) % (10 : Int32))), .val (.int ((v7 / (100000 : Int32)) % (10 : Int32))), .unset, .unset, .unset, .unset, .unset, .unset, .unset] [(.int (v7 / (10000 : Int32)))])) (fun _ kk => XS.idiv X0.here hx rfl (hb hby at_34) rfl (by decide) kk) ?_
  refine own_st (G := T0.setTop (mkF m 37 #[.val (.int p0), .val (.int v7), .val (.int (v7 / (10000000 : Int32))), .val (.int ((v7 / (1000000 : Int32)) % (10 : Int32))), .val (.int ((v7 / (100000 : Int32)) % (10 : Int32))), .unset, .unset, .unset, .unset, .unset, .unset, .unset] [(.int (10 : Int32)), (.int (v7 / (10000 : Int32)))])) (fun _ kk => XT.bipushV X0.here hx rfl (10 : Int32) (hb hby at_35) (by decide) kk) ?_
  refine own_st (G := T0.setTop (mkF m 38 #[.val (.int p0), .val (.int v7), .val (.int (v7 / (10000000 : Int32))), .val (.int ((v7 / (1000000 : Int32)) % (10 : Int32))), .val (.int ((v7 / (100000 : Int32)) % (10 : Int32))), .unset, .unset, .unset, .unset, .unset, .unset, .unset] [(.int ((v7 / (10000 : Int32)) % (10 : Int32)))])) (fun _ kk => iremM X0 hx rfl (hb hby at_37) rfl (by decide) kk) ?_
  refine own_st (G := T0.setTop (mkF m 40 #[.val (.int p0), .val (.int v7), .val (.int (v7 / (10000000 : Int32))), .val (.int ((v7 / (1000000 : Int32)) % (10 : Int32))), .val (.int ((v7 / (100000 : Int32)) % (10 : Int32))), .val (.int ((v7 / (10000 : Int32)) % (10 : Int32))), .unset, .unset, .unset, .unset, .unset, .unset] [])) (fun _ kk => XS.istore X0.here hx rfl (hb hby at_38) rfl (l' := #[.val (.int p0), .val (.int v7), .val (.int (v7 / (10000000 : Int32))), .val (.int ((v7 / (1000000 : Int32)) % (10 : Int32))), .val (.int ((v7 / (100000 : Int32)) % (10 : Int32))), .val (.int ((v7 / (10000 : Int32)) % (10 : Int32))), .unset, .unset, .unset, .unset, .unset, .unset]) rfl kk) ?_
  refine own_st (G := T0.setTop (mkF m 41 #[.val (.int p0), .val (.int v7), .val (.int (v7 / (10000000 : Int32))), .val (.int ((v7 / (1000000 : Int32)) % (10 : Int32))), .val (.int ((v7 / (100000 : Int32)) % (10 : Int32))), .val (.int ((v7 / (10000 : Int32)) % (10 : Int32))), .unset, .unset, .unset, .unset, .unset, .unset] [(.int v7)])) (fun _ kk => XS.iloadN X0.here hx rfl (hb hby at_40) rfl kk) ?_
  refine own_st (G := T0.setTop (mkF m 44 #[.val (.int p0), .val (.int v7), .val (.int (v7 / (10000000 : Int32))), .val (.int ((v7 / (1000000 : Int32)) % (10 : Int32))), .val (.int ((v7 / (100000 : Int32)) % (10 : Int32))), .val (.int ((v7 / (10000 : Int32)) % (10 : Int32))), .unset, .unset, .unset, .unset, .unset, .unset] [(.int (1000 : Int32)), (.int v7)])) (fun _ kk => XT.sipushV X0.here hx rfl (1000 : Int32) (hb hby at_41) (by decide) kk) ?_
  refine own_st (G := T0.setTop (mkF m 45 #[.val (.int p0), .val (.int v7), .val (.int (v7 / (10000000 : Int32))), .val (.int ((v7 / (1000000 : Int32)) % (10 : Int32))), .val (.int ((v7 / (100000 : Int32)) % (10 : Int32))), .val (.int ((v7 / (10000 : Int32)) % (10 : Int32))), .unset, .unset, .unset, .unset, .unset, .unset] [(.int (v7 / (1000 : Int32)))])) (fun _ kk => XS.idiv X0.here hx rfl (hb hby at_44) rfl (by decide) kk) ?_
  refine own_st (G := T0.setTop (mkF m 47 #[.val (.int p0), .val (.int v7), .val (.int (v7 / (10000000 : Int32))), .val (.int ((v7 / (1000000 : Int32)) % (10 : Int32))), .val (.int ((v7 / (100000 : Int32)) % (10 : Int32))), .val (.int ((v7 / (10000 : Int32)) % (10 : Int32))), .unset, .unset, .unset, .unset, .unset, .unset] [(.int (10 : Int32)), (.int (v7 / (1000 : Int32)))])) (fun _ kk => XT.bipushV X0.here hx rfl (10 : Int32) (hb hby at_45) (by decide) kk) ?_
  refine own_st (G := T0.setTop (mkF m 48 #[.val (.int p0), .val (.int v7), .val (.int (v7 / (10000000 : Int32))), .val (.int ((v7 / (1000000 : Int32)) % (10 : Int32))), .val (.int ((v7 / (100000 : Int32)) % (10 : Int32))), .val (.int ((v7 / (10000 : Int32)) % (10 : Int32))), .unset, .unset, .unset, .unset, .unset, .unset] [(.int ((v7 / (1000 : Int32)) % (10 : Int32)))])) (fun _ kk => iremM X0 hx rfl (hb hby at_47) rfl (by decide) kk) ?_
  refine own_st (G := T0.setTop (mkF m 50 #[.val (.int p0), .val (.int v7), .val (.int (v7 / (10000000 : Int32))), .val (.int ((v7 / (1000000 : Int32)) % (10 : Int32))), .val (.int ((v7 / (100000 : Int32)) % (10 : Int32))), .val (.int ((v7 / (10000 : Int32)) % (10 : Int32))), .val (.int ((v7 / (1000 : Int32)) % (10 : Int32))), .unset, .unset, .unset, .unset, .unset] [])) (fun _ kk => XS.istore X0.here hx rfl (hb hby at_48) rfl (l' := #[.val (.int p0), .val (.int v7), .val (.int (v7 / (10000000 : Int32))), .val (.int ((v7 / (1000000 : Int32)) % (10 : Int32))), .val (.int ((v7 / (100000 : Int32)) % (10 : Int32))), .val (.int ((v7 / (10000 : Int32)) % (10 : Int32))), .val (.int ((v7 / (1000 : Int32)) % (10 : Int32))), .unset, .unset, .unset, .unset, .unset]) rfl kk) ?_
  refine own_st (G := T0.setTop (mkF m 51 #[.val (.int p0), .val (.int v7), .val (.int (v7 / (10000000 : Int32))), .val (.int ((v7 / (1000000 : Int32)) % (10 : Int32))), .val (.int ((v7 / (100000 : Int32)) % (10 : Int32))), .val (.int ((v7 / (10000 : Int32)) % (10 : Int32))), .val (.int ((v7 / (1000 : Int32)) % (10 : Int32))), .unset, .unset, .unset, .unset, .unset] [(.int v7)])) (fun _ kk => XS.iloadN X0.here hx rfl (hb hby at_50) rfl kk) ?_
  refine own_st (G := T0.setTop (mkF m 53 #[.val (.int p0), .val (.int v7), .val (.int (v7 / (10000000 : Int32))), .val (.int ((v7 / (1000000 : Int32)) % (10 : Int32))), .val (.int ((v7 / (100000 : Int32)) % (10 : Int32))), .val (.int ((v7 / (10000 : Int32)) % (10 : Int32))), .val (.int ((v7 / (1000 : Int32)) % (10 : Int32))), .unset, .unset, .unset, .unset, .unset] [(.int (100 : Int32)), (.int v7)])) (fun _ kk => XT.bipushV X0.here hx rfl (100 : Int32) (hb hby at_51) (by decide) kk) ?_
  refine own_st (G := T0.setTop (mkF m 54 #[.val (.int p0), .val (.int v7), .val (.int (v7 / (10000000 : Int32))), .val (.int ((v7 / (1000000 : Int32)) % (10 : Int32))), .val (.int ((v7 / (100000 : Int32)) % (10 : Int32))), .val (.int ((v7 / (10000 : Int32)) % (10 : Int32))), .val (.int ((v7 / (1000 : Int32)) % (10 : Int32))), .unset, .unset, .unset, .unset, .unset] [(.int (v7 / (100 : Int32)))])) (fun _ kk => XS.idiv X0.here hx rfl (hb hby at_53) rfl (by decide) kk) ?_
  refine own_st (G := T0.setTop (mkF m 56 #[.val (.int p0), .val (.int v7), .val (.int (v7 / (10000000 : Int32))), .val (.int ((v7 / (1000000 : Int32)) % (10 : Int32))), .val (.int ((v7 / (100000 : Int32)) % (10 : Int32))), .val (.int ((v7 / (10000 : Int32)) % (10 : Int32))), .val (.int ((v7 / (1000 : Int32)) % (10 : Int32))), .unset, .unset, .unset, .unset, .unset] [(.int (10 : Int32)), (.int (v7 / (100 : Int32)))])) (fun _ kk => XT.bipushV X0.here hx rfl (10 : Int32) (hb hby at_54) (by decide) kk) ?_
  refine own_st (G := T0.setTop (mkF m 57 #[.val (.int p0), .val (.int v7), .val (.int (v7 / (10000000 : Int32))), .val (.int ((v7 / (1000000 : Int32)) % (10 : Int32))), .val (.int ((v7 / (100000 : Int32)) % (10 : Int32))), .val (.int ((v7 / (10000 : Int32)) % (10 : Int32))), .val (.int ((v7 / (1000 : Int32)) % (10 : Int32))), .unset, .unset, .unset, .unset, .unset] [(.int ((v7 / (100 : Int32)) % (10 : Int32)))])) (fun _ kk => iremM X0 hx rfl (hb hby at_56) rfl (by decide) kk) ?_
  refine own_st (G := T0.setTop (mkF m 59 #[.val (.int p0), .val (.int v7), .val (.int (v7 / (10000000 : Int32))), .val (.int ((v7 / (1000000 : Int32)) % (10 : Int32))), .val (.int ((v7 / (100000 : Int32)) % (10 : Int32))), .val (.int ((v7 / (10000 : Int32)) % (10 : Int32))), .val (.int ((v7 / (1000 : Int32)) % (10 : Int32))), .val (.int ((v7 / (100 : Int32)) % (10 : Int32))), .unset, .unset, .unset, .unset] [])) (fun _ kk => XS.istore X0.here hx rfl (hb hby at_57) rfl (l' := #[.val (.int p0), .val (.int v7), .val (.int (v7 / (10000000 : Int32))), .val (.int ((v7 / (1000000 : Int32)) % (10 : Int32))), .val (.int ((v7 / (100000 : Int32)) % (10 : Int32))), .val (.int ((v7 / (10000 : Int32)) % (10 : Int32))), .val (.int ((v7 / (1000 : Int32)) % (10 : Int32))), .val (.int ((v7 / (100 : Int32)) % (10 : Int32))), .unset, .unset, .unset, .unset]) rfl kk) ?_
  refine own_st (G := T0.setTop (mkF m 60 #[.val (.int p0), .val (.int v7), .val (.int (v7 / (10000000 : Int32))), .val (.int ((v7 / (1000000 : Int32)) % (10 : Int32))), .val (.int ((v7 / (100000 : Int32)) % (10 : Int32))), .val (.int ((v7 / (10000 : Int32)) % (10 : Int32))), .val (.int ((v7 / (1000 : Int32)) % (10 : Int32))), .val (.int ((v7 / (100 : Int32)) % (10 : Int32))), .unset, .unset, .unset, .unset] [(.int v7)])) (fun _ kk => XS.iloadN X0.here hx rfl (hb hby at_59) rfl kk) ?_
  refine own_st (G := T0.setTop (mkF m 62 #[.val (.int p0), .val (.int v7), .val (.int (v7 / (10000000 : Int32))), .val (.int ((v7 / (1000000 : Int32)) % (10 : Int32))), .val (.int ((v7 / (100000 : Int32)) % (10 : Int32))), .val (.int ((v7 / (10000 : Int32)) % (10 : Int32))), .val (.int ((v7 / (1000 : Int32)) % (10 : Int32))), .val (.int ((v7 / (100 : Int32)) % (10 : Int32))), .unset, .unset, .unset, .unset] [(.int (10 : Int32)), (.int v7)])) (fun _ kk => XT.bipushV X0.here hx rfl (10 : Int32) (hb hby at_60) (by decide) kk) ?_
  refine own_st (G := T0.setTop (mkF m 63 #[.val (.int p0), .val (.int v7), .val (.int (v7 / (10000000 : Int32))), .val (.int ((v7 / (1000000 : Int32)) % (10 : Int32))), .val (.int ((v7 / (100000 : Int32)) % (10 : Int32))), .val (.int ((v7 / (10000 : Int32)) % (10 : Int32))), .val (.int ((v7 / (1000 : Int32)) % (10 : Int32))), .val (.int ((v7 / (100 : Int32)) % (10 : Int32))), .unset, .unset, .unset, .unset] [(.int (v7 / (10 : Int32)))])) (fun _ kk => XS.idiv X0.here hx rfl (hb hby at_62) rfl (by decide) kk) ?_
  refine own_st (G := T0.setTop (mkF m 65 #[.val (.int p0), .val (.int v7), .val (.int (v7 / (10000000 : Int32))), .val (.int ((v7 / (1000000 : Int32)) % (10 : Int32))), .val (.int ((v7 / (100000 : Int32)) % (10 : Int32))), .val (.int ((v7 / (10000 : Int32)) % (10 : Int32))), .val (.int ((v7 / (1000 : Int32)) % (10 : Int32))), .val (.int ((v7 / (100 : Int32)) % (10 : Int32))), .unset, .unset, .unset, .unset] [(.int (10 : Int32)), (.int (v7 / (10 : Int32)))])) (fun _ kk => XT.bipushV X0.here hx rfl (10 : Int32) (hb hby at_63) (by decide) kk) ?_
  refine own_st (G := T0.setTop (mkF m 66 #[.val (.int p0), .val (.int v7), .val (.int (v7 / (10000000 : Int32))), .val (.int ((v7 / (1000000 : Int32)) % (10 : Int32))), .val (.int ((v7 / (100000 : Int32)) % (10 : Int32))), .val (.int ((v7 / (10000 : Int32)) % (10 : Int32))), .val (.int ((v7 / (1000 : Int32)) % (10 : Int32))), .val (.int ((v7 / (100 : Int32)) % (10 : Int32))), .unset, .unset, .unset, .unset] [(.int ((v7 / (10 : Int32)) % (10 : Int32)))])) (fun _ kk => iremM X0 hx rfl (hb hby at_65) rfl (by decide) kk) ?_
  refine own_st (G := T0.setTop (mkF m 68 #[.val (.int p0), .val (.int v7), .val (.int (v7 / (10000000 : Int32))), .val (.int ((v7 / (1000000 : Int32)) % (10 : Int32))), .val (.int ((v7 / (100000 : Int32)) % (10 : Int32))), .val (.int ((v7 / (10000 : Int32)) % (10 : Int32))), .val (.int ((v7 / (1000 : Int32)) % (10 : Int32))), .val (.int ((v7 / (100 : Int32)) % (10 : Int32))), .val (.int ((v7 / (10 : Int32)) % (10 : Int32))), .unset, .unset, .unset] [])) (fun _ kk => XS.istore X0.here hx rfl (hb hby at_66) rfl (l' := #[.val (.int p0), .val (.int v7), .val (.int (v7 / (10000000 : Int32))), .val (.int ((v7 / (1000000 : Int32)) % (10 : Int32))), .val (.int ((v7 / (100000 : Int32)) % (10 : Int32))), .val (.int ((v7 / (10000 : Int32)) % (10 : Int32))), .val (.int ((v7 / (1000 : Int32)) % (10 : Int32))), .val (.int ((v7 / (100 : Int32)) % (10 : Int32))), .val (.int ((v7 / (10 : Int32)) % (10 : Int32))), .unset, .unset, .unset]) rfl kk) ?_
  refine own_st (G := T0.setTop (mkF m 69 #[.val (.int p0), .val (.int v7), .val (.int (v7 / (10000000 : Int32))), .val (.int ((v7 / (1000000 : Int32)) % (10 : Int32))), .val (.int ((v7 / (100000 : Int32)) % (10 : Int32))), .val (.int ((v7 / (10000 : Int32)) % (10 : Int32))), .val (.int ((v7 / (1000 : Int32)) % (10 : Int32))), .val (.int ((v7 / (100 : Int32)) % (10 : Int32))), .val (.int ((v7 / (10 : Int32)) % (10 : Int32))), .unset, .unset, .unset] [(.int v7)])) (fun _ kk => XS.iloadN X0.here hx rfl (hb hby at_68) rfl kk) ?_
  refine own_st (G := T0.setTop (mkF m 71 #[.val (.int p0), .val (.int v7), .val (.int (v7 / (10000000 : Int32))), .val (.int ((v7 / (1000000 : Int32)) % (10 : Int32))), .val (.int ((v7 / (100000 : Int32)) % (10 : Int32))), .val (.int ((v7 / (10000 : Int32)) % (10 : Int32))), .val (.int ((v7 / (1000 : Int32)) % (10 : Int32))), .val (.int ((v7 / (100 : Int32)) % (10 : Int32))), .val (.int ((v7 / (10 : Int32)) % (10 : Int32))), .unset, .unset, .unset] [(.int (10 : Int32)), (.int v7)])) (fun _ kk => XT.bipushV X0.here hx rfl (10 : Int32) (hb hby at_69) (by decide) kk) ?_
  refine own_st (G := T0.setTop (mkF m 72 #[.val (.int p0), .val (.int v7), .val (.int (v7 / (10000000 : Int32))), .val (.int ((v7 / (1000000 : Int32)) % (10 : Int32))), .val (.int ((v7 / (100000 : Int32)) % (10 : Int32))), .val (.int ((v7 / (10000 : Int32)) % (10 : Int32))), .val (.int ((v7 / (1000 : Int32)) % (10 : Int32))), .val (.int ((v7 / (100 : Int32)) % (10 : Int32))), .val (.int ((v7 / (10 : Int32)) % (10 : Int32))), .unset, .unset, .unset] [(.int (v7 % (10 : Int32)))])) (fun _ kk => iremM X0 hx rfl (hb hby at_71) rfl (by decide) kk) ?_
  refine own_st (G := T0.setTop (mkF m 74 #[.val (.int p0), .val (.int v7), .val (.int (v7 / (10000000 : Int32))), .val (.int ((v7 / (1000000 : Int32)) % (10 : Int32))), .val (.int ((v7 / (100000 : Int32)) % (10 : Int32))), .val (.int ((v7 / (10000 : Int32)) % (10 : Int32))), .val (.int ((v7 / (1000 : Int32)) % (10 : Int32))), .val (.int ((v7 / (100 : Int32)) % (10 : Int32))), .val (.int ((v7 / (10 : Int32)) % (10 : Int32))), .val (.int (v7 % (10 : Int32))), .unset, .unset] [])) (fun _ kk => XS.istore X0.here hx rfl (hb hby at_72) rfl (l' := #[.val (.int p0), .val (.int v7), .val (.int (v7 / (10000000 : Int32))), .val (.int ((v7 / (1000000 : Int32)) % (10 : Int32))), .val (.int ((v7 / (100000 : Int32)) % (10 : Int32))), .val (.int ((v7 / (10000 : Int32)) % (10 : Int32))), .val (.int ((v7 / (1000 : Int32)) % (10 : Int32))), .val (.int ((v7 / (100 : Int32)) % (10 : Int32))), .val (.int ((v7 / (10 : Int32)) % (10 : Int32))), .val (.int (v7 % (10 : Int32))), .unset, .unset]) rfl kk) ?_
  refine own_st (G := T0.setTop (mkF m 75 #[.val (.int p0), .val (.int v7), .val (.int (v7 / (10000000 : Int32))), .val (.int ((v7 / (1000000 : Int32)) % (10 : Int32))), .val (.int ((v7 / (100000 : Int32)) % (10 : Int32))), .val (.int ((v7 / (10000 : Int32)) % (10 : Int32))), .val (.int ((v7 / (1000 : Int32)) % (10 : Int32))), .val (.int ((v7 / (100 : Int32)) % (10 : Int32))), .val (.int ((v7 / (10 : Int32)) % (10 : Int32))), .val (.int (v7 % (10 : Int32))), .unset, .unset] [(.int (v7 / (10000000 : Int32)))])) (fun _ kk => XS.iloadN X0.here hx rfl (hb hby at_74) rfl kk) ?_
  refine own_st (G := T0.setTop (mkF m 76 #[.val (.int p0), .val (.int v7), .val (.int (v7 / (10000000 : Int32))), .val (.int ((v7 / (1000000 : Int32)) % (10 : Int32))), .val (.int ((v7 / (100000 : Int32)) % (10 : Int32))), .val (.int ((v7 / (10000 : Int32)) % (10 : Int32))), .val (.int ((v7 / (1000 : Int32)) % (10 : Int32))), .val (.int ((v7 / (100 : Int32)) % (10 : Int32))), .val (.int ((v7 / (10 : Int32)) % (10 : Int32))), .val (.int (v7 % (10 : Int32))), .unset, .unset] [(.int (0 : Int32)), (.int (v7 / (10000000 : Int32)))])) (fun _ kk => XT.iconstV X0.here hx rfl (0 : Int32) (hb hby at_75) (by decide) kk) ?_
  refine own_callS X0 hx hZ (y := (⟨"com/example/kennel/kennel/EightBytesDigitsOfPinLaw", "ascii", "(II)J"⟩ : MethodName)) (as' := [(.int (v7 / (10000000 : Int32))), (.int (0 : Int32))]) hown (own_w hw 5 rfl) (own_w hw 6 rfl) (own_w hw 7 rfl) (own_w hw 8 rfl) (by decide) (own_rm1 l Z a0 hw [] (v7 / (10000000 : Int32)) (0 : Int32) h0 n0) 0 (by decide) (by decide) (by decide) (by decide) (rest := []) (by rw [hml]; rfl) (lenOf (by decide : parseMethodDescriptor "(II)J" = some ⟨[.int, .int], some (.long)⟩) rfl) rfl (Nat.le_of_eq rfl) (hb hby at_76) e0 ?_
  intro T3 L4 v6 X5 hQ
  obtain ⟨rfl, rfl, eq1⟩ := hQ
  show own_Out _ _ _ _ (T3.setTop (mkF m 79 #[.val (.int p0), .val (.int v7), .val (.int (v7 / (10000000 : Int32))), .val (.int ((v7 / (1000000 : Int32)) % (10 : Int32))), .val (.int ((v7 / (100000 : Int32)) % (10 : Int32))), .val (.int ((v7 / (10000 : Int32)) % (10 : Int32))), .val (.int ((v7 / (1000 : Int32)) % (10 : Int32))), .val (.int ((v7 / (100 : Int32)) % (10 : Int32))), .val (.int ((v7 / (10 : Int32)) % (10 : Int32))), .val (.int (v7 % (10 : Int32))), .unset, .unset] [(.long (own_ascii (v7 / (10000000 : Int32)) (0 : Int32)))]))
  have N2 := Fr.app N0 (Fr.nil n0)
  refine own_st (G := T3.setTop (mkF m 80 #[.val (.int p0), .val (.int v7), .val (.int (v7 / (10000000 : Int32))), .val (.int ((v7 / (1000000 : Int32)) % (10 : Int32))), .val (.int ((v7 / (100000 : Int32)) % (10 : Int32))), .val (.int ((v7 / (10000 : Int32)) % (10 : Int32))), .val (.int ((v7 / (1000 : Int32)) % (10 : Int32))), .val (.int ((v7 / (100 : Int32)) % (10 : Int32))), .val (.int ((v7 / (10 : Int32)) % (10 : Int32))), .val (.int (v7 % (10 : Int32))), .unset, .unset] [(.int ((v7 / (1000000 : Int32)) % (10 : Int32))), (.long (own_ascii (v7 / (10000000 : Int32)) (0 : Int32)))])) (fun _ kk => XS.iloadN X5.here hx rfl (hb hby at_79) rfl kk) ?_
  refine own_st (G := T3.setTop (mkF m 81 #[.val (.int p0), .val (.int v7), .val (.int (v7 / (10000000 : Int32))), .val (.int ((v7 / (1000000 : Int32)) % (10 : Int32))), .val (.int ((v7 / (100000 : Int32)) % (10 : Int32))), .val (.int ((v7 / (10000 : Int32)) % (10 : Int32))), .val (.int ((v7 / (1000 : Int32)) % (10 : Int32))), .val (.int ((v7 / (100 : Int32)) % (10 : Int32))), .val (.int ((v7 / (10 : Int32)) % (10 : Int32))), .val (.int (v7 % (10 : Int32))), .unset, .unset] [(.int (1 : Int32)), (.int ((v7 / (1000000 : Int32)) % (10 : Int32))), (.long (own_ascii (v7 / (10000000 : Int32)) (0 : Int32)))])) (fun _ kk => XT.iconstV X5.here hx rfl (1 : Int32) (hb hby at_80) (by decide) kk) ?_
  refine own_callS X5 hx hZ (y := (⟨"com/example/kennel/kennel/EightBytesDigitsOfPinLaw", "ascii", "(II)J"⟩ : MethodName)) (as' := [(.int ((v7 / (1000000 : Int32)) % (10 : Int32))), (.int (1 : Int32))]) hown (own_w hw 5 rfl) (own_w hw 6 rfl) (own_w hw 7 rfl) (own_w hw 8 rfl) (by decide) (own_rm1 l Z a0 hw [] ((v7 / (1000000 : Int32)) % (10 : Int32)) (1 : Int32) h0 n0) 2 (by decide) (by decide) (by decide) (by decide) (rest := [(.long (own_ascii (v7 / (10000000 : Int32)) (0 : Int32)))]) (by rw [hml]; rfl) (lenOf (by decide : parseMethodDescriptor "(II)J" = some ⟨[.int, .int], some (.long)⟩) rfl) rfl (Nat.le_of_eq rfl) (hb hby at_81) eq1 ?_
  intro T9 L10 v12 X11 hQ
  obtain ⟨rfl, rfl, eq7⟩ := hQ
  show own_Out _ _ _ _ (T9.setTop (mkF m 84 #[.val (.int p0), .val (.int v7), .val (.int (v7 / (10000000 : Int32))), .val (.int ((v7 / (1000000 : Int32)) % (10 : Int32))), .val (.int ((v7 / (100000 : Int32)) % (10 : Int32))), .val (.int ((v7 / (10000 : Int32)) % (10 : Int32))), .val (.int ((v7 / (1000 : Int32)) % (10 : Int32))), .val (.int ((v7 / (100 : Int32)) % (10 : Int32))), .val (.int ((v7 / (10 : Int32)) % (10 : Int32))), .val (.int (v7 % (10 : Int32))), .unset, .unset] [(.long (own_ascii ((v7 / (1000000 : Int32)) % (10 : Int32)) (1 : Int32))), (.long (own_ascii (v7 / (10000000 : Int32)) (0 : Int32)))]))
  have N8 := Fr.app N2 (Fr.nil n0)
  refine own_st (G := T9.setTop (mkF m 85 #[.val (.int p0), .val (.int v7), .val (.int (v7 / (10000000 : Int32))), .val (.int ((v7 / (1000000 : Int32)) % (10 : Int32))), .val (.int ((v7 / (100000 : Int32)) % (10 : Int32))), .val (.int ((v7 / (10000 : Int32)) % (10 : Int32))), .val (.int ((v7 / (1000 : Int32)) % (10 : Int32))), .val (.int ((v7 / (100 : Int32)) % (10 : Int32))), .val (.int ((v7 / (10 : Int32)) % (10 : Int32))), .val (.int (v7 % (10 : Int32))), .unset, .unset] [(.long ((own_ascii (v7 / (10000000 : Int32)) (0 : Int32)) ||| (own_ascii ((v7 / (1000000 : Int32)) % (10 : Int32)) (1 : Int32))))])) (fun _ kk => XS.lor X11.here hx rfl (hb hby at_84) rfl kk) ?_
  refine own_st (G := T9.setTop (mkF m 87 #[.val (.int p0), .val (.int v7), .val (.int (v7 / (10000000 : Int32))), .val (.int ((v7 / (1000000 : Int32)) % (10 : Int32))), .val (.int ((v7 / (100000 : Int32)) % (10 : Int32))), .val (.int ((v7 / (10000 : Int32)) % (10 : Int32))), .val (.int ((v7 / (1000 : Int32)) % (10 : Int32))), .val (.int ((v7 / (100 : Int32)) % (10 : Int32))), .val (.int ((v7 / (10 : Int32)) % (10 : Int32))), .val (.int (v7 % (10 : Int32))), .unset, .unset] [(.int ((v7 / (100000 : Int32)) % (10 : Int32))), (.long ((own_ascii (v7 / (10000000 : Int32)) (0 : Int32)) ||| (own_ascii ((v7 / (1000000 : Int32)) % (10 : Int32)) (1 : Int32))))])) (fun _ kk => XS.iload X11.here hx rfl (hb hby at_85) rfl kk) ?_
  refine own_st (G := T9.setTop (mkF m 88 #[.val (.int p0), .val (.int v7), .val (.int (v7 / (10000000 : Int32))), .val (.int ((v7 / (1000000 : Int32)) % (10 : Int32))), .val (.int ((v7 / (100000 : Int32)) % (10 : Int32))), .val (.int ((v7 / (10000 : Int32)) % (10 : Int32))), .val (.int ((v7 / (1000 : Int32)) % (10 : Int32))), .val (.int ((v7 / (100 : Int32)) % (10 : Int32))), .val (.int ((v7 / (10 : Int32)) % (10 : Int32))), .val (.int (v7 % (10 : Int32))), .unset, .unset] [(.int (2 : Int32)), (.int ((v7 / (100000 : Int32)) % (10 : Int32))), (.long ((own_ascii (v7 / (10000000 : Int32)) (0 : Int32)) ||| (own_ascii ((v7 / (1000000 : Int32)) % (10 : Int32)) (1 : Int32))))])) (fun _ kk => XT.iconstV X11.here hx rfl (2 : Int32) (hb hby at_87) (by decide) kk) ?_
  refine own_callS X11 hx hZ (y := (⟨"com/example/kennel/kennel/EightBytesDigitsOfPinLaw", "ascii", "(II)J"⟩ : MethodName)) (as' := [(.int ((v7 / (100000 : Int32)) % (10 : Int32))), (.int (2 : Int32))]) hown (own_w hw 5 rfl) (own_w hw 6 rfl) (own_w hw 7 rfl) (own_w hw 8 rfl) (by decide) (own_rm1 l Z a0 hw [] ((v7 / (100000 : Int32)) % (10 : Int32)) (2 : Int32) h0 n0) 2 (by decide) (by decide) (by decide) (by decide) (rest := [(.long ((own_ascii (v7 / (10000000 : Int32)) (0 : Int32)) ||| (own_ascii ((v7 / (1000000 : Int32)) % (10 : Int32)) (1 : Int32))))]) (by rw [hml]; rfl) (lenOf (by decide : parseMethodDescriptor "(II)J" = some ⟨[.int, .int], some (.long)⟩) rfl) rfl (Nat.le_of_eq rfl) (hb hby at_88) eq7 ?_
  intro T15 L16 v18 X17 hQ
  obtain ⟨rfl, rfl, eq13⟩ := hQ
  show own_Out _ _ _ _ (T15.setTop (mkF m 91 #[.val (.int p0), .val (.int v7), .val (.int (v7 / (10000000 : Int32))), .val (.int ((v7 / (1000000 : Int32)) % (10 : Int32))), .val (.int ((v7 / (100000 : Int32)) % (10 : Int32))), .val (.int ((v7 / (10000 : Int32)) % (10 : Int32))), .val (.int ((v7 / (1000 : Int32)) % (10 : Int32))), .val (.int ((v7 / (100 : Int32)) % (10 : Int32))), .val (.int ((v7 / (10 : Int32)) % (10 : Int32))), .val (.int (v7 % (10 : Int32))), .unset, .unset] [(.long (own_ascii ((v7 / (100000 : Int32)) % (10 : Int32)) (2 : Int32))), (.long ((own_ascii (v7 / (10000000 : Int32)) (0 : Int32)) ||| (own_ascii ((v7 / (1000000 : Int32)) % (10 : Int32)) (1 : Int32))))]))
  have N14 := Fr.app N8 (Fr.nil n0)
  refine own_st (G := T15.setTop (mkF m 92 #[.val (.int p0), .val (.int v7), .val (.int (v7 / (10000000 : Int32))), .val (.int ((v7 / (1000000 : Int32)) % (10 : Int32))), .val (.int ((v7 / (100000 : Int32)) % (10 : Int32))), .val (.int ((v7 / (10000 : Int32)) % (10 : Int32))), .val (.int ((v7 / (1000 : Int32)) % (10 : Int32))), .val (.int ((v7 / (100 : Int32)) % (10 : Int32))), .val (.int ((v7 / (10 : Int32)) % (10 : Int32))), .val (.int (v7 % (10 : Int32))), .unset, .unset] [(.long (((own_ascii (v7 / (10000000 : Int32)) (0 : Int32)) ||| (own_ascii ((v7 / (1000000 : Int32)) % (10 : Int32)) (1 : Int32))) ||| (own_ascii ((v7 / (100000 : Int32)) % (10 : Int32)) (2 : Int32))))])) (fun _ kk => XS.lor X17.here hx rfl (hb hby at_91) rfl kk) ?_
  refine own_st (G := T15.setTop (mkF m 94 #[.val (.int p0), .val (.int v7), .val (.int (v7 / (10000000 : Int32))), .val (.int ((v7 / (1000000 : Int32)) % (10 : Int32))), .val (.int ((v7 / (100000 : Int32)) % (10 : Int32))), .val (.int ((v7 / (10000 : Int32)) % (10 : Int32))), .val (.int ((v7 / (1000 : Int32)) % (10 : Int32))), .val (.int ((v7 / (100 : Int32)) % (10 : Int32))), .val (.int ((v7 / (10 : Int32)) % (10 : Int32))), .val (.int (v7 % (10 : Int32))), .unset, .unset] [(.int ((v7 / (10000 : Int32)) % (10 : Int32))), (.long (((own_ascii (v7 / (10000000 : Int32)) (0 : Int32)) ||| (own_ascii ((v7 / (1000000 : Int32)) % (10 : Int32)) (1 : Int32))) ||| (own_ascii ((v7 / (100000 : Int32)) % (10 : Int32)) (2 : Int32))))])) (fun _ kk => XS.iload X17.here hx rfl (hb hby at_92) rfl kk) ?_
  refine own_st (G := T15.setTop (mkF m 95 #[.val (.int p0), .val (.int v7), .val (.int (v7 / (10000000 : Int32))), .val (.int ((v7 / (1000000 : Int32)) % (10 : Int32))), .val (.int ((v7 / (100000 : Int32)) % (10 : Int32))), .val (.int ((v7 / (10000 : Int32)) % (10 : Int32))), .val (.int ((v7 / (1000 : Int32)) % (10 : Int32))), .val (.int ((v7 / (100 : Int32)) % (10 : Int32))), .val (.int ((v7 / (10 : Int32)) % (10 : Int32))), .val (.int (v7 % (10 : Int32))), .unset, .unset] [(.int (3 : Int32)), (.int ((v7 / (10000 : Int32)) % (10 : Int32))), (.long (((own_ascii (v7 / (10000000 : Int32)) (0 : Int32)) ||| (own_ascii ((v7 / (1000000 : Int32)) % (10 : Int32)) (1 : Int32))) ||| (own_ascii ((v7 / (100000 : Int32)) % (10 : Int32)) (2 : Int32))))])) (fun _ kk => XT.iconstV X17.here hx rfl (3 : Int32) (hb hby at_94) (by decide) kk) ?_
  refine own_callS X17 hx hZ (y := (⟨"com/example/kennel/kennel/EightBytesDigitsOfPinLaw", "ascii", "(II)J"⟩ : MethodName)) (as' := [(.int ((v7 / (10000 : Int32)) % (10 : Int32))), (.int (3 : Int32))]) hown (own_w hw 5 rfl) (own_w hw 6 rfl) (own_w hw 7 rfl) (own_w hw 8 rfl) (by decide) (own_rm1 l Z a0 hw [] ((v7 / (10000 : Int32)) % (10 : Int32)) (3 : Int32) h0 n0) 2 (by decide) (by decide) (by decide) (by decide) (rest := [(.long (((own_ascii (v7 / (10000000 : Int32)) (0 : Int32)) ||| (own_ascii ((v7 / (1000000 : Int32)) % (10 : Int32)) (1 : Int32))) ||| (own_ascii ((v7 / (100000 : Int32)) % (10 : Int32)) (2 : Int32))))]) (by rw [hml]; rfl) (lenOf (by decide : parseMethodDescriptor "(II)J" = some ⟨[.int, .int], some (.long)⟩) rfl) rfl (Nat.le_of_eq rfl) (hb hby at_95) eq13 ?_
  intro T21 L22 v24 X23 hQ
  obtain ⟨rfl, rfl, eq19⟩ := hQ
  show own_Out _ _ _ _ (T21.setTop (mkF m 98 #[.val (.int p0), .val (.int v7), .val (.int (v7 / (10000000 : Int32))), .val (.int ((v7 / (1000000 : Int32)) % (10 : Int32))), .val (.int ((v7 / (100000 : Int32)) % (10 : Int32))), .val (.int ((v7 / (10000 : Int32)) % (10 : Int32))), .val (.int ((v7 / (1000 : Int32)) % (10 : Int32))), .val (.int ((v7 / (100 : Int32)) % (10 : Int32))), .val (.int ((v7 / (10 : Int32)) % (10 : Int32))), .val (.int (v7 % (10 : Int32))), .unset, .unset] [(.long (own_ascii ((v7 / (10000 : Int32)) % (10 : Int32)) (3 : Int32))), (.long (((own_ascii (v7 / (10000000 : Int32)) (0 : Int32)) ||| (own_ascii ((v7 / (1000000 : Int32)) % (10 : Int32)) (1 : Int32))) ||| (own_ascii ((v7 / (100000 : Int32)) % (10 : Int32)) (2 : Int32))))]))
  have N20 := Fr.app N14 (Fr.nil n0)
  refine own_st (G := T21.setTop (mkF m 99 #[.val (.int p0), .val (.int v7), .val (.int (v7 / (10000000 : Int32))), .val (.int ((v7 / (1000000 : Int32)) % (10 : Int32))), .val (.int ((v7 / (100000 : Int32)) % (10 : Int32))), .val (.int ((v7 / (10000 : Int32)) % (10 : Int32))), .val (.int ((v7 / (1000 : Int32)) % (10 : Int32))), .val (.int ((v7 / (100 : Int32)) % (10 : Int32))), .val (.int ((v7 / (10 : Int32)) % (10 : Int32))), .val (.int (v7 % (10 : Int32))), .unset, .unset] [(.long ((((own_ascii (v7 / (10000000 : Int32)) (0 : Int32)) ||| (own_ascii ((v7 / (1000000 : Int32)) % (10 : Int32)) (1 : Int32))) ||| (own_ascii ((v7 / (100000 : Int32)) % (10 : Int32)) (2 : Int32))) ||| (own_ascii ((v7 / (10000 : Int32)) % (10 : Int32)) (3 : Int32))))])) (fun _ kk => XS.lor X23.here hx rfl (hb hby at_98) rfl kk) ?_
  refine own_st (G := T21.setTop (mkF m 101 #[.val (.int p0), .val (.int v7), .val (.int (v7 / (10000000 : Int32))), .val (.int ((v7 / (1000000 : Int32)) % (10 : Int32))), .val (.int ((v7 / (100000 : Int32)) % (10 : Int32))), .val (.int ((v7 / (10000 : Int32)) % (10 : Int32))), .val (.int ((v7 / (1000 : Int32)) % (10 : Int32))), .val (.int ((v7 / (100 : Int32)) % (10 : Int32))), .val (.int ((v7 / (10 : Int32)) % (10 : Int32))), .val (.int (v7 % (10 : Int32))), .unset, .unset] [(.int ((v7 / (1000 : Int32)) % (10 : Int32))), (.long ((((own_ascii (v7 / (10000000 : Int32)) (0 : Int32)) ||| (own_ascii ((v7 / (1000000 : Int32)) % (10 : Int32)) (1 : Int32))) ||| (own_ascii ((v7 / (100000 : Int32)) % (10 : Int32)) (2 : Int32))) ||| (own_ascii ((v7 / (10000 : Int32)) % (10 : Int32)) (3 : Int32))))])) (fun _ kk => XS.iload X23.here hx rfl (hb hby at_99) rfl kk) ?_
  refine own_st (G := T21.setTop (mkF m 102 #[.val (.int p0), .val (.int v7), .val (.int (v7 / (10000000 : Int32))), .val (.int ((v7 / (1000000 : Int32)) % (10 : Int32))), .val (.int ((v7 / (100000 : Int32)) % (10 : Int32))), .val (.int ((v7 / (10000 : Int32)) % (10 : Int32))), .val (.int ((v7 / (1000 : Int32)) % (10 : Int32))), .val (.int ((v7 / (100 : Int32)) % (10 : Int32))), .val (.int ((v7 / (10 : Int32)) % (10 : Int32))), .val (.int (v7 % (10 : Int32))), .unset, .unset] [(.int (4 : Int32)), (.int ((v7 / (1000 : Int32)) % (10 : Int32))), (.long ((((own_ascii (v7 / (10000000 : Int32)) (0 : Int32)) ||| (own_ascii ((v7 / (1000000 : Int32)) % (10 : Int32)) (1 : Int32))) ||| (own_ascii ((v7 / (100000 : Int32)) % (10 : Int32)) (2 : Int32))) ||| (own_ascii ((v7 / (10000 : Int32)) % (10 : Int32)) (3 : Int32))))])) (fun _ kk => XT.iconstV X23.here hx rfl (4 : Int32) (hb hby at_101) (by decide) kk) ?_
  refine own_callS X23 hx hZ (y := (⟨"com/example/kennel/kennel/EightBytesDigitsOfPinLaw", "ascii", "(II)J"⟩ : MethodName)) (as' := [(.int ((v7 / (1000 : Int32)) % (10 : Int32))), (.int (4 : Int32))]) hown (own_w hw 5 rfl) (own_w hw 6 rfl) (own_w hw 7 rfl) (own_w hw 8 rfl) (by decide) (own_rm1 l Z a0 hw [] ((v7 / (1000 : Int32)) % (10 : Int32)) (4 : Int32) h0 n0) 2 (by decide) (by decide) (by decide) (by decide) (rest := [(.long ((((own_ascii (v7 / (10000000 : Int32)) (0 : Int32)) ||| (own_ascii ((v7 / (1000000 : Int32)) % (10 : Int32)) (1 : Int32))) ||| (own_ascii ((v7 / (100000 : Int32)) % (10 : Int32)) (2 : Int32))) ||| (own_ascii ((v7 / (10000 : Int32)) % (10 : Int32)) (3 : Int32))))]) (by rw [hml]; rfl) (lenOf (by decide : parseMethodDescriptor "(II)J" = some ⟨[.int, .int], some (.long)⟩) rfl) rfl (Nat.le_of_eq rfl) (hb hby at_102) eq19 ?_
  intro T27 L28 v30 X29 hQ
  obtain ⟨rfl, rfl, eq25⟩ := hQ
  show own_Out _ _ _ _ (T27.setTop (mkF m 105 #[.val (.int p0), .val (.int v7), .val (.int (v7 / (10000000 : Int32))), .val (.int ((v7 / (1000000 : Int32)) % (10 : Int32))), .val (.int ((v7 / (100000 : Int32)) % (10 : Int32))), .val (.int ((v7 / (10000 : Int32)) % (10 : Int32))), .val (.int ((v7 / (1000 : Int32)) % (10 : Int32))), .val (.int ((v7 / (100 : Int32)) % (10 : Int32))), .val (.int ((v7 / (10 : Int32)) % (10 : Int32))), .val (.int (v7 % (10 : Int32))), .unset, .unset] [(.long (own_ascii ((v7 / (1000 : Int32)) % (10 : Int32)) (4 : Int32))), (.long ((((own_ascii (v7 / (10000000 : Int32)) (0 : Int32)) ||| (own_ascii ((v7 / (1000000 : Int32)) % (10 : Int32)) (1 : Int32))) ||| (own_ascii ((v7 / (100000 : Int32)) % (10 : Int32)) (2 : Int32))) ||| (own_ascii ((v7 / (10000 : Int32)) % (10 : Int32)) (3 : Int32))))]))
  have N26 := Fr.app N20 (Fr.nil n0)
  refine own_st (G := T27.setTop (mkF m 106 #[.val (.int p0), .val (.int v7), .val (.int (v7 / (10000000 : Int32))), .val (.int ((v7 / (1000000 : Int32)) % (10 : Int32))), .val (.int ((v7 / (100000 : Int32)) % (10 : Int32))), .val (.int ((v7 / (10000 : Int32)) % (10 : Int32))), .val (.int ((v7 / (1000 : Int32)) % (10 : Int32))), .val (.int ((v7 / (100 : Int32)) % (10 : Int32))), .val (.int ((v7 / (10 : Int32)) % (10 : Int32))), .val (.int (v7 % (10 : Int32))), .unset, .unset] [(.long (((((own_ascii (v7 / (10000000 : Int32)) (0 : Int32)) ||| (own_ascii ((v7 / (1000000 : Int32)) % (10 : Int32)) (1 : Int32))) ||| (own_ascii ((v7 / (100000 : Int32)) % (10 : Int32)) (2 : Int32))) ||| (own_ascii ((v7 / (10000 : Int32)) % (10 : Int32)) (3 : Int32))) ||| (own_ascii ((v7 / (1000 : Int32)) % (10 : Int32)) (4 : Int32))))])) (fun _ kk => XS.lor X29.here hx rfl (hb hby at_105) rfl kk) ?_
  refine own_st (G := T27.setTop (mkF m 108 #[.val (.int p0), .val (.int v7), .val (.int (v7 / (10000000 : Int32))), .val (.int ((v7 / (1000000 : Int32)) % (10 : Int32))), .val (.int ((v7 / (100000 : Int32)) % (10 : Int32))), .val (.int ((v7 / (10000 : Int32)) % (10 : Int32))), .val (.int ((v7 / (1000 : Int32)) % (10 : Int32))), .val (.int ((v7 / (100 : Int32)) % (10 : Int32))), .val (.int ((v7 / (10 : Int32)) % (10 : Int32))), .val (.int (v7 % (10 : Int32))), .unset, .unset] [(.int ((v7 / (100 : Int32)) % (10 : Int32))), (.long (((((own_ascii (v7 / (10000000 : Int32)) (0 : Int32)) ||| (own_ascii ((v7 / (1000000 : Int32)) % (10 : Int32)) (1 : Int32))) ||| (own_ascii ((v7 / (100000 : Int32)) % (10 : Int32)) (2 : Int32))) ||| (own_ascii ((v7 / (10000 : Int32)) % (10 : Int32)) (3 : Int32))) ||| (own_ascii ((v7 / (1000 : Int32)) % (10 : Int32)) (4 : Int32))))])) (fun _ kk => XS.iload X29.here hx rfl (hb hby at_106) rfl kk) ?_
  refine own_st (G := T27.setTop (mkF m 109 #[.val (.int p0), .val (.int v7), .val (.int (v7 / (10000000 : Int32))), .val (.int ((v7 / (1000000 : Int32)) % (10 : Int32))), .val (.int ((v7 / (100000 : Int32)) % (10 : Int32))), .val (.int ((v7 / (10000 : Int32)) % (10 : Int32))), .val (.int ((v7 / (1000 : Int32)) % (10 : Int32))), .val (.int ((v7 / (100 : Int32)) % (10 : Int32))), .val (.int ((v7 / (10 : Int32)) % (10 : Int32))), .val (.int (v7 % (10 : Int32))), .unset, .unset] [(.int (5 : Int32)), (.int ((v7 / (100 : Int32)) % (10 : Int32))), (.long (((((own_ascii (v7 / (10000000 : Int32)) (0 : Int32)) ||| (own_ascii ((v7 / (1000000 : Int32)) % (10 : Int32)) (1 : Int32))) ||| (own_ascii ((v7 / (100000 : Int32)) % (10 : Int32)) (2 : Int32))) ||| (own_ascii ((v7 / (10000 : Int32)) % (10 : Int32)) (3 : Int32))) ||| (own_ascii ((v7 / (1000 : Int32)) % (10 : Int32)) (4 : Int32))))])) (fun _ kk => XT.iconstV X29.here hx rfl (5 : Int32) (hb hby at_108) (by decide) kk) ?_
  refine own_callS X29 hx hZ (y := (⟨"com/example/kennel/kennel/EightBytesDigitsOfPinLaw", "ascii", "(II)J"⟩ : MethodName)) (as' := [(.int ((v7 / (100 : Int32)) % (10 : Int32))), (.int (5 : Int32))]) hown (own_w hw 5 rfl) (own_w hw 6 rfl) (own_w hw 7 rfl) (own_w hw 8 rfl) (by decide) (own_rm1 l Z a0 hw [] ((v7 / (100 : Int32)) % (10 : Int32)) (5 : Int32) h0 n0) 2 (by decide) (by decide) (by decide) (by decide) (rest := [(.long (((((own_ascii (v7 / (10000000 : Int32)) (0 : Int32)) ||| (own_ascii ((v7 / (1000000 : Int32)) % (10 : Int32)) (1 : Int32))) ||| (own_ascii ((v7 / (100000 : Int32)) % (10 : Int32)) (2 : Int32))) ||| (own_ascii ((v7 / (10000 : Int32)) % (10 : Int32)) (3 : Int32))) ||| (own_ascii ((v7 / (1000 : Int32)) % (10 : Int32)) (4 : Int32))))]) (by rw [hml]; rfl) (lenOf (by decide : parseMethodDescriptor "(II)J" = some ⟨[.int, .int], some (.long)⟩) rfl) rfl (Nat.le_of_eq rfl) (hb hby at_109) eq25 ?_
  intro T33 L34 v36 X35 hQ
  obtain ⟨rfl, rfl, eq31⟩ := hQ
  show own_Out _ _ _ _ (T33.setTop (mkF m 112 #[.val (.int p0), .val (.int v7), .val (.int (v7 / (10000000 : Int32))), .val (.int ((v7 / (1000000 : Int32)) % (10 : Int32))), .val (.int ((v7 / (100000 : Int32)) % (10 : Int32))), .val (.int ((v7 / (10000 : Int32)) % (10 : Int32))), .val (.int ((v7 / (1000 : Int32)) % (10 : Int32))), .val (.int ((v7 / (100 : Int32)) % (10 : Int32))), .val (.int ((v7 / (10 : Int32)) % (10 : Int32))), .val (.int (v7 % (10 : Int32))), .unset, .unset] [(.long (own_ascii ((v7 / (100 : Int32)) % (10 : Int32)) (5 : Int32))), (.long (((((own_ascii (v7 / (10000000 : Int32)) (0 : Int32)) ||| (own_ascii ((v7 / (1000000 : Int32)) % (10 : Int32)) (1 : Int32))) ||| (own_ascii ((v7 / (100000 : Int32)) % (10 : Int32)) (2 : Int32))) ||| (own_ascii ((v7 / (10000 : Int32)) % (10 : Int32)) (3 : Int32))) ||| (own_ascii ((v7 / (1000 : Int32)) % (10 : Int32)) (4 : Int32))))]))
  have N32 := Fr.app N26 (Fr.nil n0)
  refine own_st (G := T33.setTop (mkF m 113 #[.val (.int p0), .val (.int v7), .val (.int (v7 / (10000000 : Int32))), .val (.int ((v7 / (1000000 : Int32)) % (10 : Int32))), .val (.int ((v7 / (100000 : Int32)) % (10 : Int32))), .val (.int ((v7 / (10000 : Int32)) % (10 : Int32))), .val (.int ((v7 / (1000 : Int32)) % (10 : Int32))), .val (.int ((v7 / (100 : Int32)) % (10 : Int32))), .val (.int ((v7 / (10 : Int32)) % (10 : Int32))), .val (.int (v7 % (10 : Int32))), .unset, .unset] [(.long ((((((own_ascii (v7 / (10000000 : Int32)) (0 : Int32)) ||| (own_ascii ((v7 / (1000000 : Int32)) % (10 : Int32)) (1 : Int32))) ||| (own_ascii ((v7 / (100000 : Int32)) % (10 : Int32)) (2 : Int32))) ||| (own_ascii ((v7 / (10000 : Int32)) % (10 : Int32)) (3 : Int32))) ||| (own_ascii ((v7 / (1000 : Int32)) % (10 : Int32)) (4 : Int32))) ||| (own_ascii ((v7 / (100 : Int32)) % (10 : Int32)) (5 : Int32))))])) (fun _ kk => XS.lor X35.here hx rfl (hb hby at_112) rfl kk) ?_
  refine own_st (G := T33.setTop (mkF m 115 #[.val (.int p0), .val (.int v7), .val (.int (v7 / (10000000 : Int32))), .val (.int ((v7 / (1000000 : Int32)) % (10 : Int32))), .val (.int ((v7 / (100000 : Int32)) % (10 : Int32))), .val (.int ((v7 / (10000 : Int32)) % (10 : Int32))), .val (.int ((v7 / (1000 : Int32)) % (10 : Int32))), .val (.int ((v7 / (100 : Int32)) % (10 : Int32))), .val (.int ((v7 / (10 : Int32)) % (10 : Int32))), .val (.int (v7 % (10 : Int32))), .unset, .unset] [(.int ((v7 / (10 : Int32)) % (10 : Int32))), (.long ((((((own_ascii (v7 / (10000000 : Int32)) (0 : Int32)) ||| (own_ascii ((v7 / (1000000 : Int32)) % (10 : Int32)) (1 : Int32))) ||| (own_ascii ((v7 / (100000 : Int32)) % (10 : Int32)) (2 : Int32))) ||| (own_ascii ((v7 / (10000 : Int32)) % (10 : Int32)) (3 : Int32))) ||| (own_ascii ((v7 / (1000 : Int32)) % (10 : Int32)) (4 : Int32))) ||| (own_ascii ((v7 / (100 : Int32)) % (10 : Int32)) (5 : Int32))))])) (fun _ kk => XS.iload X35.here hx rfl (hb hby at_113) rfl kk) ?_
  refine own_st (G := T33.setTop (mkF m 117 #[.val (.int p0), .val (.int v7), .val (.int (v7 / (10000000 : Int32))), .val (.int ((v7 / (1000000 : Int32)) % (10 : Int32))), .val (.int ((v7 / (100000 : Int32)) % (10 : Int32))), .val (.int ((v7 / (10000 : Int32)) % (10 : Int32))), .val (.int ((v7 / (1000 : Int32)) % (10 : Int32))), .val (.int ((v7 / (100 : Int32)) % (10 : Int32))), .val (.int ((v7 / (10 : Int32)) % (10 : Int32))), .val (.int (v7 % (10 : Int32))), .unset, .unset] [(.int (6 : Int32)), (.int ((v7 / (10 : Int32)) % (10 : Int32))), (.long ((((((own_ascii (v7 / (10000000 : Int32)) (0 : Int32)) ||| (own_ascii ((v7 / (1000000 : Int32)) % (10 : Int32)) (1 : Int32))) ||| (own_ascii ((v7 / (100000 : Int32)) % (10 : Int32)) (2 : Int32))) ||| (own_ascii ((v7 / (10000 : Int32)) % (10 : Int32)) (3 : Int32))) ||| (own_ascii ((v7 / (1000 : Int32)) % (10 : Int32)) (4 : Int32))) ||| (own_ascii ((v7 / (100 : Int32)) % (10 : Int32)) (5 : Int32))))])) (fun _ kk => XT.bipushV X35.here hx rfl (6 : Int32) (hb hby at_115) (by decide) kk) ?_
  refine own_callS X35 hx hZ (y := (⟨"com/example/kennel/kennel/EightBytesDigitsOfPinLaw", "ascii", "(II)J"⟩ : MethodName)) (as' := [(.int ((v7 / (10 : Int32)) % (10 : Int32))), (.int (6 : Int32))]) hown (own_w hw 5 rfl) (own_w hw 6 rfl) (own_w hw 7 rfl) (own_w hw 8 rfl) (by decide) (own_rm1 l Z a0 hw [] ((v7 / (10 : Int32)) % (10 : Int32)) (6 : Int32) h0 n0) 2 (by decide) (by decide) (by decide) (by decide) (rest := [(.long ((((((own_ascii (v7 / (10000000 : Int32)) (0 : Int32)) ||| (own_ascii ((v7 / (1000000 : Int32)) % (10 : Int32)) (1 : Int32))) ||| (own_ascii ((v7 / (100000 : Int32)) % (10 : Int32)) (2 : Int32))) ||| (own_ascii ((v7 / (10000 : Int32)) % (10 : Int32)) (3 : Int32))) ||| (own_ascii ((v7 / (1000 : Int32)) % (10 : Int32)) (4 : Int32))) ||| (own_ascii ((v7 / (100 : Int32)) % (10 : Int32)) (5 : Int32))))]) (by rw [hml]; rfl) (lenOf (by decide : parseMethodDescriptor "(II)J" = some ⟨[.int, .int], some (.long)⟩) rfl) rfl (Nat.le_of_eq rfl) (hb hby at_117) eq31 ?_
  intro T39 L40 v42 X41 hQ
  obtain ⟨rfl, rfl, eq37⟩ := hQ
  show own_Out _ _ _ _ (T39.setTop (mkF m 120 #[.val (.int p0), .val (.int v7), .val (.int (v7 / (10000000 : Int32))), .val (.int ((v7 / (1000000 : Int32)) % (10 : Int32))), .val (.int ((v7 / (100000 : Int32)) % (10 : Int32))), .val (.int ((v7 / (10000 : Int32)) % (10 : Int32))), .val (.int ((v7 / (1000 : Int32)) % (10 : Int32))), .val (.int ((v7 / (100 : Int32)) % (10 : Int32))), .val (.int ((v7 / (10 : Int32)) % (10 : Int32))), .val (.int (v7 % (10 : Int32))), .unset, .unset] [(.long (own_ascii ((v7 / (10 : Int32)) % (10 : Int32)) (6 : Int32))), (.long ((((((own_ascii (v7 / (10000000 : Int32)) (0 : Int32)) ||| (own_ascii ((v7 / (1000000 : Int32)) % (10 : Int32)) (1 : Int32))) ||| (own_ascii ((v7 / (100000 : Int32)) % (10 : Int32)) (2 : Int32))) ||| (own_ascii ((v7 / (10000 : Int32)) % (10 : Int32)) (3 : Int32))) ||| (own_ascii ((v7 / (1000 : Int32)) % (10 : Int32)) (4 : Int32))) ||| (own_ascii ((v7 / (100 : Int32)) % (10 : Int32)) (5 : Int32))))]))
  have N38 := Fr.app N32 (Fr.nil n0)
  refine own_st (G := T39.setTop (mkF m 121 #[.val (.int p0), .val (.int v7), .val (.int (v7 / (10000000 : Int32))), .val (.int ((v7 / (1000000 : Int32)) % (10 : Int32))), .val (.int ((v7 / (100000 : Int32)) % (10 : Int32))), .val (.int ((v7 / (10000 : Int32)) % (10 : Int32))), .val (.int ((v7 / (1000 : Int32)) % (10 : Int32))), .val (.int ((v7 / (100 : Int32)) % (10 : Int32))), .val (.int ((v7 / (10 : Int32)) % (10 : Int32))), .val (.int (v7 % (10 : Int32))), .unset, .unset] [(.long (((((((own_ascii (v7 / (10000000 : Int32)) (0 : Int32)) ||| (own_ascii ((v7 / (1000000 : Int32)) % (10 : Int32)) (1 : Int32))) ||| (own_ascii ((v7 / (100000 : Int32)) % (10 : Int32)) (2 : Int32))) ||| (own_ascii ((v7 / (10000 : Int32)) % (10 : Int32)) (3 : Int32))) ||| (own_ascii ((v7 / (1000 : Int32)) % (10 : Int32)) (4 : Int32))) ||| (own_ascii ((v7 / (100 : Int32)) % (10 : Int32)) (5 : Int32))) ||| (own_ascii ((v7 / (10 : Int32)) % (10 : Int32)) (6 : Int32))))])) (fun _ kk => XS.lor X41.here hx rfl (hb hby at_120) rfl kk) ?_
  refine own_st (G := T39.setTop (mkF m 123 #[.val (.int p0), .val (.int v7), .val (.int (v7 / (10000000 : Int32))), .val (.int ((v7 / (1000000 : Int32)) % (10 : Int32))), .val (.int ((v7 / (100000 : Int32)) % (10 : Int32))), .val (.int ((v7 / (10000 : Int32)) % (10 : Int32))), .val (.int ((v7 / (1000 : Int32)) % (10 : Int32))), .val (.int ((v7 / (100 : Int32)) % (10 : Int32))), .val (.int ((v7 / (10 : Int32)) % (10 : Int32))), .val (.int (v7 % (10 : Int32))), .unset, .unset] [(.int (v7 % (10 : Int32))), (.long (((((((own_ascii (v7 / (10000000 : Int32)) (0 : Int32)) ||| (own_ascii ((v7 / (1000000 : Int32)) % (10 : Int32)) (1 : Int32))) ||| (own_ascii ((v7 / (100000 : Int32)) % (10 : Int32)) (2 : Int32))) ||| (own_ascii ((v7 / (10000 : Int32)) % (10 : Int32)) (3 : Int32))) ||| (own_ascii ((v7 / (1000 : Int32)) % (10 : Int32)) (4 : Int32))) ||| (own_ascii ((v7 / (100 : Int32)) % (10 : Int32)) (5 : Int32))) ||| (own_ascii ((v7 / (10 : Int32)) % (10 : Int32)) (6 : Int32))))])) (fun _ kk => XS.iload X41.here hx rfl (hb hby at_121) rfl kk) ?_
  refine own_st (G := T39.setTop (mkF m 125 #[.val (.int p0), .val (.int v7), .val (.int (v7 / (10000000 : Int32))), .val (.int ((v7 / (1000000 : Int32)) % (10 : Int32))), .val (.int ((v7 / (100000 : Int32)) % (10 : Int32))), .val (.int ((v7 / (10000 : Int32)) % (10 : Int32))), .val (.int ((v7 / (1000 : Int32)) % (10 : Int32))), .val (.int ((v7 / (100 : Int32)) % (10 : Int32))), .val (.int ((v7 / (10 : Int32)) % (10 : Int32))), .val (.int (v7 % (10 : Int32))), .unset, .unset] [(.int (7 : Int32)), (.int (v7 % (10 : Int32))), (.long (((((((own_ascii (v7 / (10000000 : Int32)) (0 : Int32)) ||| (own_ascii ((v7 / (1000000 : Int32)) % (10 : Int32)) (1 : Int32))) ||| (own_ascii ((v7 / (100000 : Int32)) % (10 : Int32)) (2 : Int32))) ||| (own_ascii ((v7 / (10000 : Int32)) % (10 : Int32)) (3 : Int32))) ||| (own_ascii ((v7 / (1000 : Int32)) % (10 : Int32)) (4 : Int32))) ||| (own_ascii ((v7 / (100 : Int32)) % (10 : Int32)) (5 : Int32))) ||| (own_ascii ((v7 / (10 : Int32)) % (10 : Int32)) (6 : Int32))))])) (fun _ kk => XT.bipushV X41.here hx rfl (7 : Int32) (hb hby at_123) (by decide) kk) ?_
  refine own_callS X41 hx hZ (y := (⟨"com/example/kennel/kennel/EightBytesDigitsOfPinLaw", "ascii", "(II)J"⟩ : MethodName)) (as' := [(.int (v7 % (10 : Int32))), (.int (7 : Int32))]) hown (own_w hw 5 rfl) (own_w hw 6 rfl) (own_w hw 7 rfl) (own_w hw 8 rfl) (by decide) (own_rm1 l Z a0 hw [] (v7 % (10 : Int32)) (7 : Int32) h0 n0) 2 (by decide) (by decide) (by decide) (by decide) (rest := [(.long (((((((own_ascii (v7 / (10000000 : Int32)) (0 : Int32)) ||| (own_ascii ((v7 / (1000000 : Int32)) % (10 : Int32)) (1 : Int32))) ||| (own_ascii ((v7 / (100000 : Int32)) % (10 : Int32)) (2 : Int32))) ||| (own_ascii ((v7 / (10000 : Int32)) % (10 : Int32)) (3 : Int32))) ||| (own_ascii ((v7 / (1000 : Int32)) % (10 : Int32)) (4 : Int32))) ||| (own_ascii ((v7 / (100 : Int32)) % (10 : Int32)) (5 : Int32))) ||| (own_ascii ((v7 / (10 : Int32)) % (10 : Int32)) (6 : Int32))))]) (by rw [hml]; rfl) (lenOf (by decide : parseMethodDescriptor "(II)J" = some ⟨[.int, .int], some (.long)⟩) rfl) rfl (Nat.le_of_eq rfl) (hb hby at_125) eq37 ?_
  intro T45 L46 v48 X47 hQ
  obtain ⟨rfl, rfl, eq43⟩ := hQ
  show own_Out _ _ _ _ (T45.setTop (mkF m 128 #[.val (.int p0), .val (.int v7), .val (.int (v7 / (10000000 : Int32))), .val (.int ((v7 / (1000000 : Int32)) % (10 : Int32))), .val (.int ((v7 / (100000 : Int32)) % (10 : Int32))), .val (.int ((v7 / (10000 : Int32)) % (10 : Int32))), .val (.int ((v7 / (1000 : Int32)) % (10 : Int32))), .val (.int ((v7 / (100 : Int32)) % (10 : Int32))), .val (.int ((v7 / (10 : Int32)) % (10 : Int32))), .val (.int (v7 % (10 : Int32))), .unset, .unset] [(.long (own_ascii (v7 % (10 : Int32)) (7 : Int32))), (.long (((((((own_ascii (v7 / (10000000 : Int32)) (0 : Int32)) ||| (own_ascii ((v7 / (1000000 : Int32)) % (10 : Int32)) (1 : Int32))) ||| (own_ascii ((v7 / (100000 : Int32)) % (10 : Int32)) (2 : Int32))) ||| (own_ascii ((v7 / (10000 : Int32)) % (10 : Int32)) (3 : Int32))) ||| (own_ascii ((v7 / (1000 : Int32)) % (10 : Int32)) (4 : Int32))) ||| (own_ascii ((v7 / (100 : Int32)) % (10 : Int32)) (5 : Int32))) ||| (own_ascii ((v7 / (10 : Int32)) % (10 : Int32)) (6 : Int32))))]))
  have N44 := Fr.app N38 (Fr.nil n0)
  refine own_st (G := T45.setTop (mkF m 129 #[.val (.int p0), .val (.int v7), .val (.int (v7 / (10000000 : Int32))), .val (.int ((v7 / (1000000 : Int32)) % (10 : Int32))), .val (.int ((v7 / (100000 : Int32)) % (10 : Int32))), .val (.int ((v7 / (10000 : Int32)) % (10 : Int32))), .val (.int ((v7 / (1000 : Int32)) % (10 : Int32))), .val (.int ((v7 / (100 : Int32)) % (10 : Int32))), .val (.int ((v7 / (10 : Int32)) % (10 : Int32))), .val (.int (v7 % (10 : Int32))), .unset, .unset] [(.long ((((((((own_ascii (v7 / (10000000 : Int32)) (0 : Int32)) ||| (own_ascii ((v7 / (1000000 : Int32)) % (10 : Int32)) (1 : Int32))) ||| (own_ascii ((v7 / (100000 : Int32)) % (10 : Int32)) (2 : Int32))) ||| (own_ascii ((v7 / (10000 : Int32)) % (10 : Int32)) (3 : Int32))) ||| (own_ascii ((v7 / (1000 : Int32)) % (10 : Int32)) (4 : Int32))) ||| (own_ascii ((v7 / (100 : Int32)) % (10 : Int32)) (5 : Int32))) ||| (own_ascii ((v7 / (10 : Int32)) % (10 : Int32)) (6 : Int32))) ||| (own_ascii (v7 % (10 : Int32)) (7 : Int32))))])) (fun _ kk => XS.lor X47.here hx rfl (hb hby at_128) rfl kk) ?_
  refine own_st (G := T45.setTop (mkF m 131 #[.val (.int p0), .val (.int v7), .val (.int (v7 / (10000000 : Int32))), .val (.int ((v7 / (1000000 : Int32)) % (10 : Int32))), .val (.int ((v7 / (100000 : Int32)) % (10 : Int32))), .val (.int ((v7 / (10000 : Int32)) % (10 : Int32))), .val (.int ((v7 / (1000 : Int32)) % (10 : Int32))), .val (.int ((v7 / (100 : Int32)) % (10 : Int32))), .val (.int ((v7 / (10 : Int32)) % (10 : Int32))), .val (.int (v7 % (10 : Int32))), .val (.long ((((((((own_ascii (v7 / (10000000 : Int32)) (0 : Int32)) ||| (own_ascii ((v7 / (1000000 : Int32)) % (10 : Int32)) (1 : Int32))) ||| (own_ascii ((v7 / (100000 : Int32)) % (10 : Int32)) (2 : Int32))) ||| (own_ascii ((v7 / (10000 : Int32)) % (10 : Int32)) (3 : Int32))) ||| (own_ascii ((v7 / (1000 : Int32)) % (10 : Int32)) (4 : Int32))) ||| (own_ascii ((v7 / (100 : Int32)) % (10 : Int32)) (5 : Int32))) ||| (own_ascii ((v7 / (10 : Int32)) % (10 : Int32)) (6 : Int32))) ||| (own_ascii (v7 % (10 : Int32)) (7 : Int32)))), .second] [])) (fun _ kk => XS.lstore X47.here hx rfl (hb hby at_129) rfl (l' := #[.val (.int p0), .val (.int v7), .val (.int (v7 / (10000000 : Int32))), .val (.int ((v7 / (1000000 : Int32)) % (10 : Int32))), .val (.int ((v7 / (100000 : Int32)) % (10 : Int32))), .val (.int ((v7 / (10000 : Int32)) % (10 : Int32))), .val (.int ((v7 / (1000 : Int32)) % (10 : Int32))), .val (.int ((v7 / (100 : Int32)) % (10 : Int32))), .val (.int ((v7 / (10 : Int32)) % (10 : Int32))), .val (.int (v7 % (10 : Int32))), .val (.long ((((((((own_ascii (v7 / (10000000 : Int32)) (0 : Int32)) ||| (own_ascii ((v7 / (1000000 : Int32)) % (10 : Int32)) (1 : Int32))) ||| (own_ascii ((v7 / (100000 : Int32)) % (10 : Int32)) (2 : Int32))) ||| (own_ascii ((v7 / (10000 : Int32)) % (10 : Int32)) (3 : Int32))) ||| (own_ascii ((v7 / (1000 : Int32)) % (10 : Int32)) (4 : Int32))) ||| (own_ascii ((v7 / (100 : Int32)) % (10 : Int32)) (5 : Int32))) ||| (own_ascii ((v7 / (10 : Int32)) % (10 : Int32)) (6 : Int32))) ||| (own_ascii (v7 % (10 : Int32)) (7 : Int32)))), .second]) rfl kk) ?_
  refine own_st (G := T45.setTop (mkF m 132 #[.val (.int p0), .val (.int v7), .val (.int (v7 / (10000000 : Int32))), .val (.int ((v7 / (1000000 : Int32)) % (10 : Int32))), .val (.int ((v7 / (100000 : Int32)) % (10 : Int32))), .val (.int ((v7 / (10000 : Int32)) % (10 : Int32))), .val (.int ((v7 / (1000 : Int32)) % (10 : Int32))), .val (.int ((v7 / (100 : Int32)) % (10 : Int32))), .val (.int ((v7 / (10 : Int32)) % (10 : Int32))), .val (.int (v7 % (10 : Int32))), .val (.long ((((((((own_ascii (v7 / (10000000 : Int32)) (0 : Int32)) ||| (own_ascii ((v7 / (1000000 : Int32)) % (10 : Int32)) (1 : Int32))) ||| (own_ascii ((v7 / (100000 : Int32)) % (10 : Int32)) (2 : Int32))) ||| (own_ascii ((v7 / (10000 : Int32)) % (10 : Int32)) (3 : Int32))) ||| (own_ascii ((v7 / (1000 : Int32)) % (10 : Int32)) (4 : Int32))) ||| (own_ascii ((v7 / (100 : Int32)) % (10 : Int32)) (5 : Int32))) ||| (own_ascii ((v7 / (10 : Int32)) % (10 : Int32)) (6 : Int32))) ||| (own_ascii (v7 % (10 : Int32)) (7 : Int32)))), .second] [(.int v7)])) (fun _ kk => XS.iloadN X47.here hx rfl (hb hby at_131) rfl kk) ?_
  refine own_callS X47 hx hZ (y := (⟨"com/example/kennel/kennel/EightBytes", "digitsOf", "(I)J"⟩ : MethodName)) (as' := [(.int v7)]) hown (own_w hw 9 rfl) (own_w hw 10 rfl) (own_w hw 11 rfl) (own_w hw 12 rfl) (by decide) (own_rm2 l Z a0 hw [] v7 h0 n0) 0 (by decide) (by decide) (by decide) (by decide) (rest := []) (by rw [hml]; rfl) (lenOf (by decide : parseMethodDescriptor "(I)J" = some ⟨[.int], some (.long)⟩) rfl) rfl (Nat.le_of_eq rfl) (hb hby at_132) eq43 ?_
  intro T51 L52 v54 X53 hQ
  obtain ⟨rfl, rfl, eq49⟩ := hQ
  show own_Out _ _ _ _ (T51.setTop (mkF m 135 #[.val (.int p0), .val (.int v7), .val (.int (v7 / (10000000 : Int32))), .val (.int ((v7 / (1000000 : Int32)) % (10 : Int32))), .val (.int ((v7 / (100000 : Int32)) % (10 : Int32))), .val (.int ((v7 / (10000 : Int32)) % (10 : Int32))), .val (.int ((v7 / (1000 : Int32)) % (10 : Int32))), .val (.int ((v7 / (100 : Int32)) % (10 : Int32))), .val (.int ((v7 / (10 : Int32)) % (10 : Int32))), .val (.int (v7 % (10 : Int32))), .val (.long ((((((((own_ascii (v7 / (10000000 : Int32)) (0 : Int32)) ||| (own_ascii ((v7 / (1000000 : Int32)) % (10 : Int32)) (1 : Int32))) ||| (own_ascii ((v7 / (100000 : Int32)) % (10 : Int32)) (2 : Int32))) ||| (own_ascii ((v7 / (10000 : Int32)) % (10 : Int32)) (3 : Int32))) ||| (own_ascii ((v7 / (1000 : Int32)) % (10 : Int32)) (4 : Int32))) ||| (own_ascii ((v7 / (100 : Int32)) % (10 : Int32)) (5 : Int32))) ||| (own_ascii ((v7 / (10 : Int32)) % (10 : Int32)) (6 : Int32))) ||| (own_ascii (v7 % (10 : Int32)) (7 : Int32)))), .second] [(.long (own_digits v7))]))
  have N50 := Fr.app N44 (Fr.nil n0)
  refine own_st (G := T51.setTop (mkF m 137 #[.val (.int p0), .val (.int v7), .val (.int (v7 / (10000000 : Int32))), .val (.int ((v7 / (1000000 : Int32)) % (10 : Int32))), .val (.int ((v7 / (100000 : Int32)) % (10 : Int32))), .val (.int ((v7 / (10000 : Int32)) % (10 : Int32))), .val (.int ((v7 / (1000 : Int32)) % (10 : Int32))), .val (.int ((v7 / (100 : Int32)) % (10 : Int32))), .val (.int ((v7 / (10 : Int32)) % (10 : Int32))), .val (.int (v7 % (10 : Int32))), .val (.long ((((((((own_ascii (v7 / (10000000 : Int32)) (0 : Int32)) ||| (own_ascii ((v7 / (1000000 : Int32)) % (10 : Int32)) (1 : Int32))) ||| (own_ascii ((v7 / (100000 : Int32)) % (10 : Int32)) (2 : Int32))) ||| (own_ascii ((v7 / (10000 : Int32)) % (10 : Int32)) (3 : Int32))) ||| (own_ascii ((v7 / (1000 : Int32)) % (10 : Int32)) (4 : Int32))) ||| (own_ascii ((v7 / (100 : Int32)) % (10 : Int32)) (5 : Int32))) ||| (own_ascii ((v7 / (10 : Int32)) % (10 : Int32)) (6 : Int32))) ||| (own_ascii (v7 % (10 : Int32)) (7 : Int32)))), .second] [(.long ((((((((own_ascii (v7 / (10000000 : Int32)) (0 : Int32)) ||| (own_ascii ((v7 / (1000000 : Int32)) % (10 : Int32)) (1 : Int32))) ||| (own_ascii ((v7 / (100000 : Int32)) % (10 : Int32)) (2 : Int32))) ||| (own_ascii ((v7 / (10000 : Int32)) % (10 : Int32)) (3 : Int32))) ||| (own_ascii ((v7 / (1000 : Int32)) % (10 : Int32)) (4 : Int32))) ||| (own_ascii ((v7 / (100 : Int32)) % (10 : Int32)) (5 : Int32))) ||| (own_ascii ((v7 / (10 : Int32)) % (10 : Int32)) (6 : Int32))) ||| (own_ascii (v7 % (10 : Int32)) (7 : Int32)))), (.long (own_digits v7))])) (fun _ kk => XS.lload X53.here hx rfl (hb hby at_135) rfl kk) ?_
  refine own_st (G := T51.setTop (mkF m 138 #[.val (.int p0), .val (.int v7), .val (.int (v7 / (10000000 : Int32))), .val (.int ((v7 / (1000000 : Int32)) % (10 : Int32))), .val (.int ((v7 / (100000 : Int32)) % (10 : Int32))), .val (.int ((v7 / (10000 : Int32)) % (10 : Int32))), .val (.int ((v7 / (1000 : Int32)) % (10 : Int32))), .val (.int ((v7 / (100 : Int32)) % (10 : Int32))), .val (.int ((v7 / (10 : Int32)) % (10 : Int32))), .val (.int (v7 % (10 : Int32))), .val (.long ((((((((own_ascii (v7 / (10000000 : Int32)) (0 : Int32)) ||| (own_ascii ((v7 / (1000000 : Int32)) % (10 : Int32)) (1 : Int32))) ||| (own_ascii ((v7 / (100000 : Int32)) % (10 : Int32)) (2 : Int32))) ||| (own_ascii ((v7 / (10000 : Int32)) % (10 : Int32)) (3 : Int32))) ||| (own_ascii ((v7 / (1000 : Int32)) % (10 : Int32)) (4 : Int32))) ||| (own_ascii ((v7 / (100 : Int32)) % (10 : Int32)) (5 : Int32))) ||| (own_ascii ((v7 / (10 : Int32)) % (10 : Int32)) (6 : Int32))) ||| (own_ascii (v7 % (10 : Int32)) (7 : Int32)))), .second] [(.int (BdW.cmpL (own_digits v7) ((((((((own_ascii (v7 / (10000000 : Int32)) (0 : Int32)) ||| (own_ascii ((v7 / (1000000 : Int32)) % (10 : Int32)) (1 : Int32))) ||| (own_ascii ((v7 / (100000 : Int32)) % (10 : Int32)) (2 : Int32))) ||| (own_ascii ((v7 / (10000 : Int32)) % (10 : Int32)) (3 : Int32))) ||| (own_ascii ((v7 / (1000 : Int32)) % (10 : Int32)) (4 : Int32))) ||| (own_ascii ((v7 / (100 : Int32)) % (10 : Int32)) (5 : Int32))) ||| (own_ascii ((v7 / (10 : Int32)) % (10 : Int32)) (6 : Int32))) ||| (own_ascii (v7 % (10 : Int32)) (7 : Int32)))))])) (fun _ kk => XT.lcmp X53.here hx rfl (hb hby at_137) rfl kk) ?_
  have hk55 : ((own_digits v7) = ((((((((own_ascii (v7 / (10000000 : Int32)) (0 : Int32)) ||| (own_ascii ((v7 / (1000000 : Int32)) % (10 : Int32)) (1 : Int32))) ||| (own_ascii ((v7 / (100000 : Int32)) % (10 : Int32)) (2 : Int32))) ||| (own_ascii ((v7 / (10000 : Int32)) % (10 : Int32)) (3 : Int32))) ||| (own_ascii ((v7 / (1000 : Int32)) % (10 : Int32)) (4 : Int32))) ||| (own_ascii ((v7 / (100 : Int32)) % (10 : Int32)) (5 : Int32))) ||| (own_ascii ((v7 / (10 : Int32)) % (10 : Int32)) (6 : Int32))) ||| (own_ascii (v7 % (10 : Int32)) (7 : Int32)))) := own_plain v7 (own_b p0 v7 hv7).1 (own_b p0 v7 hv7).2
  refine own_st (G := T51.setTop (mkF m 141 #[.val (.int p0), .val (.int v7), .val (.int (v7 / (10000000 : Int32))), .val (.int ((v7 / (1000000 : Int32)) % (10 : Int32))), .val (.int ((v7 / (100000 : Int32)) % (10 : Int32))), .val (.int ((v7 / (10000 : Int32)) % (10 : Int32))), .val (.int ((v7 / (1000 : Int32)) % (10 : Int32))), .val (.int ((v7 / (100 : Int32)) % (10 : Int32))), .val (.int ((v7 / (10 : Int32)) % (10 : Int32))), .val (.int (v7 % (10 : Int32))), .val (.long ((((((((own_ascii (v7 / (10000000 : Int32)) (0 : Int32)) ||| (own_ascii ((v7 / (1000000 : Int32)) % (10 : Int32)) (1 : Int32))) ||| (own_ascii ((v7 / (100000 : Int32)) % (10 : Int32)) (2 : Int32))) ||| (own_ascii ((v7 / (10000 : Int32)) % (10 : Int32)) (3 : Int32))) ||| (own_ascii ((v7 / (1000 : Int32)) % (10 : Int32)) (4 : Int32))) ||| (own_ascii ((v7 / (100 : Int32)) % (10 : Int32)) (5 : Int32))) ||| (own_ascii ((v7 / (10 : Int32)) % (10 : Int32)) (6 : Int32))) ||| (own_ascii (v7 % (10 : Int32)) (7 : Int32)))), .second] [])) (fun _ kk => XS.ifNo X53.here hx rfl (hb hby at_138) rfl (XT.ll_ne_f hk55) kk) ?_
  refine own_st (G := T51.setTop (mkF m 142 #[.val (.int p0), .val (.int v7), .val (.int (v7 / (10000000 : Int32))), .val (.int ((v7 / (1000000 : Int32)) % (10 : Int32))), .val (.int ((v7 / (100000 : Int32)) % (10 : Int32))), .val (.int ((v7 / (10000 : Int32)) % (10 : Int32))), .val (.int ((v7 / (1000 : Int32)) % (10 : Int32))), .val (.int ((v7 / (100 : Int32)) % (10 : Int32))), .val (.int ((v7 / (10 : Int32)) % (10 : Int32))), .val (.int (v7 % (10 : Int32))), .val (.long ((((((((own_ascii (v7 / (10000000 : Int32)) (0 : Int32)) ||| (own_ascii ((v7 / (1000000 : Int32)) % (10 : Int32)) (1 : Int32))) ||| (own_ascii ((v7 / (100000 : Int32)) % (10 : Int32)) (2 : Int32))) ||| (own_ascii ((v7 / (10000 : Int32)) % (10 : Int32)) (3 : Int32))) ||| (own_ascii ((v7 / (1000 : Int32)) % (10 : Int32)) (4 : Int32))) ||| (own_ascii ((v7 / (100 : Int32)) % (10 : Int32)) (5 : Int32))) ||| (own_ascii ((v7 / (10 : Int32)) % (10 : Int32)) (6 : Int32))) ||| (own_ascii (v7 % (10 : Int32)) (7 : Int32)))), .second] [(.int (1 : Int32))])) (fun _ kk => XT.iconstV X53.here hx rfl (1 : Int32) (hb hby at_141) (by decide) kk) ?_
  refine own_st (G := T51.setTop (mkF m 146 #[.val (.int p0), .val (.int v7), .val (.int (v7 / (10000000 : Int32))), .val (.int ((v7 / (1000000 : Int32)) % (10 : Int32))), .val (.int ((v7 / (100000 : Int32)) % (10 : Int32))), .val (.int ((v7 / (10000 : Int32)) % (10 : Int32))), .val (.int ((v7 / (1000 : Int32)) % (10 : Int32))), .val (.int ((v7 / (100 : Int32)) % (10 : Int32))), .val (.int ((v7 / (10 : Int32)) % (10 : Int32))), .val (.int (v7 % (10 : Int32))), .val (.long ((((((((own_ascii (v7 / (10000000 : Int32)) (0 : Int32)) ||| (own_ascii ((v7 / (1000000 : Int32)) % (10 : Int32)) (1 : Int32))) ||| (own_ascii ((v7 / (100000 : Int32)) % (10 : Int32)) (2 : Int32))) ||| (own_ascii ((v7 / (10000 : Int32)) % (10 : Int32)) (3 : Int32))) ||| (own_ascii ((v7 / (1000 : Int32)) % (10 : Int32)) (4 : Int32))) ||| (own_ascii ((v7 / (100 : Int32)) % (10 : Int32)) (5 : Int32))) ||| (own_ascii ((v7 / (10 : Int32)) % (10 : Int32)) (6 : Int32))) ||| (own_ascii (v7 % (10 : Int32)) (7 : Int32)))), .second] [(.int (1 : Int32))])) (fun _ kk => XS.goto X53.here hx rfl (pc0 := 142) (pc' := 146) rfl (hb hby at_142) (by decide) (by decide) kk) ?_
  refine own_retB X53 hx hret (by simp) hlk (hb hby at_146) (by decide) (by decide) ?_
  exact ⟨rfl, N50⟩
set_option maxRecDepth 65536 in
set_option maxHeartbeats 40000000 in
theorem comes_1 {Post : Tables → Env → Array Value → State → Outcome → State → Prop} (hpost : ∀ tb e args s v u, (limb_1_1.after args s (.returned v) u = true ∧ limb_1_2.after args s (.returned v) u = true ∧ True) → FrameEnd s (.returned v) u (Jvm.fieldLocs frame_1_writes args s ++ Jvm.arrayLocs frame_1_arrays args s ++ Jvm.staticLocs frame_1_statics s) 0 0 → Post tb e args s (.returned v) u) :
    ArmFor flags0 classFile x code maxLocals ret World_1 tables_1 room_1 Calls_1 rest_1 Pre_1 Post := by
  intro l hfl _ _ p e ha hc hk s m args below hf hA hF happ hP
  obtain ⟨hcalls, hrest, hpre⟩ := hP
  obtain ⟨-, -, -, hnamed, -, -, -, hat⟩ := (Spec.applies_iff hf).mp happ
  obtain ⟨hg, hn⟩ := and_e (Cond.before_iff.mp (show (Jvm.Cond.and given_1 narrow_1).before args s = true from hpre))
  obtain ⟨hct, hk0⟩ := and_e hg
  have ha0 := hk0
  obtain ⟨w0, rfl⟩ : ∃ w0 : Value, args = #[w0] := by
    have hs : args.size = 1 := by simpa [Cond.value, given_1] using hct
    obtain ⟨L⟩ := args
    match L, hs with
    | [w0], _ => exact ⟨w0, rfl⟩
  have hw := fun d (hd : d ∈ tables_1) => atoms_spec (ws := Jvm.Cond.code x code maxLocals ret :: tables_1) hat d (List.mem_cons_of_mem _ hd)
  obtain ⟨i0, e0⟩ := is_v ha0
  obtain rfl : w0 = (.int i0) := Option.some.inj e0
  obtain ⟨n, o, h1, h2, h3, _, L, rfl, ⟨rfl, N⟩, hq⟩ := own_law l s _ hw tables_1 i0 s.heap s.heap.size p e ha hc hk s m _ below hf ((Spec.applies_iff_loose hf).mp happ).1 ⟨rfl, State.Warmed39.refl s, rfl⟩ trivial
  refine ⟨n, _, h1, h2, h3, hpost _ _ _ _ _ _ ⟨Cond.after_iff.mpr rfl, Cond.after_iff.mpr (eq_i res_at (Term.int_eval (1)) rfl), trivial⟩ ⟨hq.1, hq.2.1, (hq.2.2.sift fun y hy => Or.inr (N y hy)).mono (by decide) (by decide)⟩⟩
theorem main_1_1 : Claimed_1_1 := comes_1 fun _ _ _ _ _ _ h hF => ⟨h.1, hF⟩
theorem main_1_2 : Claimed_1_2 := comes_1 fun _ _ _ _ _ _ h hF => ⟨h.2.1, hF⟩
end Jvm.Pilot.@@N@@
namespace Jvm.Pilot.@@N@@
open Jvm Jvm.ClassFile Sem Op Lib Jvm.Free Jvm.Stand Jvm.Pilot.@@N@@.Jvm.D
/-! MADE BY PROGRAM (witnessworld.py) out of the Statement's table words and the real class files: 9 classes; the members and pool entries that the words name. The judged class is class 1, her method 2. -/
namespace start1
open Jvm.ClassFile
def u (s : String) : CpInfo := .utf8 (stringToUtf16 s)
/-- a pool by its gaps: so many unusable entries, then the entry; so many at the end -/
def gap : Nat → List CpInfo → List CpInfo
  | 0, r => r
  | n + 1, r => .unusable :: gap n r
def poolList (es : List (Nat × CpInfo)) (last : Nat) : List CpInfo := es.foldr (fun e r => gap e.1 (e.2 :: r)) (gap last [])
def pool (es : List (Nat × CpInfo)) (last : Nat) : Array CpInfo := ⟨poolList es last⟩
def fileOf (pool : Array CpInfo) (this : Nat) (attrs : Array Attribute := #[]) (ms : Array MethodInfo := #[]) (fl : Nat := 33) (sup : Nat := 0) (ifs : Array Nat := #[]) (fds : Array FieldInfo := #[]) : ClassFile where
  minorVersion := 0
  majorVersion := 65
  constantPool := pool
  accessFlags := fl
  thisClass := this
  superClass := sup
  interfaces := ifs
  fields := fds
  methods := ms
  attributes := attrs
def plain (name : String) (sup : Option ClassId) : Class where
  name := name
  kind := .ordinary
  loader := none
  accessFlags := 33
  super := sup
  interfaces := #[]
  cf := none
  fields := #[]
  methods := #[]
  instanceTypes := #[]
  staticTypes := #[]
  resolved := #[]
  callSites := []
  init := .initialized
  statics := none
  mirror := none

def pool0 : Array CpInfo := pool [(5, u "<init>"), (0, u "()V"), (1, .class_ 10), (1, u "java/lang/Object")] 113

def k0m0 : Method := { name := "<init>", desc := "()V", sig := { parameters := [], returnType := none }, accessFlags := 1, code := none }
/-- java/lang/Object -/
def k0 : Class := { plain "java/lang/Object" none with
  accessFlags := 33
  interfaces := #[]
  cf := some (fileOf pool0 8 #[] #[{ accessFlags := 1, nameIndex := 5, descriptorIndex := 6, attributes := #[] }] 33 0 #[] #[])
  fields := #[]
  methods := #[k0m0]
  instanceTypes := #[]
  staticTypes := #[]
  resolved := Array.replicate 124 none
  statics := none }

def pool1 : Array CpInfo := pool [(2, .class_ 4), (1, u "java/lang/Object"), (0, u "<init>"), (0, u "()V"), (0, .integer 2147483647), (0, .integer 100000000), (0, .integer 10000000), (0, .integer 1000000), (0, .integer 100000), (0, .methodref 13 14), (0, .class_ 15), (0, .nameAndType 16 17), (0, u "com/example/kennel/kennel/EightBytesDigitsOfPinLaw"), (0, u "ascii"), (0, u "(II)J"), (0, .methodref 19 20), (0, .class_ 21), (0, .nameAndType 22 23), (0, u "com/example/kennel/kennel/EightBytes"), (0, u "digitsOf"), (0, u "(I)J"), (2, u "law"), (0, u "(I)Z")] 3

def k1m0 : Method := { name := "<init>", desc := "()V", sig := { parameters := [], returnType := none }, accessFlags := 2, code := none }
def k1c1 : Code := { maxStack := 4, maxLocals := 2, code := method_2_code, exceptionTable := #[], attributes := #[] }
def k1m1 : Method := { name := "ascii", desc := "(II)J", sig := { parameters := [.int, .int], returnType := some .long }, accessFlags := 10, code := some k1c1 }
def k1c2 : Code := { maxStack := 4, maxLocals := 12, code := code, exceptionTable := #[], attributes := #[] }
def k1m2 : Method := { name := "law", desc := "(I)Z", sig := { parameters := [.int], returnType := some .boolean }, accessFlags := 9, code := some k1c2 }
/-- com/example/kennel/kennel/EightBytesDigitsOfPinLaw -/
def k1 : Class := { plain "com/example/kennel/kennel/EightBytesDigitsOfPinLaw" (some 0) with
  accessFlags := 49
  interfaces := #[]
  cf := some (fileOf pool1 13 #[] #[{ accessFlags := 2, nameIndex := 5, descriptorIndex := 6, attributes := #[] }, { accessFlags := 10, nameIndex := 16, descriptorIndex := 17, attributes := #[] }, { accessFlags := 9, nameIndex := 26, descriptorIndex := 27, attributes := #[] }] 49 2 #[] #[])
  fields := #[]
  methods := #[k1m0, k1m1, k1m2]
  instanceTypes := #[]
  staticTypes := #[]
  resolved := Array.replicate 31 none
  statics := none }

def pool2 : Array CpInfo := pool [(1, .class_ 2), (0, u "com/example/kennel/kennel/EightBytes"), (1, .class_ 6), (1, u "java/lang/Object"), (0, u "<init>"), (0, u "()V"), (2, u "LONGS"), (0, u "Ljava/lang/invoke/VarHandle;"), (44, .long 3472328296227680304), (3, .long 10), (3, .long 100), (7, .long 10486), (1, .long 545460846719), (1, .long 103), (1, .long 4222189076152335), (6, u "TEN_POWERS"), (0, u "[J"), (6, u "digitsOf"), (0, u "(I)J"), (33, u "EACH"), (0, u "J"), (1, u "TOP_BITS"), (0, u "HIGH_HALVES"), (0, u "SIX"), (2, u "THREES"), (0, u "SPACE"), (0, u "BACKSLASH"), (0, u "MOST_DIGITS"), (0, u "I"), (1, u "EIGHT_DIGITS"), (0, u "EIGHT_ZEROS")] 18

def k2m0 : Method := { name := "<init>", desc := "()V", sig := { parameters := [], returnType := none }, accessFlags := 2, code := none }
def k2c1 : Code := { maxStack := 8, maxLocals := 11, code := prog_11_method_10_code, exceptionTable := #[], attributes := #[] }
def k2m1 : Method := { name := "digitsOf", desc := "(I)J", sig := { parameters := [.int], returnType := some .long }, accessFlags := 8, code := some k2c1 }
/-- com/example/kennel/kennel/EightBytes -/
def k2 : Class := { plain "com/example/kennel/kennel/EightBytes" (some 0) with
  accessFlags := 48
  interfaces := #[]
  cf := some (fileOf pool2 1 #[] #[{ accessFlags := 2, nameIndex := 7, descriptorIndex := 8, attributes := #[] }, { accessFlags := 8, nameIndex := 94, descriptorIndex := 95, attributes := #[] }] 48 4 #[] #[{ accessFlags := 24, nameIndex := 129, descriptorIndex := 130, attributes := #[] }, { accessFlags := 26, nameIndex := 132, descriptorIndex := 130, attributes := #[] }, { accessFlags := 26, nameIndex := 133, descriptorIndex := 130, attributes := #[] }, { accessFlags := 26, nameIndex := 134, descriptorIndex := 130, attributes := #[] }, { accessFlags := 26, nameIndex := 137, descriptorIndex := 130, attributes := #[] }, { accessFlags := 26, nameIndex := 138, descriptorIndex := 130, attributes := #[] }, { accessFlags := 26, nameIndex := 139, descriptorIndex := 130, attributes := #[] }, { accessFlags := 24, nameIndex := 140, descriptorIndex := 141, attributes := #[] }, { accessFlags := 26, nameIndex := 143, descriptorIndex := 130, attributes := #[] }, { accessFlags := 26, nameIndex := 144, descriptorIndex := 130, attributes := #[] }, { accessFlags := 26, nameIndex := 86, descriptorIndex := 87, attributes := #[] }, { accessFlags := 26, nameIndex := 11, descriptorIndex := 12, attributes := #[] }])
  fields := #[{ name := "EACH", type := .long, accessFlags := 24, slot := 0, constantValue := 0 }, { name := "TOP_BITS", type := .long, accessFlags := 26, slot := 1, constantValue := 0 }, { name := "HIGH_HALVES", type := .long, accessFlags := 26, slot := 2, constantValue := 0 }, { name := "SIX", type := .long, accessFlags := 26, slot := 3, constantValue := 0 }, { name := "THREES", type := .long, accessFlags := 26, slot := 4, constantValue := 0 }, { name := "SPACE", type := .long, accessFlags := 26, slot := 5, constantValue := 0 }, { name := "BACKSLASH", type := .long, accessFlags := 26, slot := 6, constantValue := 0 }, { name := "MOST_DIGITS", type := .int, accessFlags := 24, slot := 7, constantValue := 0 }, { name := "EIGHT_DIGITS", type := .long, accessFlags := 26, slot := 8, constantValue := 0 }, { name := "EIGHT_ZEROS", type := .long, accessFlags := 26, slot := 9, constantValue := 0 }, { name := "TEN_POWERS", type := (.array .long), accessFlags := 26, slot := 10, constantValue := 0 }, { name := "LONGS", type := (.object "java/lang/invoke/VarHandle"), accessFlags := 26, slot := 11, constantValue := 0 }]
  methods := #[k2m0, k2m1]
  instanceTypes := #[]
  staticTypes := #[.long, .long, .long, .long, .long, .long, .long, .int, .long, .long, (.array .long), (.object "java/lang/invoke/VarHandle")]
  resolved := Array.replicate 163 none
  statics := none }

def pool3 : Array CpInfo := pool [(1, u "java/lang/Cloneable"), (0, .class_ 1), (0, u "java/lang/Object"), (0, .class_ 3)] 3

/-- java/lang/Cloneable -/
def k3 : Class := { plain "java/lang/Cloneable" (some 0) with
  accessFlags := 1537
  interfaces := #[]
  cf := some (fileOf pool3 2 #[] #[] 1537 4 #[] #[])
  fields := #[]
  methods := #[]
  instanceTypes := #[]
  staticTypes := #[]
  resolved := Array.replicate 8 none
  statics := none }

def pool4 : Array CpInfo := pool [(1, u "java/io/Serializable"), (0, .class_ 1), (0, u "java/lang/Object"), (0, .class_ 3)] 3

/-- java/io/Serializable -/
def k4 : Class := { plain "java/io/Serializable" (some 0) with
  accessFlags := 1537
  interfaces := #[]
  cf := some (fileOf pool4 2 #[] #[] 1537 4 #[] #[])
  fields := #[]
  methods := #[]
  instanceTypes := #[]
  staticTypes := #[]
  resolved := Array.replicate 8 none
  statics := none }

/-- the primitive byte -/
def k5 : Class := { plain "byte" none with kind := .primitive 'B', accessFlags := 0x411 }
/-- [B -/
def k6 : Class := { plain "[B" (some 0) with kind := .array 5 .byte, interfaces := #[3, 4], accessFlags := 1041 }

/-- the primitive int -/
def k7 : Class := { plain "int" none with kind := .primitive 'I', accessFlags := 0x411 }
/-- [I -/
def k8 : Class := { plain "[I" (some 0) with kind := .array 7 .int, interfaces := #[3, 4], accessFlags := 1041 }

def heap : Heap := #[]
def classes : Array Class := #[k0, k1, k2, k3, k4, k5, k6, k7, k8]
def interned : List (Array UInt16 × Addr) := []
def slotsUsed : Nat := 0
def theMethod : MethodId := ⟨1, 2⟩
def args0 : Array Value := #[.int 5]
def aboutOver (below : List Frame) : State where
  vm := { classes := classes, interned := interned.toArray }
  heap := heap
  slotsUsed := slotsUsed
  threads := #[{ frames := .invoking theMethod args0 :: below }]
def below0 : List Frame := [.native { method := ⟨0, 0⟩, args := #[] }]
def about1 : State := aboutOver below0
def p0 : Program := .bare "" "" ""
def e0 : Env := launch0.env 0 0 0
theorem w_frames : about1.frames = Frame.invoking theMethod args0 :: below0 := rfl
set_option maxRecDepth 65536 in
theorem w_args : argsFit about1.vm theMethod args0 = true := by decide +kernel
set_option maxRecDepth 65536 in
theorem w_heap : heapFits about1 = true := by decide +kernel
set_option maxRecDepth 65536 in
theorem w_runnable : about1.curStatus? = some .runnable := by decide +kernel
set_option maxRecDepth 65536 in
theorem w_alone : about1.alone = true := by decide +kernel
set_option maxRecDepth 65536 in
theorem w_named : about1.methodNamed? x = some theMethod := by decide +kernel
set_option maxRecDepth 65536 in
theorem w_hears : about1.hears theMethod below0 = true := by decide +kernel
set_option maxRecDepth 65536 in
theorem w_ripe : about1.ripe theMethod args0 below0 = true := by decide +kernel
theorem w_running : about1.status = .running := rfl
set_option maxRecDepth 65536 in
theorem w_room : about1.hasRoom e0.platform room_1 = true :=
  launch0.hasRoom_least _ room_1 (by decide +kernel) (by decide +kernel) (by decide +kernel) (by decide +kernel) (by decide +kernel) (by decide +kernel)
theorem allAtoms_all (ts : List Jvm.Cond) (a : Array Jvm.Value) (st : Jvm.State) : (allAtoms ts).before a st = ts.all (fun c => c.before a st) := by
  induction ts with
  | nil => rfl
  | cons c t ih =>
    show (Jvm.Cond.and c (allAtoms t)).before a st = _
    rw [Jvm.Cond.before_and, ih, List.all_cons]
def words1 : List Jvm.Cond := Jvm.Cond.code x code maxLocals ret :: tables_1
/-- a 'code' word, met by the world's own term for the bytes: nothing is compared byte by byte -/
theorem code_word {y : MethodName} {bytes : ByteArray} {mx : Nat} {rt : Option FieldType} {a : Array Value} {s : State} {m : MethodId} {meth : Method} {c : Code} (h1 : s.methodNamed? y = some m) (h2 : s.vm.method? m = some meth) (h3 : meth.code = some c) (h4 : c.code = bytes)
    (h5 : (c.maxLocals == mx && c.exceptionTable.isEmpty && decide (c.maxStack ≤ mostOperands) && decide (meth.sig.returnType = rt) && !meth.locks && decide (parseMethodDescriptor y.desc = some meth.sig)) = true) : (Jvm.Cond.code y bytes mx rt).before a s = true := by
  simp only [Bool.and_eq_true, beq_iff_eq, Bool.not_eq_true', decide_eq_true_eq] at h5
  obtain ⟨⟨⟨⟨⟨g1, g2⟩, g3⟩, g4⟩, g5⟩, g6⟩ := h5
  simp [Cond.before, Cond.holds, Cond.value, h1, h2, h3, h4, g1, g2, g3, g4, g5, g6]
def isCode : Jvm.Cond → Bool
  | .code _ _ _ _ => true
  | _ => false
theorem all_split {L : List Jvm.Cond} {P : Jvm.Cond → Bool} (h1 : L.all (fun c => isCode c || P c) = true) (h2 : ∀ c ∈ L.filter isCode, P c = true) : L.all P = true := by
  refine List.all_eq_true.mpr fun c hc => ?_
  have h := List.all_eq_true.mp h1 c hc
  rcases Bool.eq_false_or_eq_true (isCode c) with hi | hi
  · exact h2 c (List.mem_filter.mpr ⟨hc, hi⟩)
  · simpa [hi] using h
set_option maxRecDepth 65536 in
theorem w_c0 : (Jvm.Cond.code x code maxLocals ret).before args0 about1 = true := code_word (m := ⟨1, 2⟩) (meth := k1m2) (c := k1c2) (by decide +kernel) rfl rfl rfl (by decide +kernel)
set_option maxRecDepth 65536 in
theorem w_c1 : (Jvm.Cond.code ({ cls := "com/example/kennel/kennel/EightBytesDigitsOfPinLaw", name := "ascii", desc := "(II)J" } : Jvm.MethodName) method_2_code (2 : Nat) (Option.some Jvm.ClassFile.FieldType.long)).before args0 about1 = true := code_word (m := ⟨1, 1⟩) (meth := k1m1) (c := k1c1) (by decide +kernel) rfl rfl rfl (by decide +kernel)
set_option maxRecDepth 65536 in
theorem w_c2 : (Jvm.Cond.code ({ cls := "com/example/kennel/kennel/EightBytes", name := "digitsOf", desc := "(I)J" } : Jvm.MethodName) prog_11_method_10_code (11 : Nat) (Option.some Jvm.ClassFile.FieldType.long)).before args0 about1 = true := code_word (m := ⟨2, 1⟩) (meth := k2m1) (c := k2c1) (by decide +kernel) rfl rfl rfl (by decide +kernel)
def codes1 : List Jvm.Cond := [Jvm.Cond.code x code maxLocals ret, Jvm.Cond.code ({ cls := "com/example/kennel/kennel/EightBytesDigitsOfPinLaw", name := "ascii", desc := "(II)J" } : Jvm.MethodName) method_2_code (2 : Nat) (Option.some Jvm.ClassFile.FieldType.long), Jvm.Cond.code ({ cls := "com/example/kennel/kennel/EightBytes", name := "digitsOf", desc := "(I)J" } : Jvm.MethodName) prog_11_method_10_code (11 : Nat) (Option.some Jvm.ClassFile.FieldType.long)]
set_option maxRecDepth 65536 in
theorem codes_eq : words1.filter isCode = codes1 := rfl
theorem w_codes : ∀ c ∈ words1.filter isCode, c.before args0 about1 = true := by
  rw [codes_eq]
  intro c hc
  simp only [codes1, List.mem_cons, List.not_mem_nil, or_false] at hc
  rcases hc with rfl | rfl | rfl
  · exact w_c0
  · exact w_c1
  · exact w_c2
set_option maxRecDepth 65536 in
theorem w_t1 : words1.all (fun c => isCode c || c.before args0 about1) = true := by decide +kernel
theorem w_tables : (allAtoms (Jvm.Cond.code x code maxLocals ret :: tables_1)).before args0 about1 = true := by
  rw [allAtoms_all]
  show words1.all (fun c => c.before args0 about1) = true
  refine all_split ?_ w_codes
  rw [w_t1]
set_option maxRecDepth 65536 in
theorem w_case : (Jvm.Cond.and given_1 narrow_1).before args0 about1 = true := by decide +kernel
theorem w_applies : (headSpec (Jvm.Cond.code x code maxLocals ret :: tables_1) room_1).applies x e0.platform about1 = true :=
  (Spec.applies_iff w_frames).mpr ⟨w_running, w_runnable, w_alone, w_named, w_hears, w_ripe, w_room, w_tables⟩
theorem atStart : AtStart classFile x code maxLocals ret World_1 tables_1 room_1 Calls_1 rest_1 Pre_1 launch0 p0 e0 about1 theMethod args0 below0 :=
  ⟨lists_1, trivial, launch0.admits_env _ _ _, launch0.least_env, fairChoices_fair.cas, fairChoices_fair.clock, w_frames, w_args, w_heap, w_applies, trivial, trivial, w_case⟩
end start1
theorem witness_1 : WitnessClaimed_1 := ⟨start1.p0, start1.e0, start1.about1, start1.theMethod, start1.args0, start1.below0, start1.atStart⟩
end Jvm.Pilot.@@N@@
