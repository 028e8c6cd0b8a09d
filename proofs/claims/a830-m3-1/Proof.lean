import JvmDerived
import JvmDerived.Pilot.@@N@@Statement
import JvmDerived.Pilot.@@N@@Code
set_option linter.unusedVariables false
set_option linter.unusedSimpArgs false
@@BLOCK:NumsL.lean.txt@@
namespace Jvm.RoadKit
open Sem ClassFile Op Lib Jvm.Stand Jvm.Free Jvm.LawKit
section Own
variable {p : Program} {l : Launch} {e : Env} {R : Room} {s : State} {m : MethodId} {args : Array Value} {below : List Frame} {meth : Method} {c : Code} {T : State} {locs : List Loc} {cells slots : Nat} {Z : State} {a0 : Array Value} {h : Heap}
/-- from the state F the walked method comes to its end, and Q holds there -/
def own_Out (p : Program) (e : Env) (below : List Frame) (Q : Outcome → State → Prop) (F : State) : Prop :=
  ∃ s₂ o, Steps p.tables e below F s₂ ∧ s₂.status = .running ∧ Ended s₂ below o ∧ Q o s₂
/-- what a contract says of the end, out of a statement on the value, the heap and the written places -/
def own_Q (Q : Option Value → Heap → List Loc → Prop) (s : State) (k n : Nat) : Outcome → State → Prop :=
  fun o U => ∃ v L, o = .returned v ∧ Q v U.heap L ∧ FrameEnd s o U L k n
theorem own_st {Q : Outcome → State → Prop} {F G : State} (h : ∀ t, Steps p.tables e below G t → Steps p.tables e below F t) (k : own_Out p e below Q G) : own_Out p e below Q F := by
  obtain ⟨s2, o, h1, h2⟩ := k
  exact ⟨s2, o, h _ h1, h2⟩
theorem own_tr {Q : Outcome → State → Prop} {F G : State} (h : Steps p.tables e below F G) (k : own_Out p e below Q G) : own_Out p e below Q F :=
  own_st (fun _ q => h.trans q) k
theorem own_retB (X : Stand p l e R s m args below meth c T locs cells slots) (hx : p.tables.exec = Jvm.exec) {Q : Option Value → Heap → List Loc → Prop} {k n : Nat} {pc : Nat} {Ls : Array Slot} {z : Int32} {t : FieldType} {rest : List Value}
    (hret : meth.sig.returnType = some t) (ht : t = .boolean ∨ t = .byte ∨ t = .char ∨ t = .short) (hlk : meth.locks = false) (hd : decode c.code pc = .ok (.ireturn, 1)) (hc : cells ≤ k) (hs : slots ≤ n)
    (hq : Q (some (.int (nar t z))) T.heap locs) : own_Out p e below (own_Q Q s k n) (T.setTop (mkF m pc Ls (.int z :: rest))) := by
  obtain ⟨fs, hr, hrun, hended, hW, hsame⟩ := X.leave (v := some (.int (nar t z))) (fun h => by rw [hret] at h; cases h) hlk
  exact ⟨_, _, retN X hx (t := t) hret ht hd hr, hrun, hended, _, _, rfl, hq, ⟨_, rfl⟩, hW, hsame.mono hc hs⟩
theorem own_retV (X : Stand p l e R s m args below meth c T locs cells slots) (hx : p.tables.exec = Jvm.exec) {Q : Option Value → Heap → List Loc → Prop} {k n : Nat} {pc : Nat} {Ls : Array Slot} {w : Value} {t : FieldType} {i : Instr} {rest : List Value}
    (hret : meth.sig.returnType = some t) (hn : narrow t w = w)
    (hi : (i = .ireturn ∧ (t = .int ∨ t = .boolean ∨ t = .byte ∨ t = .char ∨ t = .short) ∧ ∃ z, w = .int z) ∨ (i = .lreturn ∧ t = .long ∧ ∃ z, w = .long z) ∨ (i = .dreturn ∧ t = .double ∧ ∃ z, w = .double z) ∨ (i = .freturn ∧ t = .float ∧ ∃ z, w = .float z) ∨ (i = .areturn ∧ t.isReference = true ∧ w.isRef = true))
    (hlk : meth.locks = false) (hd : decode c.code pc = .ok (i, 1)) (hc : cells ≤ k) (hs : slots ≤ n)
    (hq : Q (some w) T.heap locs) : own_Out p e below (own_Q Q s k n) (T.setTop (mkF m pc Ls (w :: rest))) := by
  obtain ⟨fs, hr, hrun, hended, hW, hsame⟩ := X.leave (v := some w) (fun h => by rw [hret] at h; cases h) hlk
  exact ⟨_, _, retOut X hx hret hn hi hd hr, hrun, hended, _, _, rfl, hq, ⟨_, rfl⟩, hW, hsame.mono hc hs⟩
theorem own_retI (X : Stand p l e R s m args below meth c T locs cells slots) (hx : p.tables.exec = Jvm.exec) {Q : Option Value → Heap → List Loc → Prop} {k n : Nat} {pc : Nat} {Ls : Array Slot} {z : Int32} {rest : List Value}
    (hret : meth.sig.returnType = some .int) (hlk : meth.locks = false) (hd : decode c.code pc = .ok (.ireturn, 1)) (hc : cells ≤ k) (hs : slots ≤ n)
    (hq : Q (some (.int z)) T.heap locs) : own_Out p e below (own_Q Q s k n) (T.setTop (mkF m pc Ls (.int z :: rest))) :=
  own_retV X hx hret rfl (Or.inl ⟨rfl, Or.inl rfl, _, rfl⟩) hlk hd hc hs hq
theorem own_retJ (X : Stand p l e R s m args below meth c T locs cells slots) (hx : p.tables.exec = Jvm.exec) {Q : Option Value → Heap → List Loc → Prop} {k n : Nat} {pc : Nat} {Ls : Array Slot} {z : Int64} {rest : List Value}
    (hret : meth.sig.returnType = some .long) (hlk : meth.locks = false) (hd : decode c.code pc = .ok (.lreturn, 1)) (hc : cells ≤ k) (hs : slots ≤ n)
    (hq : Q (some (.long z)) T.heap locs) : own_Out p e below (own_Q Q s k n) (T.setTop (mkF m pc Ls (.long z :: rest))) :=
  own_retV X hx hret rfl (Or.inr (Or.inl ⟨rfl, rfl, _, rfl⟩)) hlk hd hc hs hq
theorem own_retA (X : Stand p l e R s m args below meth c T locs cells slots) (hx : p.tables.exec = Jvm.exec) {Q : Option Value → Heap → List Loc → Prop} {k n : Nat} {pc : Nat} {Ls : Array Slot} {w : Value} {t : FieldType} {rest : List Value}
    (hret : meth.sig.returnType = some t) (ht : t.isReference = true) (hw : w.isRef = true) (hlk : meth.locks = false) (hd : decode c.code pc = .ok (.areturn, 1)) (hc : cells ≤ k) (hs : slots ≤ n)
    (hq : Q (some w) T.heap locs) : own_Out p e below (own_Q Q s k n) (T.setTop (mkF m pc Ls (w :: rest))) :=
  own_retV X hx hret (by cases t <;> first | (cases ht; done) | rfl | (cases w <;> rfl)) (Or.inr (Or.inr (Or.inr (Or.inr ⟨rfl, ht, hw⟩)))) hlk hd hc hs hq
theorem own_ret0 (X : Stand p l e R s m args below meth c T locs cells slots) (hx : p.tables.exec = Jvm.exec) {Q : Option Value → Heap → List Loc → Prop} {k n : Nat} {pc : Nat} {Ls : Array Slot}
    (hret : meth.sig.returnType = none) (hlk : meth.locks = false) (hd : decode c.code pc = .ok (.return_, 1)) (hc : cells ≤ k) (hs : slots ≤ n)
    (hq : Q none T.heap locs) : own_Out p e below (own_Q Q s k n) (T.setTop (mkF m pc Ls [])) := by
  obtain ⟨fs, hr, hrun, hended, hW, hsame⟩ := X.leave (v := none) (fun _ => rfl) hlk
  exact ⟨_, _, X.returnOut hx hret hd hr, hrun, hended, _, _, rfl, hq, ⟨_, rfl⟩, hW, hsame.mono hc hs⟩
/-- the head of every body's walk -/
theorem own_body {x : MethodName} {code : ByteArray} {maxL : Nat} {ret : Option FieldType} {ws : List Jvm.Cond} {rm : Room} {as' : Array Value} {Q : Option Value → Heap → List Loc → Prop} (hpn : plainName x.cls = true) (Lf : Array Slot)
    (hent : ∀ m, entryFrame m as' maxL = mkF m 0 Lf [])
    (body : ∀ p e s m below meth c T, Stand p l e rm s m as' below meth c T [] 0 0 → p.tables.exec = Jvm.exec → c.code = code → c.maxLocals = maxL → meth.sig.returnType = ret → meth.locks = false →
      s.vm.findClass x.cls = some m.cls → meth.name = x.name → Z.Warmed39 s.vm → T.heap = h → own_Out p e below (own_Q Q s rm.cells rm.slots) (T.setTop (mkF m 0 Lf []))) :
    MetFree l x (head1 (Jvm.Cond.code x code maxL ret :: ws) rm) (fun a U => a = as' ∧ Z.Warmed39 U.vm ∧ U.heap = h) (fun _ _ _ _ _ => True)
      (fun _ U o U' => ∃ v L, o = .returned v ∧ Q v U'.heap L ∧ FrameEnd U o U' L rm.cells rm.slots) := by
  refine MetFree.of_bodySF (plainFor_of_name hpn) hisR ?_
  intro p e s m args below meth c s₁ Bd hml0 hP hK
  obtain ⟨rfl, hZ, hh⟩ := hP
  have e0 : s₁.heap = h := by rw [← hh, Bd.state]; rfl
  obtain ⟨s2, o, h1, h2⟩ := body p e s m below meth c s₁ (Stand.of_body Bd) Bd.exec Bd.bytes hml0 Bd.returns (BodyLoose.notSynchronized Bd) (findClass_of_methodNamed Bd.named) (name_of_methodNamed Bd.named Bd.method).1 hZ e0
  exact ⟨s2, o, castTop (hent m) h1, h2⟩
/-- a static call by the callee's own contract -/
theorem own_callS (X : Stand p l e R s m args below meth c T locs cells slots) (hx : p.tables.exec = Jvm.exec) (hZ : Z.Warmed39 s.vm) {own : String} {index : Nat} {y : MethodName} {bytes : ByteArray} {maxL : Nat} {ret : Option FieldType} {rm : Room} {as' : List Value} {Q : Option Value → Heap → List Loc → Prop} {Qf : Outcome → State → Prop}
    (hown : s.vm.findClass own = some m.cls) (w1 : (Jvm.Cond.methodLink own index y).before a0 Z = true) (w2 : (Jvm.Cond.static y).before a0 Z = true) (w3 : (Jvm.Cond.initialized y.cls).before a0 Z = true) (w4 : (Jvm.Cond.code y bytes maxL ret).before a0 Z = true)
    (hy : y.cls ≠ "java/lang/invoke/MethodHandle" ∧ y.cls ≠ "java/lang/invoke/VarHandle")
    (hM : MetFree l y (head1 [Jvm.Cond.code y bytes maxL ret] rm) (fun a U => a = as'.toArray ∧ Z.Warmed39 U.vm ∧ U.heap = h) (fun _ _ _ _ _ => True) (fun _ U o U' => ∃ v L, o = .returned v ∧ Q v U'.heap L ∧ FrameEnd U o U' L rm.cells rm.slots))
    (W : Nat) (hf : rm.frames + 1 ≤ R.frames) (hl : W + (maxL + 11) + rm.locals ≤ R.locals) (hc : cells + rm.cells ≤ R.cells) (hs : slots + rm.slots ≤ R.slots)
    {pc : Nat} {Ls : Array Slot} {stk rest : List Value} (hsize : Ls.size = c.maxLocals) (hlen : ∀ sig, parseMethodDescriptor y.desc = some sig → as'.length = sig.parameters.length) (hstack : stk = as'.reverse ++ rest) (hW : (rest.map fun v => v.category).sum ≤ W) (hd : decode c.code pc = .ok (.invokestatic index, 3)) (eT : T.heap = h)
    (k : ∀ T' L v, Stand p l e R s m args below meth c T' (locs ++ L) (cells + rm.cells) (slots + rm.slots) → Q v T'.heap L → own_Out p e below Qf (T'.setTop (mkF m (pc + 3) Ls (v.toList ++ rest)))) :
    own_Out p e below Qf (T.setTop (mkF m pc Ls stk)) := by
  obtain ⟨v, _, ⟨T', L', k', n'⟩, -, X', ⟨Lc, hQ, hl', hy', hz'⟩, st⟩ := Jvm.LawKit.callS X hx (y := y) hown (mvT hZ w1) (mvT hZ w2) (mvT hZ w3) (mvT hZ w4) hy (backOf (W := W) hM hZ w4 w3 hf hl) (g := mkF m pc Ls stk) rfl hsize (argsL := as') (rest := rest) hlen hstack (by show 2 * 0 + _ ≤ _; omega) hd (fun _ _ => ⟨rfl, eT, hc, hs⟩)
  dsimp only [Pt.U, Pt.locs, Pt.cells, Pt.slots] at X' hl' hy' hz' st hQ
  subst hl' hy' hz'
  exact own_st st (k _ _ _ X' hQ)
/-- an instance method by its own contract -/
theorem own_callV (X : Stand p l e R s m args below meth c T locs cells slots) (hx : p.tables.exec = Jvm.exec) (hZ : Z.Warmed39 s.vm) {own C : String} {index : Nat} {y : MethodName} {bytes : ByteArray} {maxL : Nat} {ret : Option FieldType} {rm : Room} {b : Addr} {as' : List Value} {Q : Option Value → Heap → List Loc → Prop} {Qf : Outcome → State → Prop}
    (hown : s.vm.findClass own = some m.cls) (w1 : (Jvm.Cond.methodLink own index y).before a0 Z = true) (w2 : (Jvm.Cond.declares y).before a0 Z = true) (w5 : (Jvm.Cond.selects C y y).before a0 Z = true) (w6 : (Jvm.Cond.instanceMethod y).before a0 Z = true) (w4 : (Jvm.Cond.code y bytes maxL ret).before a0 Z = true) (w3 : (Jvm.Cond.initialized y.cls).before a0 Z = true)
    (hy : y.cls ≠ "java/lang/invoke/MethodHandle" ∧ y.cls ≠ "java/lang/invoke/VarHandle")
    (hM : MetFree l y (head1 [Jvm.Cond.code y bytes maxL ret] rm) (fun a U => a = (.ref b :: as').toArray ∧ Z.Warmed39 U.vm ∧ U.heap = h) (fun _ _ _ _ _ => True) (fun _ U o U' => ∃ v L, o = .returned v ∧ Q v U'.heap L ∧ FrameEnd U o U' L rm.cells rm.slots))
    (E : Exa Z h b C)
    (W : Nat) (hf : rm.frames + 1 ≤ R.frames) (hl : W + (maxL + 11) + rm.locals ≤ R.locals) (hc : cells + rm.cells ≤ R.cells) (hs : slots + rm.slots ≤ R.slots)
    {pc : Nat} {Ls : Array Slot} {stk rest : List Value} (hsize : Ls.size = c.maxLocals) (hlen : ∀ sig, parseMethodDescriptor y.desc = some sig → as'.length = sig.parameters.length) (hstack : stk = as'.reverse ++ .ref b :: rest) (hW : (rest.map fun v => v.category).sum ≤ W) (hd : decode c.code pc = .ok (.invokevirtual index, 3)) (eT : T.heap = h)
    (k : ∀ T' L v, Stand p l e R s m args below meth c T' (locs ++ L) (cells + rm.cells) (slots + rm.slots) → Q v T'.heap L → own_Out p e below Qf (T'.setTop (mkF m (pc + 3) Ls (v.toList ++ rest)))) :
    own_Out p e below Qf (T.setTop (mkF m pc Ls stk)) := by
  obtain ⟨cq, kq, qa, qb, qc⟩ := isOf hZ eT E
  obtain ⟨v, _, ⟨T', L', k', n'⟩, -, X', ⟨Lc, hQ, hl', hy', hz'⟩, st⟩ := X.virtualBack hx (y := y) (z := y) hown (mvT hZ w1) (mvT hZ w2) (notFace_of_selects (args := #[]) (mvT hZ w5)) (mvT hZ w5) (mvT hZ w6) hy (backOf (W := W) hM hZ w4 w3 hf hl) qa qc (g := mkF m pc Ls stk) rfl hsize (Steps.refl _) (argsL := as') (rest := rest) hlen hstack (by show 2 * 0 + _ ≤ _; omega) hd (fun _ _ => ⟨rfl, eT, hc, hs⟩)
  dsimp only [Pt.U, Pt.locs, Pt.cells, Pt.slots] at X' hl' hy' hz' st hQ
  subst hl' hy' hz'
  exact own_tr st (k _ _ _ X' hQ)
/-- a constructor by its own contract -/
theorem own_callI (X : Stand p l e R s m args below meth c T locs cells slots) (hx : p.tables.exec = Jvm.exec) (hZ : Z.Warmed39 s.vm) {own : String} {index : Nat} {y : MethodName} {bytes : ByteArray} {maxL : Nat} {rm : Room} {b : Addr} {as' : List Value} {Q : Option Value → Heap → List Loc → Prop} {Qf : Outcome → State → Prop} (hy1 : y.name = "<init>")
    (hown : s.vm.findClass own = some m.cls) (w1 : (Jvm.Cond.methodLink own index y).before a0 Z = true) (w6 : (Jvm.Cond.instanceMethod y).before a0 Z = true) (w4 : (Jvm.Cond.code y bytes maxL none).before a0 Z = true) (w3 : (Jvm.Cond.initialized y.cls).before a0 Z = true)
    (hy : y.cls ≠ "java/lang/invoke/MethodHandle" ∧ y.cls ≠ "java/lang/invoke/VarHandle")
    (hM : MetFree l y (head1 [Jvm.Cond.code y bytes maxL none] rm) (fun a U => a = (.ref b :: as').toArray ∧ Z.Warmed39 U.vm ∧ U.heap = h) (fun _ _ _ _ _ => True) (fun _ U o U' => ∃ v L, o = .returned v ∧ Q v U'.heap L ∧ FrameEnd U o U' L rm.cells rm.slots))
    (W : Nat) (hf : rm.frames + 1 ≤ R.frames) (hl : W + (maxL + 11) + rm.locals ≤ R.locals) (hc : cells + rm.cells ≤ R.cells) (hs : slots + rm.slots ≤ R.slots)
    {pc : Nat} {Ls : Array Slot} {stk rest : List Value} (hsize : Ls.size = c.maxLocals) (hlen : ∀ sig, parseMethodDescriptor y.desc = some sig → as'.length = sig.parameters.length) (hstack : stk = as'.reverse ++ .ref b :: rest) (hW : (rest.map fun v => v.category).sum ≤ W) (hd : decode c.code pc = .ok (.invokespecial index, 3)) (eT : T.heap = h)
    (k : ∀ T' L v, Stand p l e R s m args below meth c T' (locs ++ L) (cells + rm.cells) (slots + rm.slots) → Q v T'.heap L → own_Out p e below Qf (T'.setTop (mkF m (pc + 3) Ls (v.toList ++ rest)))) :
    own_Out p e below Qf (T.setTop (mkF m pc Ls stk)) := by
  obtain ⟨v, _, ⟨T', L', k', n'⟩, -, X', ⟨Lc, hQ, hl', hy', hz'⟩, st⟩ := X.specialBack hx (y := y) hy1 hown (mvT hZ w1) (mvT hZ w6) (mvT hZ w4) hy (backOf (W := W) hM hZ w4 w3 hf hl) (g := mkF m pc Ls stk) rfl hsize (Steps.refl _) (a := b) (argsL := as') (rest := rest) hlen hstack (by show 2 * 0 + _ ≤ _; omega) hd (fun _ _ => ⟨rfl, eT, hc, hs⟩)
  dsimp only [Pt.U, Pt.locs, Pt.cells, Pt.slots] at X' hl' hy' hz' st hQ
  subst hl' hy' hz'
  exact own_tr st (k _ _ _ X' hQ)
theorem own_fits {C : String} {v : Value} (h : v.isRef = true) : fits (.object C) v = true := by cases v <;> first | rfl | cases h
theorem own_narO {C : String} {v : Value} (h : v.isRef = true) : narrow (.object C) v = v := by cases v <;> first | rfl | cases h
theorem own_nf {y y' : MethodName} (hc : y'.cls = y.cls) (h : NotFace s y) (hi : (Jvm.Cond.instanceMethod y).before a0 s = true) : NotFace s y' := fun r0 h0 => by
  obtain ⟨mk, methM, hnamed, -⟩ := Cond.instanceMethod_spec hi
  have h1 := findClass_of_methodNamed hnamed
  have h2 := findClass_of_methodNamed h0
  rw [hc, h1] at h2
  have h3 := Option.some.inj h2
  rw [← h3]
  exact h mk hnamed
/-- a private method (invokevirtual) by its own contract -/
theorem own_callP (X : Stand p l e R s m args below meth c T locs cells slots) (hx : p.tables.exec = Jvm.exec) (hZ : Z.Warmed39 s.vm) {own C : String} {index : Nat} {y : MethodName} {bytes : ByteArray} {maxL : Nat} {ret : Option FieldType} {rm : Room} {b : Addr} {as' : List Value} {Q : Option Value → Heap → List Loc → Prop} {Qf : Outcome → State → Prop}
    (hown : s.vm.findClass own = some m.cls) (w1 : (Jvm.Cond.methodLink own index y).before a0 Z = true) (w6 : (Jvm.Cond.instanceMethod y).before a0 Z = true) (w8 : (Jvm.Cond.privateMethod y).before a0 Z = true) (w4 : (Jvm.Cond.code y bytes maxL ret).before a0 Z = true) (w3 : (Jvm.Cond.initialized y.cls).before a0 Z = true) (hnf : NotFace s y)
    (hy : y.cls ≠ "java/lang/invoke/MethodHandle" ∧ y.cls ≠ "java/lang/invoke/VarHandle")
    (hM : MetFree l y (head1 [Jvm.Cond.code y bytes maxL ret] rm) (fun a U => a = (.ref b :: as').toArray ∧ Z.Warmed39 U.vm ∧ U.heap = h) (fun _ _ _ _ _ => True) (fun _ U o U' => ∃ v L, o = .returned v ∧ Q v U'.heap L ∧ FrameEnd U o U' L rm.cells rm.slots))
    (E : Exa Z h b C)
    (W : Nat) (hf : rm.frames + 1 ≤ R.frames) (hl : W + (maxL + 11) + rm.locals ≤ R.locals) (hc : cells + rm.cells ≤ R.cells) (hs : slots + rm.slots ≤ R.slots)
    {pc : Nat} {Ls : Array Slot} {stk rest : List Value} (hsize : Ls.size = c.maxLocals) (hlen : ∀ sig, parseMethodDescriptor y.desc = some sig → as'.length = sig.parameters.length) (hstack : stk = as'.reverse ++ .ref b :: rest) (hW : (rest.map fun v => v.category).sum ≤ W) (hd : decode c.code pc = .ok (.invokevirtual index, 3)) (eT : T.heap = h)
    (k : ∀ T' L v, Stand p l e R s m args below meth c T' (locs ++ L) (cells + rm.cells) (slots + rm.slots) → Q v T'.heap L → own_Out p e below Qf (T'.setTop (mkF m (pc + 3) Ls (v.toList ++ rest)))) :
    own_Out p e below Qf (T.setTop (mkF m pc Ls stk)) := by
  obtain ⟨mk, methM, hnamed, hmethM, hstM, habM⟩ := Cond.instanceMethod_spec (mvT (args := args) hZ w6)
  obtain ⟨methM', cM, hmethM', -, -, -, -, -, -, hsigM⟩ := Cond.code_spec hnamed (mvT (args := args) hZ w4)
  cases hmethM.symm.trans hmethM'
  obtain ⟨kP, hkP, hkPi⟩ := hnf mk hnamed
  obtain ⟨cell, hcell, hobj⟩ := E.cell
  have hselP : selectMethod e.platform s.vm cell.cls mk = .method mk := selectMethod_private hmethM (Cond.privateMethod_at (mvP hZ w8 (args := #[])) mk methM hnamed hmethM)
  obtain ⟨vm₁, X₁, hstep₁⟩ := X.invokevirtual hx hown (mvT hZ w1) hnamed hmethM hstM hkP hkPi hy (a := b) (cell := cell) (by rw [eT]; exact hcell) hobj hselP hmethM habM hkP hkPi (g := mkF m pc Ls stk) rfl (argsL := as') (rest := rest) (hlen _ hsigM) hstack hd
  obtain ⟨v, ⟨T', L', k', n'⟩, X', ⟨Lc, hQ, hl', hy', hz'⟩, st⟩ := backOf (W := W) hM hZ w4 w3 hf hl m meth c ⟨T.setVm vm₁, locs, cells, slots⟩ { mkF m pc Ls stk with stack := rest } (.invokevirtual index) mk (.ref b :: as').toArray X₁ rfl hsize hd (by show 2 * 0 + (rest.map fun v => v.category).sum ≤ W; omega) (X₁.named hnamed) ⟨rfl, eT, hc, hs⟩
  dsimp only [Pt.U, Pt.locs, Pt.cells, Pt.slots] at X' hl' hy' hz' st hQ
  subst hl' hy' hz'
  exact own_st (fun target q => hstep₁ _ fun acts => by rw [doInvoke_state]; exact st.trans q) (k _ _ _ X' hQ)
end Own
end Jvm.RoadKit
namespace Jvm.Pilot.@@N@@
open Jvm Jvm.ClassFile Sem Op Lib Jvm.Free Jvm.Stand Jvm.LawKit Jvm.RoadKit Bundle Jvm.Pilot.@@N@@.Jvm.D
theorem own_w {Z : State} {a0 : Array Value} (hw : ∀ d ∈ tables_1, d.before a0 Z = true) {d : Jvm.Cond} (k : Nat) (h : tables_1[k]? = some d) : d.before a0 Z = true := hw _ (List.mem_of_getElem? h)
def own_digit (q k : Int64) : Int64 := ((48 : Int64) + ((q / k) - ((q / k) / (10 : Int64)) * (10 : Int64)))
theorem pn_own_rm1 : plainName "com/example/kennel/kennel/EightBytesDigitsValuePinLaw" = true := by first | (simp [plainName, overriddenIn]; done) | decide +kernel
theorem down_rm1_0 : decode method_2_code 0 = .ok (.ldc2_w 7, 3) := by decide +kernel
theorem down_rm1_3 : decode method_2_code 3 = .ok (.lload_n 0, 1) := by decide +kernel
theorem down_rm1_4 : decode method_2_code 4 = .ok (.lload_n 2, 1) := by decide +kernel
theorem down_rm1_5 : decode method_2_code 5 = .ok (.ldiv, 1) := by decide +kernel
theorem down_rm1_6 : decode method_2_code 6 = .ok (.ldc2_w 9, 3) := by decide +kernel
theorem down_rm1_9 : decode method_2_code 9 = .ok (.lrem, 1) := by decide +kernel
theorem down_rm1_10 : decode method_2_code 10 = .ok (.ladd, 1) := by decide +kernel
theorem down_rm1_11 : decode method_2_code 11 = .ok (.lreturn, 1) := by decide +kernel
def Q_own_rm1 (Z : State) (q : Int64) (k : Int64)  (h0 : Heap) (n0 : Nat) (v : Option Value) (h : Heap) (L : List Loc) : Prop := v = some (.long (own_digit q k)) ∧ L = [] ∧ h = h0
set_option maxRecDepth 65536 in
set_option maxHeartbeats 40000000 in
theorem own_rm1 (l : Launch) (Z : State) (a0 : Array Value) (hw : ∀ d ∈ tables_1, d.before a0 Z = true) (ws : List Jvm.Cond) (q : Int64) (k : Int64)  (h0 : Heap) (n0 : Nat) (hk : ¬ k = (0 : Int64)) :
    MetFree l (⟨"com/example/kennel/kennel/EightBytesDigitsValuePinLaw", "digitAt", "(JJ)J"⟩ : MethodName) (head1 (Jvm.Cond.code (⟨"com/example/kennel/kennel/EightBytesDigitsValuePinLaw", "digitAt", "(JJ)J"⟩ : MethodName) method_2_code 4 (some (.long)) :: ws) ({ frames := 0, cells := 0, slots := 0, locals := 0 } : Room)) (fun aa U => aa = #[(.long q), (.long k)] ∧ Z.Warmed39 U.vm ∧ U.heap = h0) (fun _ _ _ _ _ => True) (fun _ U o U' => ∃ v L, o = .returned v ∧ Q_own_rm1 Z q k h0 n0 v U'.heap L ∧ FrameEnd U o U' L ({ frames := 0, cells := 0, slots := 0, locals := 0 } : Room).cells ({ frames := 0, cells := 0, slots := 0, locals := 0 } : Room).slots) := by
  refine own_body (x := (⟨"com/example/kennel/kennel/EightBytesDigitsValuePinLaw", "digitAt", "(JJ)J"⟩ : MethodName)) (maxL := 4) (as' := #[(.long q), (.long k)]) (Q := Q_own_rm1 Z q k h0 n0) pn_own_rm1 #[.val (.long q), .second, .val (.long k), .second] (fun m => by first | rfl | (simp [entryFrame, mkF, argsToLocals, Value.category]; done)) ?_
  intro p e s m below meth c T0 X0 hx hby hml hret hlk hown hnm hZ e0
  replace hml : c.maxLocals = 4 := hml
  replace hown : s.vm.findClass "com/example/kennel/kennel/EightBytesDigitsValuePinLaw" = some m.cls := hown
  have N0 := Fr.nil n0
  refine own_st (G := T0.setTop (mkF m 3 #[.val (.long q), .second, .val (.long k), .second] [(.long (48 : Int64))])) (fun _ kk => X0.ldc2Long hx hown (mvT hZ (own_w hw 7 rfl)) (g := (mkF m 0 #[.val (.long q), .second, .val (.long k), .second] [])) rfl (hb hby down_rm1_0) _ kk) ?_
  refine own_st (G := T0.setTop (mkF m 4 #[.val (.long q), .second, .val (.long k), .second] [(.long q), (.long (48 : Int64))])) (fun _ kk => XS.lloadN X0.here hx rfl (hb hby down_rm1_3) rfl kk) ?_
  refine own_st (G := T0.setTop (mkF m 5 #[.val (.long q), .second, .val (.long k), .second] [(.long k), (.long q), (.long (48 : Int64))])) (fun _ kk => XS.lloadN X0.here hx rfl (hb hby down_rm1_4) rfl kk) ?_
  refine own_st (G := T0.setTop (mkF m 6 #[.val (.long q), .second, .val (.long k), .second] [(.long (q / k)), (.long (48 : Int64))])) (fun _ kk => XS.ldiv X0.here hx rfl (hb hby down_rm1_5) rfl hk kk) ?_
  refine own_st (G := T0.setTop (mkF m 9 #[.val (.long q), .second, .val (.long k), .second] [(.long (10 : Int64)), (.long (q / k)), (.long (48 : Int64))])) (fun _ kk => X0.ldc2Long hx hown (mvT hZ (own_w hw 8 rfl)) (g := (mkF m 6 #[.val (.long q), .second, .val (.long k), .second] [(.long (q / k)), (.long (48 : Int64))])) rfl (hb hby down_rm1_6) _ kk) ?_
  refine own_st (G := T0.setTop (mkF m 10 #[.val (.long q), .second, .val (.long k), .second] [(.long ((q / k) - ((q / k) / (10 : Int64)) * (10 : Int64))), (.long (48 : Int64))])) (fun _ kk => XS.lrem X0.here hx rfl (hb hby down_rm1_9) rfl (by decide) kk) ?_
  refine own_st (G := T0.setTop (mkF m 11 #[.val (.long q), .second, .val (.long k), .second] [(.long ((48 : Int64) + ((q / k) - ((q / k) / (10 : Int64)) * (10 : Int64))))])) (fun _ kk => XS.ladd X0.here hx rfl (hb hby down_rm1_10) rfl kk) ?_
  refine own_retJ X0 hx hret hlk (hb hby down_rm1_11) (by decide) (by decide) ?_
  exact ⟨rfl, rfl, e0⟩
def own_a (q : Int64) : Int64 := (q - (3472328296227680304 : Int64))
def own_c (q : Int64) : Int64 := ((((own_a q) * (10 : Int64)) + (XT.ushrL (own_a q) (8 : Int32))) &&& (71777214294589695 : Int64))
def own_e (q : Int64) : Int64 := ((((own_c q) * (100 : Int64)) + (XT.ushrL (own_c q) (16 : Int32))) &&& (281470681808895 : Int64))
def own_value (q : Int64) : Int64 := ((((own_e q) * (10000 : Int64)) + (XT.ushrL (own_e q) (32 : Int32))) &&& (4294967295 : Int64))
theorem pn_own_rm2 : plainName "com/example/kennel/kennel/EightBytes" = true := by first | (simp [plainName, overriddenIn]; done) | decide +kernel
theorem down_rm2_0 : decode prog_11_method_9_code 0 = .ok (.lload_n 0, 1) := by decide +kernel
theorem down_rm2_1 : decode prog_11_method_9_code 1 = .ok (.ldc2_w 57, 3) := by decide +kernel
theorem down_rm2_4 : decode prog_11_method_9_code 4 = .ok (.lsub, 1) := by decide +kernel
theorem down_rm2_5 : decode prog_11_method_9_code 5 = .ok (.lstore_n 2, 1) := by decide +kernel
theorem down_rm2_6 : decode prog_11_method_9_code 6 = .ok (.lload_n 2, 1) := by decide +kernel
theorem down_rm2_7 : decode prog_11_method_9_code 7 = .ok (.ldc2_w 61, 3) := by decide +kernel
theorem down_rm2_10 : decode prog_11_method_9_code 10 = .ok (.lmul, 1) := by decide +kernel
theorem down_rm2_11 : decode prog_11_method_9_code 11 = .ok (.lload_n 2, 1) := by decide +kernel
theorem down_rm2_12 : decode prog_11_method_9_code 12 = .ok (.bipush 8, 2) := by decide +kernel
theorem down_rm2_14 : decode prog_11_method_9_code 14 = .ok (.lushr, 1) := by decide +kernel
theorem down_rm2_15 : decode prog_11_method_9_code 15 = .ok (.ladd, 1) := by decide +kernel
theorem down_rm2_16 : decode prog_11_method_9_code 16 = .ok (.ldc2_w 63, 3) := by decide +kernel
theorem down_rm2_19 : decode prog_11_method_9_code 19 = .ok (.land, 1) := by decide +kernel
theorem down_rm2_20 : decode prog_11_method_9_code 20 = .ok (.lstore 4, 2) := by decide +kernel
theorem down_rm2_22 : decode prog_11_method_9_code 22 = .ok (.lload 4, 2) := by decide +kernel
theorem down_rm2_24 : decode prog_11_method_9_code 24 = .ok (.ldc2_w 65, 3) := by decide +kernel
theorem down_rm2_27 : decode prog_11_method_9_code 27 = .ok (.lmul, 1) := by decide +kernel
theorem down_rm2_28 : decode prog_11_method_9_code 28 = .ok (.lload 4, 2) := by decide +kernel
theorem down_rm2_30 : decode prog_11_method_9_code 30 = .ok (.bipush 16, 2) := by decide +kernel
theorem down_rm2_32 : decode prog_11_method_9_code 32 = .ok (.lushr, 1) := by decide +kernel
theorem down_rm2_33 : decode prog_11_method_9_code 33 = .ok (.ladd, 1) := by decide +kernel
theorem down_rm2_34 : decode prog_11_method_9_code 34 = .ok (.ldc2_w 67, 3) := by decide +kernel
theorem down_rm2_37 : decode prog_11_method_9_code 37 = .ok (.land, 1) := by decide +kernel
theorem down_rm2_38 : decode prog_11_method_9_code 38 = .ok (.lstore 6, 2) := by decide +kernel
theorem down_rm2_40 : decode prog_11_method_9_code 40 = .ok (.lload 6, 2) := by decide +kernel
theorem down_rm2_42 : decode prog_11_method_9_code 42 = .ok (.ldc2_w 69, 3) := by decide +kernel
theorem down_rm2_45 : decode prog_11_method_9_code 45 = .ok (.lmul, 1) := by decide +kernel
theorem down_rm2_46 : decode prog_11_method_9_code 46 = .ok (.lload 6, 2) := by decide +kernel
theorem down_rm2_48 : decode prog_11_method_9_code 48 = .ok (.bipush 32, 2) := by decide +kernel
theorem down_rm2_50 : decode prog_11_method_9_code 50 = .ok (.lushr, 1) := by decide +kernel
theorem down_rm2_51 : decode prog_11_method_9_code 51 = .ok (.ladd, 1) := by decide +kernel
theorem down_rm2_52 : decode prog_11_method_9_code 52 = .ok (.ldc2_w 71, 3) := by decide +kernel
theorem down_rm2_55 : decode prog_11_method_9_code 55 = .ok (.land, 1) := by decide +kernel
theorem down_rm2_56 : decode prog_11_method_9_code 56 = .ok (.lreturn, 1) := by decide +kernel
def Q_own_rm2 (Z : State) (q : Int64)  (h0 : Heap) (n0 : Nat) (v : Option Value) (h : Heap) (L : List Loc) : Prop := v = some (.long (own_value q)) ∧ L = [] ∧ h = h0
set_option maxRecDepth 65536 in
set_option maxHeartbeats 40000000 in
theorem own_rm2 (l : Launch) (Z : State) (a0 : Array Value) (hw : ∀ d ∈ tables_1, d.before a0 Z = true) (ws : List Jvm.Cond) (q : Int64)  (h0 : Heap) (n0 : Nat)  :
    MetFree l (⟨"com/example/kennel/kennel/EightBytes", "digitsValue", "(J)J"⟩ : MethodName) (head1 (Jvm.Cond.code (⟨"com/example/kennel/kennel/EightBytes", "digitsValue", "(J)J"⟩ : MethodName) prog_11_method_9_code 8 (some (.long)) :: ws) ({ frames := 0, cells := 0, slots := 0, locals := 0 } : Room)) (fun aa U => aa = #[(.long q)] ∧ Z.Warmed39 U.vm ∧ U.heap = h0) (fun _ _ _ _ _ => True) (fun _ U o U' => ∃ v L, o = .returned v ∧ Q_own_rm2 Z q h0 n0 v U'.heap L ∧ FrameEnd U o U' L ({ frames := 0, cells := 0, slots := 0, locals := 0 } : Room).cells ({ frames := 0, cells := 0, slots := 0, locals := 0 } : Room).slots) := by
  refine own_body (x := (⟨"com/example/kennel/kennel/EightBytes", "digitsValue", "(J)J"⟩ : MethodName)) (maxL := 8) (as' := #[(.long q)]) (Q := Q_own_rm2 Z q h0 n0) pn_own_rm2 #[.val (.long q), .second, .unset, .unset, .unset, .unset, .unset, .unset] (fun m => by first | rfl | (simp [entryFrame, mkF, argsToLocals, Value.category]; done)) ?_
  intro p e s m below meth c T0 X0 hx hby hml hret hlk hown hnm hZ e0
  replace hml : c.maxLocals = 8 := hml
  replace hown : s.vm.findClass "com/example/kennel/kennel/EightBytes" = some m.cls := hown
  have N0 := Fr.nil n0
  refine own_st (G := T0.setTop (mkF m 1 #[.val (.long q), .second, .unset, .unset, .unset, .unset, .unset, .unset] [(.long q)])) (fun _ kk => XS.lloadN X0.here hx rfl (hb hby down_rm2_0) rfl kk) ?_
  refine own_st (G := T0.setTop (mkF m 4 #[.val (.long q), .second, .unset, .unset, .unset, .unset, .unset, .unset] [(.long (3472328296227680304 : Int64)), (.long q)])) (fun _ kk => X0.ldc2Long hx hown (mvT hZ (own_w hw 18 rfl)) (g := (mkF m 1 #[.val (.long q), .second, .unset, .unset, .unset, .unset, .unset, .unset] [(.long q)])) rfl (hb hby down_rm2_1) _ kk) ?_
  refine own_st (G := T0.setTop (mkF m 5 #[.val (.long q), .second, .unset, .unset, .unset, .unset, .unset, .unset] [(.long (q - (3472328296227680304 : Int64)))])) (fun _ kk => XS.lsub X0.here hx rfl (hb hby down_rm2_4) rfl kk) ?_
  show own_Out _ _ _ _ (T0.setTop (mkF m 5 #[.val (.long q), .second, .unset, .unset, .unset, .unset, .unset, .unset] [(.long (own_a q))]))
  refine own_st (G := T0.setTop (mkF m 6 #[.val (.long q), .second, .val (.long (own_a q)), .second, .unset, .unset, .unset, .unset] [])) (fun _ kk => XS.lstoreN X0.here hx rfl (hb hby down_rm2_5) rfl (l' := #[.val (.long q), .second, .val (.long (own_a q)), .second, .unset, .unset, .unset, .unset]) rfl kk) ?_
  refine own_st (G := T0.setTop (mkF m 7 #[.val (.long q), .second, .val (.long (own_a q)), .second, .unset, .unset, .unset, .unset] [(.long (own_a q))])) (fun _ kk => XS.lloadN X0.here hx rfl (hb hby down_rm2_6) rfl kk) ?_
  refine own_st (G := T0.setTop (mkF m 10 #[.val (.long q), .second, .val (.long (own_a q)), .second, .unset, .unset, .unset, .unset] [(.long (10 : Int64)), (.long (own_a q))])) (fun _ kk => X0.ldc2Long hx hown (mvT hZ (own_w hw 19 rfl)) (g := (mkF m 7 #[.val (.long q), .second, .val (.long (own_a q)), .second, .unset, .unset, .unset, .unset] [(.long (own_a q))])) rfl (hb hby down_rm2_7) _ kk) ?_
  refine own_st (G := T0.setTop (mkF m 11 #[.val (.long q), .second, .val (.long (own_a q)), .second, .unset, .unset, .unset, .unset] [(.long ((own_a q) * (10 : Int64)))])) (fun _ kk => XS.lmul X0.here hx rfl (hb hby down_rm2_10) rfl kk) ?_
  refine own_st (G := T0.setTop (mkF m 12 #[.val (.long q), .second, .val (.long (own_a q)), .second, .unset, .unset, .unset, .unset] [(.long (own_a q)), (.long ((own_a q) * (10 : Int64)))])) (fun _ kk => XS.lloadN X0.here hx rfl (hb hby down_rm2_11) rfl kk) ?_
  refine own_st (G := T0.setTop (mkF m 14 #[.val (.long q), .second, .val (.long (own_a q)), .second, .unset, .unset, .unset, .unset] [(.int (8 : Int32)), (.long (own_a q)), (.long ((own_a q) * (10 : Int64)))])) (fun _ kk => XT.bipushV X0.here hx rfl (8 : Int32) (hb hby down_rm2_12) (by decide) kk) ?_
  refine own_st (G := T0.setTop (mkF m 15 #[.val (.long q), .second, .val (.long (own_a q)), .second, .unset, .unset, .unset, .unset] [(.long (XT.ushrL (own_a q) (8 : Int32))), (.long ((own_a q) * (10 : Int64)))])) (fun _ kk => XT.lushr X0.here hx rfl (hb hby down_rm2_14) rfl kk) ?_
  refine own_st (G := T0.setTop (mkF m 16 #[.val (.long q), .second, .val (.long (own_a q)), .second, .unset, .unset, .unset, .unset] [(.long (((own_a q) * (10 : Int64)) + (XT.ushrL (own_a q) (8 : Int32))))])) (fun _ kk => XS.ladd X0.here hx rfl (hb hby down_rm2_15) rfl kk) ?_
  refine own_st (G := T0.setTop (mkF m 19 #[.val (.long q), .second, .val (.long (own_a q)), .second, .unset, .unset, .unset, .unset] [(.long (71777214294589695 : Int64)), (.long (((own_a q) * (10 : Int64)) + (XT.ushrL (own_a q) (8 : Int32))))])) (fun _ kk => X0.ldc2Long hx hown (mvT hZ (own_w hw 20 rfl)) (g := (mkF m 16 #[.val (.long q), .second, .val (.long (own_a q)), .second, .unset, .unset, .unset, .unset] [(.long (((own_a q) * (10 : Int64)) + (XT.ushrL (own_a q) (8 : Int32))))])) rfl (hb hby down_rm2_16) _ kk) ?_
  refine own_st (G := T0.setTop (mkF m 20 #[.val (.long q), .second, .val (.long (own_a q)), .second, .unset, .unset, .unset, .unset] [(.long ((((own_a q) * (10 : Int64)) + (XT.ushrL (own_a q) (8 : Int32))) &&& (71777214294589695 : Int64)))])) (fun _ kk => XS.land X0.here hx rfl (hb hby down_rm2_19) rfl kk) ?_
  show own_Out _ _ _ _ (T0.setTop (mkF m 20 #[.val (.long q), .second, .val (.long (own_a q)), .second, .unset, .unset, .unset, .unset] [(.long (own_c q))]))
  refine own_st (G := T0.setTop (mkF m 22 #[.val (.long q), .second, .val (.long (own_a q)), .second, .val (.long (own_c q)), .second, .unset, .unset] [])) (fun _ kk => XS.lstore X0.here hx rfl (hb hby down_rm2_20) rfl (l' := #[.val (.long q), .second, .val (.long (own_a q)), .second, .val (.long (own_c q)), .second, .unset, .unset]) rfl kk) ?_
  refine own_st (G := T0.setTop (mkF m 24 #[.val (.long q), .second, .val (.long (own_a q)), .second, .val (.long (own_c q)), .second, .unset, .unset] [(.long (own_c q))])) (fun _ kk => XS.lload X0.here hx rfl (hb hby down_rm2_22) rfl kk) ?_
  refine own_st (G := T0.setTop (mkF m 27 #[.val (.long q), .second, .val (.long (own_a q)), .second, .val (.long (own_c q)), .second, .unset, .unset] [(.long (100 : Int64)), (.long (own_c q))])) (fun _ kk => X0.ldc2Long hx hown (mvT hZ (own_w hw 21 rfl)) (g := (mkF m 24 #[.val (.long q), .second, .val (.long (own_a q)), .second, .val (.long (own_c q)), .second, .unset, .unset] [(.long (own_c q))])) rfl (hb hby down_rm2_24) _ kk) ?_
  refine own_st (G := T0.setTop (mkF m 28 #[.val (.long q), .second, .val (.long (own_a q)), .second, .val (.long (own_c q)), .second, .unset, .unset] [(.long ((own_c q) * (100 : Int64)))])) (fun _ kk => XS.lmul X0.here hx rfl (hb hby down_rm2_27) rfl kk) ?_
  refine own_st (G := T0.setTop (mkF m 30 #[.val (.long q), .second, .val (.long (own_a q)), .second, .val (.long (own_c q)), .second, .unset, .unset] [(.long (own_c q)), (.long ((own_c q) * (100 : Int64)))])) (fun _ kk => XS.lload X0.here hx rfl (hb hby down_rm2_28) rfl kk) ?_
  refine own_st (G := T0.setTop (mkF m 32 #[.val (.long q), .second, .val (.long (own_a q)), .second, .val (.long (own_c q)), .second, .unset, .unset] [(.int (16 : Int32)), (.long (own_c q)), (.long ((own_c q) * (100 : Int64)))])) (fun _ kk => XT.bipushV X0.here hx rfl (16 : Int32) (hb hby down_rm2_30) (by decide) kk) ?_
  refine own_st (G := T0.setTop (mkF m 33 #[.val (.long q), .second, .val (.long (own_a q)), .second, .val (.long (own_c q)), .second, .unset, .unset] [(.long (XT.ushrL (own_c q) (16 : Int32))), (.long ((own_c q) * (100 : Int64)))])) (fun _ kk => XT.lushr X0.here hx rfl (hb hby down_rm2_32) rfl kk) ?_
  refine own_st (G := T0.setTop (mkF m 34 #[.val (.long q), .second, .val (.long (own_a q)), .second, .val (.long (own_c q)), .second, .unset, .unset] [(.long (((own_c q) * (100 : Int64)) + (XT.ushrL (own_c q) (16 : Int32))))])) (fun _ kk => XS.ladd X0.here hx rfl (hb hby down_rm2_33) rfl kk) ?_
  refine own_st (G := T0.setTop (mkF m 37 #[.val (.long q), .second, .val (.long (own_a q)), .second, .val (.long (own_c q)), .second, .unset, .unset] [(.long (281470681808895 : Int64)), (.long (((own_c q) * (100 : Int64)) + (XT.ushrL (own_c q) (16 : Int32))))])) (fun _ kk => X0.ldc2Long hx hown (mvT hZ (own_w hw 22 rfl)) (g := (mkF m 34 #[.val (.long q), .second, .val (.long (own_a q)), .second, .val (.long (own_c q)), .second, .unset, .unset] [(.long (((own_c q) * (100 : Int64)) + (XT.ushrL (own_c q) (16 : Int32))))])) rfl (hb hby down_rm2_34) _ kk) ?_
  refine own_st (G := T0.setTop (mkF m 38 #[.val (.long q), .second, .val (.long (own_a q)), .second, .val (.long (own_c q)), .second, .unset, .unset] [(.long ((((own_c q) * (100 : Int64)) + (XT.ushrL (own_c q) (16 : Int32))) &&& (281470681808895 : Int64)))])) (fun _ kk => XS.land X0.here hx rfl (hb hby down_rm2_37) rfl kk) ?_
  show own_Out _ _ _ _ (T0.setTop (mkF m 38 #[.val (.long q), .second, .val (.long (own_a q)), .second, .val (.long (own_c q)), .second, .unset, .unset] [(.long (own_e q))]))
  refine own_st (G := T0.setTop (mkF m 40 #[.val (.long q), .second, .val (.long (own_a q)), .second, .val (.long (own_c q)), .second, .val (.long (own_e q)), .second] [])) (fun _ kk => XS.lstore X0.here hx rfl (hb hby down_rm2_38) rfl (l' := #[.val (.long q), .second, .val (.long (own_a q)), .second, .val (.long (own_c q)), .second, .val (.long (own_e q)), .second]) rfl kk) ?_
  refine own_st (G := T0.setTop (mkF m 42 #[.val (.long q), .second, .val (.long (own_a q)), .second, .val (.long (own_c q)), .second, .val (.long (own_e q)), .second] [(.long (own_e q))])) (fun _ kk => XS.lload X0.here hx rfl (hb hby down_rm2_40) rfl kk) ?_
  refine own_st (G := T0.setTop (mkF m 45 #[.val (.long q), .second, .val (.long (own_a q)), .second, .val (.long (own_c q)), .second, .val (.long (own_e q)), .second] [(.long (10000 : Int64)), (.long (own_e q))])) (fun _ kk => X0.ldc2Long hx hown (mvT hZ (own_w hw 23 rfl)) (g := (mkF m 42 #[.val (.long q), .second, .val (.long (own_a q)), .second, .val (.long (own_c q)), .second, .val (.long (own_e q)), .second] [(.long (own_e q))])) rfl (hb hby down_rm2_42) _ kk) ?_
  refine own_st (G := T0.setTop (mkF m 46 #[.val (.long q), .second, .val (.long (own_a q)), .second, .val (.long (own_c q)), .second, .val (.long (own_e q)), .second] [(.long ((own_e q) * (10000 : Int64)))])) (fun _ kk => XS.lmul X0.here hx rfl (hb hby down_rm2_45) rfl kk) ?_
  refine own_st (G := T0.setTop (mkF m 48 #[.val (.long q), .second, .val (.long (own_a q)), .second, .val (.long (own_c q)), .second, .val (.long (own_e q)), .second] [(.long (own_e q)), (.long ((own_e q) * (10000 : Int64)))])) (fun _ kk => XS.lload X0.here hx rfl (hb hby down_rm2_46) rfl kk) ?_
  refine own_st (G := T0.setTop (mkF m 50 #[.val (.long q), .second, .val (.long (own_a q)), .second, .val (.long (own_c q)), .second, .val (.long (own_e q)), .second] [(.int (32 : Int32)), (.long (own_e q)), (.long ((own_e q) * (10000 : Int64)))])) (fun _ kk => XT.bipushV X0.here hx rfl (32 : Int32) (hb hby down_rm2_48) (by decide) kk) ?_
  refine own_st (G := T0.setTop (mkF m 51 #[.val (.long q), .second, .val (.long (own_a q)), .second, .val (.long (own_c q)), .second, .val (.long (own_e q)), .second] [(.long (XT.ushrL (own_e q) (32 : Int32))), (.long ((own_e q) * (10000 : Int64)))])) (fun _ kk => XT.lushr X0.here hx rfl (hb hby down_rm2_50) rfl kk) ?_
  refine own_st (G := T0.setTop (mkF m 52 #[.val (.long q), .second, .val (.long (own_a q)), .second, .val (.long (own_c q)), .second, .val (.long (own_e q)), .second] [(.long (((own_e q) * (10000 : Int64)) + (XT.ushrL (own_e q) (32 : Int32))))])) (fun _ kk => XS.ladd X0.here hx rfl (hb hby down_rm2_51) rfl kk) ?_
  refine own_st (G := T0.setTop (mkF m 55 #[.val (.long q), .second, .val (.long (own_a q)), .second, .val (.long (own_c q)), .second, .val (.long (own_e q)), .second] [(.long (4294967295 : Int64)), (.long (((own_e q) * (10000 : Int64)) + (XT.ushrL (own_e q) (32 : Int32))))])) (fun _ kk => X0.ldc2Long hx hown (mvT hZ (own_w hw 24 rfl)) (g := (mkF m 52 #[.val (.long q), .second, .val (.long (own_a q)), .second, .val (.long (own_c q)), .second, .val (.long (own_e q)), .second] [(.long (((own_e q) * (10000 : Int64)) + (XT.ushrL (own_e q) (32 : Int32))))])) rfl (hb hby down_rm2_52) _ kk) ?_
  refine own_st (G := T0.setTop (mkF m 56 #[.val (.long q), .second, .val (.long (own_a q)), .second, .val (.long (own_c q)), .second, .val (.long (own_e q)), .second] [(.long ((((own_e q) * (10000 : Int64)) + (XT.ushrL (own_e q) (32 : Int32))) &&& (4294967295 : Int64)))])) (fun _ kk => XS.land X0.here hx rfl (hb hby down_rm2_55) rfl kk) ?_
  refine own_retJ X0 hx hret hlk (hb hby down_rm2_56) (by decide) (by decide) ?_
  exact ⟨rfl, rfl, e0⟩
/-- the bits of a long, as a number -/
def own_N (x : Int64) : Nat := x.toBitVec.toNat
theorem own_N_lt (x : Int64) : own_N x < 18446744073709551616 := x.toBitVec.isLt
theorem own_N_inj {x y : Int64} (h : own_N x = own_N y) : x = y := Int64.toBitVec_inj.mp (BitVec.eq_of_toNat_eq h)
theorem own_N_add (x y : Int64) : own_N (x + y) = (own_N x + own_N y) % 18446744073709551616 := by
  show (x + y).toBitVec.toNat = _
  rw [Int64.toBitVec_add, BitVec.toNat_add]; rfl
theorem own_N_sub (x y : Int64) : own_N (x - y) = (18446744073709551616 - own_N y + own_N x) % 18446744073709551616 := by
  show (x - y).toBitVec.toNat = _
  rw [Int64.toBitVec_sub, BitVec.toNat_sub]; rfl
theorem own_N_mul (x y : Int64) : own_N (x * y) = (own_N x * own_N y) % 18446744073709551616 := by
  show (x * y).toBitVec.toNat = _
  rw [Int64.toBitVec_mul, BitVec.toNat_mul]; rfl
theorem own_N_and (x y : Int64) : own_N (x &&& y) = own_N x &&& own_N y := by
  show (x &&& y).toBitVec.toNat = _
  rw [Int64.toBitVec_and, BitVec.toNat_and]; rfl
theorem own_N_or (x y : Int64) : own_N (x ||| y) = own_N x ||| own_N y := by
  show (x ||| y).toBitVec.toNat = _
  rw [Int64.toBitVec_or, BitVec.toNat_or]; rfl
theorem own_N_shl (x n : Int64) {k : Nat} (hn : (n.toBitVec.smod 64).toNat = k) : own_N (x <<< n) = (own_N x * 2 ^ k) % 18446744073709551616 := by
  show (x <<< n).toBitVec.toNat = _
  rw [Int64.toBitVec_shiftLeft, BitVec.shiftLeft_eq', BitVec.toNat_shiftLeft, hn, Nat.shiftLeft_eq]; rfl
theorem own_ushr_eq (x : Int64) (n : Int32) : XT.ushrL x n = (x.toUInt64 >>> (n.toInt64.toUInt64 &&& Int64.toUInt64 63)).toInt64 := rfl
theorem own_N_ushr (x : Int64) (n : Int32) {k : Nat} (hn : (n.toInt64.toUInt64 &&& Int64.toUInt64 63).toNat % 64 = k) : own_N (XT.ushrL x n) = own_N x / 2 ^ k := by
  rw [own_ushr_eq]
  show (x.toUInt64 >>> (n.toInt64.toUInt64 &&& Int64.toUInt64 63)).toNat = _
  rw [UInt64.toNat_shiftRight, hn, Nat.shiftRight_eq_div_pow]; rfl
theorem own_N_int {x : Int64} (h : 0 ≤ x.toInt) : (own_N x : Int) = x.toInt := by
  have e : x.toInt = if 2 * own_N x < 2 ^ 64 then (own_N x : Int) else (own_N x : Int) - (2 ^ 64 : Nat) := BitVec.toInt_eq_toNat_cond x.toBitVec
  have := own_N_lt x
  split at e
  · exact e.symm
  · rw [e] at h; omega
theorem own_and (k a b m n : Nat) (ha : a < 2 ^ k) (hm : m < 2 ^ k) : (a + 2 ^ k * b) &&& (m + 2 ^ k * n) = (a &&& m) + 2 ^ k * (b &&& n) := by
  have hlt : a &&& m < 2 ^ k := Nat.and_lt_two_pow _ hm
  rw [Nat.add_comm a, Nat.add_comm m, Nat.add_comm (a &&& m)]
  apply Nat.eq_of_testBit_eq
  intro j
  rw [Nat.testBit_and, Nat.testBit_two_pow_mul_add _ ha, Nat.testBit_two_pow_mul_add _ hm, Nat.testBit_two_pow_mul_add _ hlt]
  split
  · rw [Nat.testBit_and]
  · rw [Nat.testBit_and]
theorem own_orr (k a b m n : Nat) (ha : a < 2 ^ k) (hm : m < 2 ^ k) : (a + 2 ^ k * b) ||| (m + 2 ^ k * n) = (a ||| m) + 2 ^ k * (b ||| n) := by
  have hlt : a ||| m < 2 ^ k := Nat.or_lt_two_pow ha hm
  rw [Nat.add_comm a, Nat.add_comm m, Nat.add_comm (a ||| m)]
  apply Nat.eq_of_testBit_eq
  intro j
  rw [Nat.testBit_or, Nat.testBit_two_pow_mul_add _ ha, Nat.testBit_two_pow_mul_add _ hm, Nat.testBit_two_pow_mul_add _ hlt]
  split
  · rw [Nat.testBit_or]
  · rw [Nat.testBit_or]
theorem own_or (k x d : Nat) (hx : x < 2 ^ k) : x ||| (d * 2 ^ k) = x + d * 2 ^ k := by
  rw [Nat.mul_comm, Nat.or_comm, ← Nat.two_pow_add_eq_or_of_lt hx, Nat.add_comm]
theorem own_b (y v : Int64) (hv : ((y &&& (9223372036854775807 : Int64)) - ((y &&& (9223372036854775807 : Int64)) / (100000000 : Int64)) * (100000000 : Int64)) = v) : 0 ≤ v.toInt ∧ v.toInt < 100000000 := by
  have e1 : (y &&& (9223372036854775807 : Int64)).toInt = y.toInt % 2 ^ 63 := Jvm.Kit.i64_mask y 9223372036854775807 (k := 63) (by decide) (by decide)
  have e2 : v.toInt = (y &&& (9223372036854775807 : Int64)).toInt % 100000000 := by
    rw [← hv, Jvm.Kit.i64_rem_nonneg (by omega)]; rfl
  omega
theorem own_dig (v k : Int64) (n K : Nat) (hn : v.toInt = (n : Int)) (hK : k.toInt = (K : Int)) (hp : 0 < K) (hb : n < 100000000) : own_N (own_digit v k) = 48 + n / K % 10 := by
  have e1 : (v / k).toInt = ((n / K : Nat) : Int) := by
    rw [Jvm.Kit.i64_div (by omega), hn, hK]; rfl
  have e2 : ((v / k) - ((v / k) / (10 : Int64)) * (10 : Int64)).toInt = ((n / K % 10 : Nat) : Int) := by
    rw [Jvm.Kit.i64_rem_nonneg (by rw [e1]; exact Int.natCast_nonneg _), e1]; rfl
  have hlt : n / K % 10 < 10 := Nat.mod_lt _ (by omega)
  have e3 : (own_digit v k).toInt = ((48 + n / K % 10 : Nat) : Int) := by
    unfold own_digit
    rw [Jvm.Kit.i64_add (by rw [e2]; simp only [Int64.reduceToInt]; omega) (by rw [e2]; simp only [Int64.reduceToInt]; omega), e2]
    simp only [Int64.reduceToInt]; omega
  have := own_N_int (x := own_digit v k) (by omega)
  omega
theorem own_val (a0 a1 a2 a3 a4 a5 a6 a7 : Nat) (h0 : a0 < 10) (h1 : a1 < 10) (h2 : a2 < 10) (h3 : a3 < 10) (h4 : a4 < 10) (h5 : a5 < 10) (h6 : a6 < 10) (h7 : a7 < 10) (q : Int64)
    (hq : own_N q = (48 + a0) + (48 + a1) * 256 + (48 + a2) * 65536 + (48 + a3) * 16777216 + (48 + a4) * 4294967296 + (48 + a5) * 1099511627776 + (48 + a6) * 281474976710656 + (48 + a7) * 72057594037927936) :
    own_N (own_value q) = a0 * 10000000 + a1 * 1000000 + a2 * 100000 + a3 * 10000 + a4 * 1000 + a5 * 100 + a6 * 10 + a7 := by
  have ha : own_N (own_a q) = a0 + a1 * 256 + a2 * 65536 + a3 * 16777216 + a4 * 4294967296 + a5 * 1099511627776 + a6 * 281474976710656 + a7 * 72057594037927936 := by
    unfold own_a
    rw [own_N_sub, hq, show own_N (3472328296227680304 : Int64) = 3472328296227680304 from by decide +kernel]
    omega
  have hc : own_N (own_c q) = (10 * a0 + a1) + (10 * a2 + a3) * 65536 + (10 * a4 + a5) * 4294967296 + (10 * a6 + a7) * 281474976710656 := by
    unfold own_c
    rw [own_N_and, own_N_add, own_N_mul, own_N_ushr _ _ (k := 8) (by decide +kernel), ha, show own_N (10 : Int64) = 10 from by decide +kernel, show own_N (71777214294589695 : Int64) = 255 + 2 ^ 16 * (255 + 2 ^ 16 * (255 + 2 ^ 16 * 255)) from by decide +kernel]
    have e1 : (a0 + a1 * 256 + a2 * 65536 + a3 * 16777216 + a4 * 4294967296 + a5 * 1099511627776 + a6 * 281474976710656 + a7 * 72057594037927936) / 2 ^ 8 = a1 + a2 * 256 + a3 * 65536 + a4 * 16777216 + a5 * 4294967296 + a6 * 1099511627776 + a7 * 281474976710656 := by omega
    rw [e1, Nat.mod_eq_of_lt (a := (a0 + a1 * 256 + a2 * 65536 + a3 * 16777216 + a4 * 4294967296 + a5 * 1099511627776 + a6 * 281474976710656 + a7 * 72057594037927936) * 10) (by omega), Nat.mod_eq_of_lt (by omega)]
    rw [show (a0 + a1 * 256 + a2 * 65536 + a3 * 16777216 + a4 * 4294967296 + a5 * 1099511627776 + a6 * 281474976710656 + a7 * 72057594037927936) * 10 + (a1 + a2 * 256 + a3 * 65536 + a4 * 16777216 + a5 * 4294967296 + a6 * 1099511627776 + a7 * 281474976710656)
      = ((10 * a0 + a1) + 256 * (10 * a1 + a2)) + 2 ^ 16 * (((10 * a2 + a3) + 256 * (10 * a3 + a4)) + 2 ^ 16 * (((10 * a4 + a5) + 256 * (10 * a5 + a6)) + 2 ^ 16 * ((10 * a6 + a7) + 256 * (10 * a7)))) from by omega]
    rw [own_and 16 _ _ _ _ (by omega) (by decide), own_and 16 _ _ _ _ (by omega) (by decide), own_and 16 _ _ _ _ (by omega) (by decide)]
    rw [show (255 : Nat) = 2 ^ 8 - 1 from rfl, Nat.and_two_pow_sub_one_eq_mod, Nat.and_two_pow_sub_one_eq_mod, Nat.and_two_pow_sub_one_eq_mod, Nat.and_two_pow_sub_one_eq_mod]
    rw [show ((10 * a0 + a1) + 256 * (10 * a1 + a2)) % 2 ^ 8 = 10 * a0 + a1 from by omega, show ((10 * a2 + a3) + 256 * (10 * a3 + a4)) % 2 ^ 8 = 10 * a2 + a3 from by omega, show ((10 * a4 + a5) + 256 * (10 * a5 + a6)) % 2 ^ 8 = 10 * a4 + a5 from by omega, show ((10 * a6 + a7) + 256 * (10 * a7)) % 2 ^ 8 = 10 * a6 + a7 from by omega]
    omega
  have he : own_N (own_e q) = (1000 * a0 + 100 * a1 + 10 * a2 + a3) + (1000 * a4 + 100 * a5 + 10 * a6 + a7) * 4294967296 := by
    unfold own_e
    rw [own_N_and, own_N_add, own_N_mul, own_N_ushr _ _ (k := 16) (by decide +kernel), hc, show own_N (100 : Int64) = 100 from by decide +kernel, show own_N (281470681808895 : Int64) = 65535 + 2 ^ 32 * 65535 from by decide +kernel]
    have e1 : ((10 * a0 + a1) + (10 * a2 + a3) * 65536 + (10 * a4 + a5) * 4294967296 + (10 * a6 + a7) * 281474976710656) / 2 ^ 16 = (10 * a2 + a3) + (10 * a4 + a5) * 65536 + (10 * a6 + a7) * 4294967296 := by omega
    rw [e1, Nat.mod_eq_of_lt (a := ((10 * a0 + a1) + (10 * a2 + a3) * 65536 + (10 * a4 + a5) * 4294967296 + (10 * a6 + a7) * 281474976710656) * 100) (by omega), Nat.mod_eq_of_lt (by omega)]
    rw [show ((10 * a0 + a1) + (10 * a2 + a3) * 65536 + (10 * a4 + a5) * 4294967296 + (10 * a6 + a7) * 281474976710656) * 100 + ((10 * a2 + a3) + (10 * a4 + a5) * 65536 + (10 * a6 + a7) * 4294967296)
      = ((1000 * a0 + 100 * a1 + 10 * a2 + a3) + 65536 * (1000 * a2 + 100 * a3 + 10 * a4 + a5)) + 2 ^ 32 * ((1000 * a4 + 100 * a5 + 10 * a6 + a7) + 65536 * (1000 * a6 + 100 * a7)) from by omega]
    rw [own_and 32 _ _ _ _ (by omega) (by decide)]
    rw [show (65535 : Nat) = 2 ^ 16 - 1 from rfl, Nat.and_two_pow_sub_one_eq_mod, Nat.and_two_pow_sub_one_eq_mod]
    rw [show ((1000 * a0 + 100 * a1 + 10 * a2 + a3) + 65536 * (1000 * a2 + 100 * a3 + 10 * a4 + a5)) % 2 ^ 16 = 1000 * a0 + 100 * a1 + 10 * a2 + a3 from by omega, show ((1000 * a4 + 100 * a5 + 10 * a6 + a7) + 65536 * (1000 * a6 + 100 * a7)) % 2 ^ 16 = 1000 * a4 + 100 * a5 + 10 * a6 + a7 from by omega]
    omega
  unfold own_value
  rw [own_N_and, own_N_add, own_N_mul, own_N_ushr _ _ (k := 32) (by decide +kernel), he, show own_N (10000 : Int64) = 10000 from by decide +kernel, show own_N (4294967295 : Int64) = 2 ^ 32 - 1 from by decide +kernel, Nat.and_two_pow_sub_one_eq_mod]
  have e1 : ((1000 * a0 + 100 * a1 + 10 * a2 + a3) + (1000 * a4 + 100 * a5 + 10 * a6 + a7) * 4294967296) / 2 ^ 32 = 1000 * a4 + 100 * a5 + 10 * a6 + a7 := by omega
  rw [e1, Nat.mod_eq_of_lt (a := ((1000 * a0 + 100 * a1 + 10 * a2 + a3) + (1000 * a4 + 100 * a5 + 10 * a6 + a7) * 4294967296) * 10000) (by omega), Nat.mod_eq_of_lt (b := 18446744073709551616) (by omega)]
  rw [show ((1000 * a0 + 100 * a1 + 10 * a2 + a3) + (1000 * a4 + 100 * a5 + 10 * a6 + a7) * 4294967296) * 10000 + (1000 * a4 + 100 * a5 + 10 * a6 + a7) = (10000 * (1000 * a0 + 100 * a1 + 10 * a2 + a3) + (1000 * a4 + 100 * a5 + 10 * a6 + a7)) + 2 ^ 32 * (10000 * (1000 * a4 + 100 * a5 + 10 * a6 + a7)) from by omega, Nat.add_mul_mod_self_left, Nat.mod_eq_of_lt (by omega)]
  omega
theorem own_step (x y n : Int64) {k X Y : Nat} (hn : (n.toBitVec.smod 64).toNat = k) (hx : own_N x = X) (hy : own_N y = Y) (hX : X < 2 ^ k) (hb : Y * 2 ^ k < 18446744073709551616) : own_N (x ||| (y <<< n)) = X + Y * 2 ^ k := by
  rw [own_N_or, own_N_shl _ _ hn, hx, hy, Nat.mod_eq_of_lt hb, own_or _ _ _ hX]
theorem own_dm (n p : Nat) : n / p = 10 * (n / (p * 10)) + n / p % 10 := by
  rw [← Nat.div_div_eq_div_mul]; exact (Nat.div_add_mod _ _).symm
theorem own_back (v : Int64) (n : Nat) (h1 : 0 ≤ v.toInt) (hn : v.toInt = (n : Int)) : own_N v = n := by
  have := own_N_int h1
  omega
theorem own_top (n : Nat) (hb : n < 100000000) : n / 10000000 = n / 10000000 % 10 := by omega
theorem own_sum (n q1 q2 q3 q4 q5 q6 q7 a0 a1 a2 a3 a4 a5 a6 a7 : Nat) (h7 : n = 10 * q1 + a7) (h6 : q1 = 10 * q2 + a6) (h5 : q2 = 10 * q3 + a5) (h4 : q3 = 10 * q4 + a4) (h3 : q4 = 10 * q5 + a3) (h2 : q5 = 10 * q6 + a2) (h1 : q6 = 10 * q7 + a1) (h0 : q7 = a0) :
    n = a0 * 10000000 + a1 * 1000000 + a2 * 100000 + a3 * 10000 + a4 * 1000 + a5 * 100 + a6 * 10 + a7 := by omega
theorem own_bytes (x a0 a1 a2 a3 a4 a5 a6 a7 : Nat) (h : x = 48 + a0 + (48 + a1) * 2 ^ 8 + (48 + a2) * 2 ^ 16 + (48 + a3) * 2 ^ 24 + (48 + a4) * 2 ^ 32 + (48 + a5) * 2 ^ 40 + (48 + a6) * 2 ^ 48 + (48 + a7) * 2 ^ 56) :
    x = (48 + a0) + (48 + a1) * 256 + (48 + a2) * 65536 + (48 + a3) * 16777216 + (48 + a4) * 4294967296 + (48 + a5) * 1099511627776 + (48 + a6) * 281474976710656 + (48 + a7) * 72057594037927936 := by omega
theorem own_lt8 (X a k : Nat) (h : X < 2 ^ k) (ha : a < 10) : X + (48 + a) * 2 ^ k < 2 ^ (k + 8) := by
  have : (48 + a) * 2 ^ k ≤ 57 * 2 ^ k := Nat.mul_le_mul_right _ (by omega)
  rw [Nat.pow_add]
  omega
theorem own_lt64 (a k : Nat) (hk : k ≤ 56) (ha : a < 10) : (48 + a) * 2 ^ k < 18446744073709551616 := by
  have h1 : (48 + a) * 2 ^ k ≤ 57 * 2 ^ k := Nat.mul_le_mul_right _ (by omega)
  have h2 : 2 ^ k ≤ 2 ^ 56 := Nat.pow_le_pow_right (by decide) hk
  have h3 : (57 : Nat) * 2 ^ 56 < 18446744073709551616 := by decide
  omega
set_option maxHeartbeats 4000000 in
theorem own_plain (v : Int64) (h1 : 0 ≤ v.toInt) (h2 : v.toInt < 100000000) : (own_value ((((((((own_digit v (10000000 : Int64)) ||| ((own_digit v (1000000 : Int64)) <<< ((8 : Int32).toInt64 &&& 63))) ||| ((own_digit v (100000 : Int64)) <<< ((16 : Int32).toInt64 &&& 63))) ||| ((own_digit v (10000 : Int64)) <<< ((24 : Int32).toInt64 &&& 63))) ||| ((own_digit v (1000 : Int64)) <<< ((32 : Int32).toInt64 &&& 63))) ||| ((own_digit v (100 : Int64)) <<< ((40 : Int32).toInt64 &&& 63))) ||| ((own_digit v (10 : Int64)) <<< ((48 : Int32).toInt64 &&& 63))) ||| ((own_digit v (1 : Int64)) <<< ((56 : Int32).toInt64 &&& 63)))) = v := by
  obtain ⟨n, hn⟩ : ∃ n : Nat, v.toInt = (n : Int) := ⟨v.toInt.toNat, by omega⟩
  have hb : n < 100000000 := by omega
  have d0 := own_dig v (10000000 : Int64) n 10000000 hn (by rfl) (by decide) hb
  have d1 := own_dig v (1000000 : Int64) n 1000000 hn (by rfl) (by decide) hb
  have d2 := own_dig v (100000 : Int64) n 100000 hn (by rfl) (by decide) hb
  have d3 := own_dig v (10000 : Int64) n 10000 hn (by rfl) (by decide) hb
  have d4 := own_dig v (1000 : Int64) n 1000 hn (by rfl) (by decide) hb
  have d5 := own_dig v (100 : Int64) n 100 hn (by rfl) (by decide) hb
  have d6 := own_dig v (10 : Int64) n 10 hn (by rfl) (by decide) hb
  have d7 := own_dig v (1 : Int64) n 1 hn (by rfl) (by decide) hb
  generalize ga0 : n / 10000000 % 10 = a0 at d0
  generalize ga1 : n / 1000000 % 10 = a1 at d1
  generalize ga2 : n / 100000 % 10 = a2 at d2
  generalize ga3 : n / 10000 % 10 = a3 at d3
  generalize ga4 : n / 1000 % 10 = a4 at d4
  generalize ga5 : n / 100 % 10 = a5 at d5
  generalize ga6 : n / 10 % 10 = a6 at d6
  generalize ga7 : n / 1 % 10 = a7 at d7
  have r7 : n / 1 = 10 * (n / 10) + a7 := by rw [← ga7]; exact own_dm n 1
  have r6 : n / 10 = 10 * (n / 100) + a6 := by rw [← ga6]; exact own_dm n 10
  have r5 : n / 100 = 10 * (n / 1000) + a5 := by rw [← ga5]; exact own_dm n 100
  have r4 : n / 1000 = 10 * (n / 10000) + a4 := by rw [← ga4]; exact own_dm n 1000
  have r3 : n / 10000 = 10 * (n / 100000) + a3 := by rw [← ga3]; exact own_dm n 10000
  have r2 : n / 100000 = 10 * (n / 1000000) + a2 := by rw [← ga2]; exact own_dm n 100000
  have r1 : n / 1000000 = 10 * (n / 10000000) + a1 := by rw [← ga1]; exact own_dm n 1000000
  have r0 : n / 10000000 = a0 := by rw [← ga0]; exact own_top n hb
  have r8 : n = a0 * 10000000 + a1 * 1000000 + a2 * 100000 + a3 * 10000 + a4 * 1000 + a5 * 100 + a6 * 10 + a7 := own_sum _ _ _ _ _ _ _ _ _ _ _ _ _ _ _ _ ((Nat.div_one n).symm.trans r7) r6 r5 r4 r3 r2 r1 r0
  have b0 : a0 < 10 := by rw [← ga0]; exact Nat.mod_lt _ (by decide)
  have b1 : a1 < 10 := by rw [← ga1]; exact Nat.mod_lt _ (by decide)
  have b2 : a2 < 10 := by rw [← ga2]; exact Nat.mod_lt _ (by decide)
  have b3 : a3 < 10 := by rw [← ga3]; exact Nat.mod_lt _ (by decide)
  have b4 : a4 < 10 := by rw [← ga4]; exact Nat.mod_lt _ (by decide)
  have b5 : a5 < 10 := by rw [← ga5]; exact Nat.mod_lt _ (by decide)
  have b6 : a6 < 10 := by rw [← ga6]; exact Nat.mod_lt _ (by decide)
  have b7 : a7 < 10 := by rw [← ga7]; exact Nat.mod_lt _ (by decide)
  have l0 : 48 + a0 < 2 ^ 8 := by clear d0 d1 d2 d3 d4 d5 d6 d7; omega
  have s1 := own_step _ _ ((8 : Int32).toInt64 &&& 63) (k := 8) (by decide +kernel) d0 d1 l0 (own_lt64 _ _ (by decide) b1)
  have l1 := own_lt8 _ _ _ l0 b1
  have s2 := own_step _ _ ((16 : Int32).toInt64 &&& 63) (k := 16) (by decide +kernel) s1 d2 l1 (own_lt64 _ _ (by decide) b2)
  have l2 := own_lt8 _ _ _ l1 b2
  have s3 := own_step _ _ ((24 : Int32).toInt64 &&& 63) (k := 24) (by decide +kernel) s2 d3 l2 (own_lt64 _ _ (by decide) b3)
  have l3 := own_lt8 _ _ _ l2 b3
  have s4 := own_step _ _ ((32 : Int32).toInt64 &&& 63) (k := 32) (by decide +kernel) s3 d4 l3 (own_lt64 _ _ (by decide) b4)
  have l4 := own_lt8 _ _ _ l3 b4
  have s5 := own_step _ _ ((40 : Int32).toInt64 &&& 63) (k := 40) (by decide +kernel) s4 d5 l4 (own_lt64 _ _ (by decide) b5)
  have l5 := own_lt8 _ _ _ l4 b5
  have s6 := own_step _ _ ((48 : Int32).toInt64 &&& 63) (k := 48) (by decide +kernel) s5 d6 l5 (own_lt64 _ _ (by decide) b6)
  have l6 := own_lt8 _ _ _ l5 b6
  have s7 := own_step _ _ ((56 : Int32).toInt64 &&& 63) (k := 56) (by decide +kernel) s6 d7 l6 (own_lt64 _ _ (by decide) b7)
  have l7 := own_lt8 _ _ _ l6 b7
  have hv := own_val a0 a1 a2 a3 a4 a5 a6 a7 b0 b1 b2 b3 b4 b5 b6 b7 _ (own_bytes _ _ _ _ _ _ _ _ _ s7)
  apply own_N_inj
  rw [hv, ← r8]
  exact (own_back v n h1 hn).symm

theorem pn_own_law : plainName "com/example/kennel/kennel/EightBytesDigitsValuePinLaw" = true := by first | (simp [plainName, overriddenIn]; done) | decide +kernel
def Q_own_law (Z : State) (p0 : Int64)  (h0 : Heap) (n0 : Nat) (v : Option Value) (h : Heap) (L : List Loc) : Prop := v = some (.int 1) ∧ Fr n0 L
set_option maxRecDepth 65536 in
set_option maxHeartbeats 40000000 in
theorem own_law (l : Launch) (Z : State) (a0 : Array Value) (hw : ∀ d ∈ tables_1, d.before a0 Z = true) (ws : List Jvm.Cond) (p0 : Int64)  (h0 : Heap) (n0 : Nat)  :
    MetFree l x (head1 (Jvm.Cond.code x code maxLocals ret :: ws) room_1) (fun aa U => aa = #[(.long p0)] ∧ Z.Warmed39 U.vm ∧ U.heap = h0) (fun _ _ _ _ _ => True) (fun _ U o U' => ∃ v L, o = .returned v ∧ Q_own_law Z p0 h0 n0 v U'.heap L ∧ FrameEnd U o U' L room_1.cells room_1.slots) := by
  refine own_body (x := x) (maxL := maxLocals) (as' := #[(.long p0)]) (Q := Q_own_law Z p0 h0 n0) pn_own_law #[.val (.long p0), .second, .unset, .unset, .unset, .unset] (fun m => by first | rfl | (simp [entryFrame, mkF, argsToLocals, Value.category, maxLocals]; done)) ?_
  intro p e s m below meth c T0 X0 hx hby hml hret hlk hown hnm hZ e0
  replace hml : c.maxLocals = 6 := hml
  replace hown : s.vm.findClass "com/example/kennel/kennel/EightBytesDigitsValuePinLaw" = some m.cls := hown
  have N0 := Fr.nil n0
  refine own_st (G := T0.setTop (mkF m 1 #[.val (.long p0), .second, .unset, .unset, .unset, .unset] [(.long p0)])) (fun _ kk => XS.lloadN X0.here hx rfl (hb hby at_0) rfl kk) ?_
  refine own_st (G := T0.setTop (mkF m 4 #[.val (.long p0), .second, .unset, .unset, .unset, .unset] [(.long (9223372036854775807 : Int64)), (.long p0)])) (fun _ kk => X0.ldc2Long hx hown (mvT hZ (own_w hw 0 rfl)) (g := (mkF m 1 #[.val (.long p0), .second, .unset, .unset, .unset, .unset] [(.long p0)])) rfl (hb hby at_1) _ kk) ?_
  refine own_st (G := T0.setTop (mkF m 5 #[.val (.long p0), .second, .unset, .unset, .unset, .unset] [(.long (p0 &&& (9223372036854775807 : Int64)))])) (fun _ kk => XS.land X0.here hx rfl (hb hby at_4) rfl kk) ?_
  refine own_st (G := T0.setTop (mkF m 8 #[.val (.long p0), .second, .unset, .unset, .unset, .unset] [(.long (100000000 : Int64)), (.long (p0 &&& (9223372036854775807 : Int64)))])) (fun _ kk => X0.ldc2Long hx hown (mvT hZ (own_w hw 1 rfl)) (g := (mkF m 5 #[.val (.long p0), .second, .unset, .unset, .unset, .unset] [(.long (p0 &&& (9223372036854775807 : Int64)))])) rfl (hb hby at_5) _ kk) ?_
  refine own_st (G := T0.setTop (mkF m 9 #[.val (.long p0), .second, .unset, .unset, .unset, .unset] [(.long ((p0 &&& (9223372036854775807 : Int64)) - ((p0 &&& (9223372036854775807 : Int64)) / (100000000 : Int64)) * (100000000 : Int64)))])) (fun _ kk => XS.lrem X0.here hx rfl (hb hby at_8) rfl (by decide) kk) ?_
  generalize hv9 : ((p0 &&& (9223372036854775807 : Int64)) - ((p0 &&& (9223372036854775807 : Int64)) / (100000000 : Int64)) * (100000000 : Int64)) = v9
  refine own_st (G := T0.setTop (mkF m 10 #[.val (.long p0), .second, .val (.long v9), .second, .unset, .unset] [])) (fun _ kk => XS.lstoreN X0.here hx rfl (hb hby at_9) rfl (l' := #[.val (.long p0), .second, .val (.long v9), .second, .unset, .unset]) rfl kk) ?_
  refine own_st (G := T0.setTop (mkF m 11 #[.val (.long p0), .second, .val (.long v9), .second, .unset, .unset] [(.long v9)])) (fun _ kk => XS.lloadN X0.here hx rfl (hb hby at_10) rfl kk) ?_
  refine own_st (G := T0.setTop (mkF m 14 #[.val (.long p0), .second, .val (.long v9), .second, .unset, .unset] [(.long (10000000 : Int64)), (.long v9)])) (fun _ kk => X0.ldc2Long hx hown (mvT hZ (own_w hw 2 rfl)) (g := (mkF m 11 #[.val (.long p0), .second, .val (.long v9), .second, .unset, .unset] [(.long v9)])) rfl (hb hby at_11) _ kk) ?_
  refine own_callS X0 hx hZ (y := (⟨"com/example/kennel/kennel/EightBytesDigitsValuePinLaw", "digitAt", "(JJ)J"⟩ : MethodName)) (as' := [(.long v9), (.long (10000000 : Int64))]) hown (own_w hw 3 rfl) (own_w hw 4 rfl) (own_w hw 5 rfl) (own_w hw 6 rfl) (by decide) (own_rm1 l Z a0 hw [] v9 (10000000 : Int64) h0 n0 (by decide)) 0 (by decide) (by decide) (by decide) (by decide) (rest := []) (by rw [hml]; rfl) (lenOf (by decide : parseMethodDescriptor "(JJ)J" = some ⟨[.long, .long], some (.long)⟩) rfl) rfl (Nat.le_of_eq rfl) (hb hby at_14) e0 ?_
  intro T3 L4 v6 X5 hQ
  obtain ⟨rfl, rfl, eq1⟩ := hQ
  show own_Out _ _ _ _ (T3.setTop (mkF m 17 #[.val (.long p0), .second, .val (.long v9), .second, .unset, .unset] [(.long (own_digit v9 (10000000 : Int64)))]))
  have N2 := Fr.app N0 (Fr.nil n0)
  refine own_st (G := T3.setTop (mkF m 18 #[.val (.long p0), .second, .val (.long v9), .second, .unset, .unset] [(.long v9), (.long (own_digit v9 (10000000 : Int64)))])) (fun _ kk => XS.lloadN X5.here hx rfl (hb hby at_17) rfl kk) ?_
  refine own_st (G := T3.setTop (mkF m 21 #[.val (.long p0), .second, .val (.long v9), .second, .unset, .unset] [(.long (1000000 : Int64)), (.long v9), (.long (own_digit v9 (10000000 : Int64)))])) (fun _ kk => X5.ldc2Long hx hown (mvT hZ (own_w hw 9 rfl)) (g := (mkF m 18 #[.val (.long p0), .second, .val (.long v9), .second, .unset, .unset] [(.long v9), (.long (own_digit v9 (10000000 : Int64)))])) rfl (hb hby at_18) _ kk) ?_
  refine own_callS X5 hx hZ (y := (⟨"com/example/kennel/kennel/EightBytesDigitsValuePinLaw", "digitAt", "(JJ)J"⟩ : MethodName)) (as' := [(.long v9), (.long (1000000 : Int64))]) hown (own_w hw 3 rfl) (own_w hw 4 rfl) (own_w hw 5 rfl) (own_w hw 6 rfl) (by decide) (own_rm1 l Z a0 hw [] v9 (1000000 : Int64) h0 n0 (by decide)) 2 (by decide) (by decide) (by decide) (by decide) (rest := [(.long (own_digit v9 (10000000 : Int64)))]) (by rw [hml]; rfl) (lenOf (by decide : parseMethodDescriptor "(JJ)J" = some ⟨[.long, .long], some (.long)⟩) rfl) rfl (Nat.le_of_eq rfl) (hb hby at_21) eq1 ?_
  intro T9 L10 v12 X11 hQ
  obtain ⟨rfl, rfl, eq7⟩ := hQ
  show own_Out _ _ _ _ (T9.setTop (mkF m 24 #[.val (.long p0), .second, .val (.long v9), .second, .unset, .unset] [(.long (own_digit v9 (1000000 : Int64))), (.long (own_digit v9 (10000000 : Int64)))]))
  have N8 := Fr.app N2 (Fr.nil n0)
  refine own_st (G := T9.setTop (mkF m 26 #[.val (.long p0), .second, .val (.long v9), .second, .unset, .unset] [(.int (8 : Int32)), (.long (own_digit v9 (1000000 : Int64))), (.long (own_digit v9 (10000000 : Int64)))])) (fun _ kk => XT.bipushV X11.here hx rfl (8 : Int32) (hb hby at_24) (by decide) kk) ?_
  refine own_st (G := T9.setTop (mkF m 27 #[.val (.long p0), .second, .val (.long v9), .second, .unset, .unset] [(.long ((own_digit v9 (1000000 : Int64)) <<< ((8 : Int32).toInt64 &&& 63))), (.long (own_digit v9 (10000000 : Int64)))])) (fun _ kk => XT.lshl X11.here hx rfl (hb hby at_26) rfl kk) ?_
  refine own_st (G := T9.setTop (mkF m 28 #[.val (.long p0), .second, .val (.long v9), .second, .unset, .unset] [(.long ((own_digit v9 (10000000 : Int64)) ||| ((own_digit v9 (1000000 : Int64)) <<< ((8 : Int32).toInt64 &&& 63))))])) (fun _ kk => XS.lor X11.here hx rfl (hb hby at_27) rfl kk) ?_
  refine own_st (G := T9.setTop (mkF m 29 #[.val (.long p0), .second, .val (.long v9), .second, .unset, .unset] [(.long v9), (.long ((own_digit v9 (10000000 : Int64)) ||| ((own_digit v9 (1000000 : Int64)) <<< ((8 : Int32).toInt64 &&& 63))))])) (fun _ kk => XS.lloadN X11.here hx rfl (hb hby at_28) rfl kk) ?_
  refine own_st (G := T9.setTop (mkF m 32 #[.val (.long p0), .second, .val (.long v9), .second, .unset, .unset] [(.long (100000 : Int64)), (.long v9), (.long ((own_digit v9 (10000000 : Int64)) ||| ((own_digit v9 (1000000 : Int64)) <<< ((8 : Int32).toInt64 &&& 63))))])) (fun _ kk => X11.ldc2Long hx hown (mvT hZ (own_w hw 10 rfl)) (g := (mkF m 29 #[.val (.long p0), .second, .val (.long v9), .second, .unset, .unset] [(.long v9), (.long ((own_digit v9 (10000000 : Int64)) ||| ((own_digit v9 (1000000 : Int64)) <<< ((8 : Int32).toInt64 &&& 63))))])) rfl (hb hby at_29) _ kk) ?_
  refine own_callS X11 hx hZ (y := (⟨"com/example/kennel/kennel/EightBytesDigitsValuePinLaw", "digitAt", "(JJ)J"⟩ : MethodName)) (as' := [(.long v9), (.long (100000 : Int64))]) hown (own_w hw 3 rfl) (own_w hw 4 rfl) (own_w hw 5 rfl) (own_w hw 6 rfl) (by decide) (own_rm1 l Z a0 hw [] v9 (100000 : Int64) h0 n0 (by decide)) 2 (by decide) (by decide) (by decide) (by decide) (rest := [(.long ((own_digit v9 (10000000 : Int64)) ||| ((own_digit v9 (1000000 : Int64)) <<< ((8 : Int32).toInt64 &&& 63))))]) (by rw [hml]; rfl) (lenOf (by decide : parseMethodDescriptor "(JJ)J" = some ⟨[.long, .long], some (.long)⟩) rfl) rfl (Nat.le_of_eq rfl) (hb hby at_32) eq7 ?_
  intro T15 L16 v18 X17 hQ
  obtain ⟨rfl, rfl, eq13⟩ := hQ
  show own_Out _ _ _ _ (T15.setTop (mkF m 35 #[.val (.long p0), .second, .val (.long v9), .second, .unset, .unset] [(.long (own_digit v9 (100000 : Int64))), (.long ((own_digit v9 (10000000 : Int64)) ||| ((own_digit v9 (1000000 : Int64)) <<< ((8 : Int32).toInt64 &&& 63))))]))
  have N14 := Fr.app N8 (Fr.nil n0)
  refine own_st (G := T15.setTop (mkF m 37 #[.val (.long p0), .second, .val (.long v9), .second, .unset, .unset] [(.int (16 : Int32)), (.long (own_digit v9 (100000 : Int64))), (.long ((own_digit v9 (10000000 : Int64)) ||| ((own_digit v9 (1000000 : Int64)) <<< ((8 : Int32).toInt64 &&& 63))))])) (fun _ kk => XT.bipushV X17.here hx rfl (16 : Int32) (hb hby at_35) (by decide) kk) ?_
  refine own_st (G := T15.setTop (mkF m 38 #[.val (.long p0), .second, .val (.long v9), .second, .unset, .unset] [(.long ((own_digit v9 (100000 : Int64)) <<< ((16 : Int32).toInt64 &&& 63))), (.long ((own_digit v9 (10000000 : Int64)) ||| ((own_digit v9 (1000000 : Int64)) <<< ((8 : Int32).toInt64 &&& 63))))])) (fun _ kk => XT.lshl X17.here hx rfl (hb hby at_37) rfl kk) ?_
  refine own_st (G := T15.setTop (mkF m 39 #[.val (.long p0), .second, .val (.long v9), .second, .unset, .unset] [(.long (((own_digit v9 (10000000 : Int64)) ||| ((own_digit v9 (1000000 : Int64)) <<< ((8 : Int32).toInt64 &&& 63))) ||| ((own_digit v9 (100000 : Int64)) <<< ((16 : Int32).toInt64 &&& 63))))])) (fun _ kk => XS.lor X17.here hx rfl (hb hby at_38) rfl kk) ?_
  refine own_st (G := T15.setTop (mkF m 40 #[.val (.long p0), .second, .val (.long v9), .second, .unset, .unset] [(.long v9), (.long (((own_digit v9 (10000000 : Int64)) ||| ((own_digit v9 (1000000 : Int64)) <<< ((8 : Int32).toInt64 &&& 63))) ||| ((own_digit v9 (100000 : Int64)) <<< ((16 : Int32).toInt64 &&& 63))))])) (fun _ kk => XS.lloadN X17.here hx rfl (hb hby at_39) rfl kk) ?_
  refine own_st (G := T15.setTop (mkF m 43 #[.val (.long p0), .second, .val (.long v9), .second, .unset, .unset] [(.long (10000 : Int64)), (.long v9), (.long (((own_digit v9 (10000000 : Int64)) ||| ((own_digit v9 (1000000 : Int64)) <<< ((8 : Int32).toInt64 &&& 63))) ||| ((own_digit v9 (100000 : Int64)) <<< ((16 : Int32).toInt64 &&& 63))))])) (fun _ kk => X17.ldc2Long hx hown (mvT hZ (own_w hw 11 rfl)) (g := (mkF m 40 #[.val (.long p0), .second, .val (.long v9), .second, .unset, .unset] [(.long v9), (.long (((own_digit v9 (10000000 : Int64)) ||| ((own_digit v9 (1000000 : Int64)) <<< ((8 : Int32).toInt64 &&& 63))) ||| ((own_digit v9 (100000 : Int64)) <<< ((16 : Int32).toInt64 &&& 63))))])) rfl (hb hby at_40) _ kk) ?_
  refine own_callS X17 hx hZ (y := (⟨"com/example/kennel/kennel/EightBytesDigitsValuePinLaw", "digitAt", "(JJ)J"⟩ : MethodName)) (as' := [(.long v9), (.long (10000 : Int64))]) hown (own_w hw 3 rfl) (own_w hw 4 rfl) (own_w hw 5 rfl) (own_w hw 6 rfl) (by decide) (own_rm1 l Z a0 hw [] v9 (10000 : Int64) h0 n0 (by decide)) 2 (by decide) (by decide) (by decide) (by decide) (rest := [(.long (((own_digit v9 (10000000 : Int64)) ||| ((own_digit v9 (1000000 : Int64)) <<< ((8 : Int32).toInt64 &&& 63))) ||| ((own_digit v9 (100000 : Int64)) <<< ((16 : Int32).toInt64 &&& 63))))]) (by rw [hml]; rfl) (lenOf (by decide : parseMethodDescriptor "(JJ)J" = some ⟨[.long, .long], some (.long)⟩) rfl) rfl (Nat.le_of_eq rfl) (hb hby at_43) eq13 ?_
  intro T21 L22 v24 X23 hQ
  obtain ⟨rfl, rfl, eq19⟩ := hQ
  show own_Out _ _ _ _ (T21.setTop (mkF m 46 #[.val (.long p0), .second, .val (.long v9), .second, .unset, .unset] [(.long (own_digit v9 (10000 : Int64))), (.long (((own_digit v9 (10000000 : Int64)) ||| ((own_digit v9 (1000000 : Int64)) <<< ((8 : Int32).toInt64 &&& 63))) ||| ((own_digit v9 (100000 : Int64)) <<< ((16 : Int32).toInt64 &&& 63))))]))
  have N20 := Fr.app N14 (Fr.nil n0)
  refine own_st (G := T21.setTop (mkF m 48 #[.val (.long p0), .second, .val (.long v9), .second, .unset, .unset] [(.int (24 : Int32)), (.long (own_digit v9 (10000 : Int64))), (.long (((own_digit v9 (10000000 : Int64)) ||| ((own_digit v9 (1000000 : Int64)) <<< ((8 : Int32).toInt64 &&& 63))) ||| ((own_digit v9 (100000 : Int64)) <<< ((16 : Int32).toInt64 &&& 63))))])) (fun _ kk => XT.bipushV X23.here hx rfl (24 : Int32) (hb hby at_46) (by decide) kk) ?_
  refine own_st (G := T21.setTop (mkF m 49 #[.val (.long p0), .second, .val (.long v9), .second, .unset, .unset] [(.long ((own_digit v9 (10000 : Int64)) <<< ((24 : Int32).toInt64 &&& 63))), (.long (((own_digit v9 (10000000 : Int64)) ||| ((own_digit v9 (1000000 : Int64)) <<< ((8 : Int32).toInt64 &&& 63))) ||| ((own_digit v9 (100000 : Int64)) <<< ((16 : Int32).toInt64 &&& 63))))])) (fun _ kk => XT.lshl X23.here hx rfl (hb hby at_48) rfl kk) ?_
  refine own_st (G := T21.setTop (mkF m 50 #[.val (.long p0), .second, .val (.long v9), .second, .unset, .unset] [(.long ((((own_digit v9 (10000000 : Int64)) ||| ((own_digit v9 (1000000 : Int64)) <<< ((8 : Int32).toInt64 &&& 63))) ||| ((own_digit v9 (100000 : Int64)) <<< ((16 : Int32).toInt64 &&& 63))) ||| ((own_digit v9 (10000 : Int64)) <<< ((24 : Int32).toInt64 &&& 63))))])) (fun _ kk => XS.lor X23.here hx rfl (hb hby at_49) rfl kk) ?_
  refine own_st (G := T21.setTop (mkF m 51 #[.val (.long p0), .second, .val (.long v9), .second, .unset, .unset] [(.long v9), (.long ((((own_digit v9 (10000000 : Int64)) ||| ((own_digit v9 (1000000 : Int64)) <<< ((8 : Int32).toInt64 &&& 63))) ||| ((own_digit v9 (100000 : Int64)) <<< ((16 : Int32).toInt64 &&& 63))) ||| ((own_digit v9 (10000 : Int64)) <<< ((24 : Int32).toInt64 &&& 63))))])) (fun _ kk => XS.lloadN X23.here hx rfl (hb hby at_50) rfl kk) ?_
  refine own_st (G := T21.setTop (mkF m 54 #[.val (.long p0), .second, .val (.long v9), .second, .unset, .unset] [(.long (1000 : Int64)), (.long v9), (.long ((((own_digit v9 (10000000 : Int64)) ||| ((own_digit v9 (1000000 : Int64)) <<< ((8 : Int32).toInt64 &&& 63))) ||| ((own_digit v9 (100000 : Int64)) <<< ((16 : Int32).toInt64 &&& 63))) ||| ((own_digit v9 (10000 : Int64)) <<< ((24 : Int32).toInt64 &&& 63))))])) (fun _ kk => X23.ldc2Long hx hown (mvT hZ (own_w hw 12 rfl)) (g := (mkF m 51 #[.val (.long p0), .second, .val (.long v9), .second, .unset, .unset] [(.long v9), (.long ((((own_digit v9 (10000000 : Int64)) ||| ((own_digit v9 (1000000 : Int64)) <<< ((8 : Int32).toInt64 &&& 63))) ||| ((own_digit v9 (100000 : Int64)) <<< ((16 : Int32).toInt64 &&& 63))) ||| ((own_digit v9 (10000 : Int64)) <<< ((24 : Int32).toInt64 &&& 63))))])) rfl (hb hby at_51) _ kk) ?_
  refine own_callS X23 hx hZ (y := (⟨"com/example/kennel/kennel/EightBytesDigitsValuePinLaw", "digitAt", "(JJ)J"⟩ : MethodName)) (as' := [(.long v9), (.long (1000 : Int64))]) hown (own_w hw 3 rfl) (own_w hw 4 rfl) (own_w hw 5 rfl) (own_w hw 6 rfl) (by decide) (own_rm1 l Z a0 hw [] v9 (1000 : Int64) h0 n0 (by decide)) 2 (by decide) (by decide) (by decide) (by decide) (rest := [(.long ((((own_digit v9 (10000000 : Int64)) ||| ((own_digit v9 (1000000 : Int64)) <<< ((8 : Int32).toInt64 &&& 63))) ||| ((own_digit v9 (100000 : Int64)) <<< ((16 : Int32).toInt64 &&& 63))) ||| ((own_digit v9 (10000 : Int64)) <<< ((24 : Int32).toInt64 &&& 63))))]) (by rw [hml]; rfl) (lenOf (by decide : parseMethodDescriptor "(JJ)J" = some ⟨[.long, .long], some (.long)⟩) rfl) rfl (Nat.le_of_eq rfl) (hb hby at_54) eq19 ?_
  intro T27 L28 v30 X29 hQ
  obtain ⟨rfl, rfl, eq25⟩ := hQ
  show own_Out _ _ _ _ (T27.setTop (mkF m 57 #[.val (.long p0), .second, .val (.long v9), .second, .unset, .unset] [(.long (own_digit v9 (1000 : Int64))), (.long ((((own_digit v9 (10000000 : Int64)) ||| ((own_digit v9 (1000000 : Int64)) <<< ((8 : Int32).toInt64 &&& 63))) ||| ((own_digit v9 (100000 : Int64)) <<< ((16 : Int32).toInt64 &&& 63))) ||| ((own_digit v9 (10000 : Int64)) <<< ((24 : Int32).toInt64 &&& 63))))]))
  have N26 := Fr.app N20 (Fr.nil n0)
  refine own_st (G := T27.setTop (mkF m 59 #[.val (.long p0), .second, .val (.long v9), .second, .unset, .unset] [(.int (32 : Int32)), (.long (own_digit v9 (1000 : Int64))), (.long ((((own_digit v9 (10000000 : Int64)) ||| ((own_digit v9 (1000000 : Int64)) <<< ((8 : Int32).toInt64 &&& 63))) ||| ((own_digit v9 (100000 : Int64)) <<< ((16 : Int32).toInt64 &&& 63))) ||| ((own_digit v9 (10000 : Int64)) <<< ((24 : Int32).toInt64 &&& 63))))])) (fun _ kk => XT.bipushV X29.here hx rfl (32 : Int32) (hb hby at_57) (by decide) kk) ?_
  refine own_st (G := T27.setTop (mkF m 60 #[.val (.long p0), .second, .val (.long v9), .second, .unset, .unset] [(.long ((own_digit v9 (1000 : Int64)) <<< ((32 : Int32).toInt64 &&& 63))), (.long ((((own_digit v9 (10000000 : Int64)) ||| ((own_digit v9 (1000000 : Int64)) <<< ((8 : Int32).toInt64 &&& 63))) ||| ((own_digit v9 (100000 : Int64)) <<< ((16 : Int32).toInt64 &&& 63))) ||| ((own_digit v9 (10000 : Int64)) <<< ((24 : Int32).toInt64 &&& 63))))])) (fun _ kk => XT.lshl X29.here hx rfl (hb hby at_59) rfl kk) ?_
  refine own_st (G := T27.setTop (mkF m 61 #[.val (.long p0), .second, .val (.long v9), .second, .unset, .unset] [(.long (((((own_digit v9 (10000000 : Int64)) ||| ((own_digit v9 (1000000 : Int64)) <<< ((8 : Int32).toInt64 &&& 63))) ||| ((own_digit v9 (100000 : Int64)) <<< ((16 : Int32).toInt64 &&& 63))) ||| ((own_digit v9 (10000 : Int64)) <<< ((24 : Int32).toInt64 &&& 63))) ||| ((own_digit v9 (1000 : Int64)) <<< ((32 : Int32).toInt64 &&& 63))))])) (fun _ kk => XS.lor X29.here hx rfl (hb hby at_60) rfl kk) ?_
  refine own_st (G := T27.setTop (mkF m 62 #[.val (.long p0), .second, .val (.long v9), .second, .unset, .unset] [(.long v9), (.long (((((own_digit v9 (10000000 : Int64)) ||| ((own_digit v9 (1000000 : Int64)) <<< ((8 : Int32).toInt64 &&& 63))) ||| ((own_digit v9 (100000 : Int64)) <<< ((16 : Int32).toInt64 &&& 63))) ||| ((own_digit v9 (10000 : Int64)) <<< ((24 : Int32).toInt64 &&& 63))) ||| ((own_digit v9 (1000 : Int64)) <<< ((32 : Int32).toInt64 &&& 63))))])) (fun _ kk => XS.lloadN X29.here hx rfl (hb hby at_61) rfl kk) ?_
  refine own_st (G := T27.setTop (mkF m 65 #[.val (.long p0), .second, .val (.long v9), .second, .unset, .unset] [(.long (100 : Int64)), (.long v9), (.long (((((own_digit v9 (10000000 : Int64)) ||| ((own_digit v9 (1000000 : Int64)) <<< ((8 : Int32).toInt64 &&& 63))) ||| ((own_digit v9 (100000 : Int64)) <<< ((16 : Int32).toInt64 &&& 63))) ||| ((own_digit v9 (10000 : Int64)) <<< ((24 : Int32).toInt64 &&& 63))) ||| ((own_digit v9 (1000 : Int64)) <<< ((32 : Int32).toInt64 &&& 63))))])) (fun _ kk => X29.ldc2Long hx hown (mvT hZ (own_w hw 13 rfl)) (g := (mkF m 62 #[.val (.long p0), .second, .val (.long v9), .second, .unset, .unset] [(.long v9), (.long (((((own_digit v9 (10000000 : Int64)) ||| ((own_digit v9 (1000000 : Int64)) <<< ((8 : Int32).toInt64 &&& 63))) ||| ((own_digit v9 (100000 : Int64)) <<< ((16 : Int32).toInt64 &&& 63))) ||| ((own_digit v9 (10000 : Int64)) <<< ((24 : Int32).toInt64 &&& 63))) ||| ((own_digit v9 (1000 : Int64)) <<< ((32 : Int32).toInt64 &&& 63))))])) rfl (hb hby at_62) _ kk) ?_
  refine own_callS X29 hx hZ (y := (⟨"com/example/kennel/kennel/EightBytesDigitsValuePinLaw", "digitAt", "(JJ)J"⟩ : MethodName)) (as' := [(.long v9), (.long (100 : Int64))]) hown (own_w hw 3 rfl) (own_w hw 4 rfl) (own_w hw 5 rfl) (own_w hw 6 rfl) (by decide) (own_rm1 l Z a0 hw [] v9 (100 : Int64) h0 n0 (by decide)) 2 (by decide) (by decide) (by decide) (by decide) (rest := [(.long (((((own_digit v9 (10000000 : Int64)) ||| ((own_digit v9 (1000000 : Int64)) <<< ((8 : Int32).toInt64 &&& 63))) ||| ((own_digit v9 (100000 : Int64)) <<< ((16 : Int32).toInt64 &&& 63))) ||| ((own_digit v9 (10000 : Int64)) <<< ((24 : Int32).toInt64 &&& 63))) ||| ((own_digit v9 (1000 : Int64)) <<< ((32 : Int32).toInt64 &&& 63))))]) (by rw [hml]; rfl) (lenOf (by decide : parseMethodDescriptor "(JJ)J" = some ⟨[.long, .long], some (.long)⟩) rfl) rfl (Nat.le_of_eq rfl) (hb hby at_65) eq25 ?_
  intro T33 L34 v36 X35 hQ
  obtain ⟨rfl, rfl, eq31⟩ := hQ
  show own_Out _ _ _ _ (T33.setTop (mkF m 68 #[.val (.long p0), .second, .val (.long v9), .second, .unset, .unset] [(.long (own_digit v9 (100 : Int64))), (.long (((((own_digit v9 (10000000 : Int64)) ||| ((own_digit v9 (1000000 : Int64)) <<< ((8 : Int32).toInt64 &&& 63))) ||| ((own_digit v9 (100000 : Int64)) <<< ((16 : Int32).toInt64 &&& 63))) ||| ((own_digit v9 (10000 : Int64)) <<< ((24 : Int32).toInt64 &&& 63))) ||| ((own_digit v9 (1000 : Int64)) <<< ((32 : Int32).toInt64 &&& 63))))]))
  have N32 := Fr.app N26 (Fr.nil n0)
  refine own_st (G := T33.setTop (mkF m 70 #[.val (.long p0), .second, .val (.long v9), .second, .unset, .unset] [(.int (40 : Int32)), (.long (own_digit v9 (100 : Int64))), (.long (((((own_digit v9 (10000000 : Int64)) ||| ((own_digit v9 (1000000 : Int64)) <<< ((8 : Int32).toInt64 &&& 63))) ||| ((own_digit v9 (100000 : Int64)) <<< ((16 : Int32).toInt64 &&& 63))) ||| ((own_digit v9 (10000 : Int64)) <<< ((24 : Int32).toInt64 &&& 63))) ||| ((own_digit v9 (1000 : Int64)) <<< ((32 : Int32).toInt64 &&& 63))))])) (fun _ kk => XT.bipushV X35.here hx rfl (40 : Int32) (hb hby at_68) (by decide) kk) ?_
  refine own_st (G := T33.setTop (mkF m 71 #[.val (.long p0), .second, .val (.long v9), .second, .unset, .unset] [(.long ((own_digit v9 (100 : Int64)) <<< ((40 : Int32).toInt64 &&& 63))), (.long (((((own_digit v9 (10000000 : Int64)) ||| ((own_digit v9 (1000000 : Int64)) <<< ((8 : Int32).toInt64 &&& 63))) ||| ((own_digit v9 (100000 : Int64)) <<< ((16 : Int32).toInt64 &&& 63))) ||| ((own_digit v9 (10000 : Int64)) <<< ((24 : Int32).toInt64 &&& 63))) ||| ((own_digit v9 (1000 : Int64)) <<< ((32 : Int32).toInt64 &&& 63))))])) (fun _ kk => XT.lshl X35.here hx rfl (hb hby at_70) rfl kk) ?_
  refine own_st (G := T33.setTop (mkF m 72 #[.val (.long p0), .second, .val (.long v9), .second, .unset, .unset] [(.long ((((((own_digit v9 (10000000 : Int64)) ||| ((own_digit v9 (1000000 : Int64)) <<< ((8 : Int32).toInt64 &&& 63))) ||| ((own_digit v9 (100000 : Int64)) <<< ((16 : Int32).toInt64 &&& 63))) ||| ((own_digit v9 (10000 : Int64)) <<< ((24 : Int32).toInt64 &&& 63))) ||| ((own_digit v9 (1000 : Int64)) <<< ((32 : Int32).toInt64 &&& 63))) ||| ((own_digit v9 (100 : Int64)) <<< ((40 : Int32).toInt64 &&& 63))))])) (fun _ kk => XS.lor X35.here hx rfl (hb hby at_71) rfl kk) ?_
  refine own_st (G := T33.setTop (mkF m 73 #[.val (.long p0), .second, .val (.long v9), .second, .unset, .unset] [(.long v9), (.long ((((((own_digit v9 (10000000 : Int64)) ||| ((own_digit v9 (1000000 : Int64)) <<< ((8 : Int32).toInt64 &&& 63))) ||| ((own_digit v9 (100000 : Int64)) <<< ((16 : Int32).toInt64 &&& 63))) ||| ((own_digit v9 (10000 : Int64)) <<< ((24 : Int32).toInt64 &&& 63))) ||| ((own_digit v9 (1000 : Int64)) <<< ((32 : Int32).toInt64 &&& 63))) ||| ((own_digit v9 (100 : Int64)) <<< ((40 : Int32).toInt64 &&& 63))))])) (fun _ kk => XS.lloadN X35.here hx rfl (hb hby at_72) rfl kk) ?_
  refine own_st (G := T33.setTop (mkF m 76 #[.val (.long p0), .second, .val (.long v9), .second, .unset, .unset] [(.long (10 : Int64)), (.long v9), (.long ((((((own_digit v9 (10000000 : Int64)) ||| ((own_digit v9 (1000000 : Int64)) <<< ((8 : Int32).toInt64 &&& 63))) ||| ((own_digit v9 (100000 : Int64)) <<< ((16 : Int32).toInt64 &&& 63))) ||| ((own_digit v9 (10000 : Int64)) <<< ((24 : Int32).toInt64 &&& 63))) ||| ((own_digit v9 (1000 : Int64)) <<< ((32 : Int32).toInt64 &&& 63))) ||| ((own_digit v9 (100 : Int64)) <<< ((40 : Int32).toInt64 &&& 63))))])) (fun _ kk => X35.ldc2Long hx hown (mvT hZ (own_w hw 8 rfl)) (g := (mkF m 73 #[.val (.long p0), .second, .val (.long v9), .second, .unset, .unset] [(.long v9), (.long ((((((own_digit v9 (10000000 : Int64)) ||| ((own_digit v9 (1000000 : Int64)) <<< ((8 : Int32).toInt64 &&& 63))) ||| ((own_digit v9 (100000 : Int64)) <<< ((16 : Int32).toInt64 &&& 63))) ||| ((own_digit v9 (10000 : Int64)) <<< ((24 : Int32).toInt64 &&& 63))) ||| ((own_digit v9 (1000 : Int64)) <<< ((32 : Int32).toInt64 &&& 63))) ||| ((own_digit v9 (100 : Int64)) <<< ((40 : Int32).toInt64 &&& 63))))])) rfl (hb hby at_73) _ kk) ?_
  refine own_callS X35 hx hZ (y := (⟨"com/example/kennel/kennel/EightBytesDigitsValuePinLaw", "digitAt", "(JJ)J"⟩ : MethodName)) (as' := [(.long v9), (.long (10 : Int64))]) hown (own_w hw 3 rfl) (own_w hw 4 rfl) (own_w hw 5 rfl) (own_w hw 6 rfl) (by decide) (own_rm1 l Z a0 hw [] v9 (10 : Int64) h0 n0 (by decide)) 2 (by decide) (by decide) (by decide) (by decide) (rest := [(.long ((((((own_digit v9 (10000000 : Int64)) ||| ((own_digit v9 (1000000 : Int64)) <<< ((8 : Int32).toInt64 &&& 63))) ||| ((own_digit v9 (100000 : Int64)) <<< ((16 : Int32).toInt64 &&& 63))) ||| ((own_digit v9 (10000 : Int64)) <<< ((24 : Int32).toInt64 &&& 63))) ||| ((own_digit v9 (1000 : Int64)) <<< ((32 : Int32).toInt64 &&& 63))) ||| ((own_digit v9 (100 : Int64)) <<< ((40 : Int32).toInt64 &&& 63))))]) (by rw [hml]; rfl) (lenOf (by decide : parseMethodDescriptor "(JJ)J" = some ⟨[.long, .long], some (.long)⟩) rfl) rfl (Nat.le_of_eq rfl) (hb hby at_76) eq31 ?_
  intro T39 L40 v42 X41 hQ
  obtain ⟨rfl, rfl, eq37⟩ := hQ
  show own_Out _ _ _ _ (T39.setTop (mkF m 79 #[.val (.long p0), .second, .val (.long v9), .second, .unset, .unset] [(.long (own_digit v9 (10 : Int64))), (.long ((((((own_digit v9 (10000000 : Int64)) ||| ((own_digit v9 (1000000 : Int64)) <<< ((8 : Int32).toInt64 &&& 63))) ||| ((own_digit v9 (100000 : Int64)) <<< ((16 : Int32).toInt64 &&& 63))) ||| ((own_digit v9 (10000 : Int64)) <<< ((24 : Int32).toInt64 &&& 63))) ||| ((own_digit v9 (1000 : Int64)) <<< ((32 : Int32).toInt64 &&& 63))) ||| ((own_digit v9 (100 : Int64)) <<< ((40 : Int32).toInt64 &&& 63))))]))
  have N38 := Fr.app N32 (Fr.nil n0)
  refine own_st (G := T39.setTop (mkF m 81 #[.val (.long p0), .second, .val (.long v9), .second, .unset, .unset] [(.int (48 : Int32)), (.long (own_digit v9 (10 : Int64))), (.long ((((((own_digit v9 (10000000 : Int64)) ||| ((own_digit v9 (1000000 : Int64)) <<< ((8 : Int32).toInt64 &&& 63))) ||| ((own_digit v9 (100000 : Int64)) <<< ((16 : Int32).toInt64 &&& 63))) ||| ((own_digit v9 (10000 : Int64)) <<< ((24 : Int32).toInt64 &&& 63))) ||| ((own_digit v9 (1000 : Int64)) <<< ((32 : Int32).toInt64 &&& 63))) ||| ((own_digit v9 (100 : Int64)) <<< ((40 : Int32).toInt64 &&& 63))))])) (fun _ kk => XT.bipushV X41.here hx rfl (48 : Int32) (hb hby at_79) (by decide) kk) ?_
  refine own_st (G := T39.setTop (mkF m 82 #[.val (.long p0), .second, .val (.long v9), .second, .unset, .unset] [(.long ((own_digit v9 (10 : Int64)) <<< ((48 : Int32).toInt64 &&& 63))), (.long ((((((own_digit v9 (10000000 : Int64)) ||| ((own_digit v9 (1000000 : Int64)) <<< ((8 : Int32).toInt64 &&& 63))) ||| ((own_digit v9 (100000 : Int64)) <<< ((16 : Int32).toInt64 &&& 63))) ||| ((own_digit v9 (10000 : Int64)) <<< ((24 : Int32).toInt64 &&& 63))) ||| ((own_digit v9 (1000 : Int64)) <<< ((32 : Int32).toInt64 &&& 63))) ||| ((own_digit v9 (100 : Int64)) <<< ((40 : Int32).toInt64 &&& 63))))])) (fun _ kk => XT.lshl X41.here hx rfl (hb hby at_81) rfl kk) ?_
  refine own_st (G := T39.setTop (mkF m 83 #[.val (.long p0), .second, .val (.long v9), .second, .unset, .unset] [(.long (((((((own_digit v9 (10000000 : Int64)) ||| ((own_digit v9 (1000000 : Int64)) <<< ((8 : Int32).toInt64 &&& 63))) ||| ((own_digit v9 (100000 : Int64)) <<< ((16 : Int32).toInt64 &&& 63))) ||| ((own_digit v9 (10000 : Int64)) <<< ((24 : Int32).toInt64 &&& 63))) ||| ((own_digit v9 (1000 : Int64)) <<< ((32 : Int32).toInt64 &&& 63))) ||| ((own_digit v9 (100 : Int64)) <<< ((40 : Int32).toInt64 &&& 63))) ||| ((own_digit v9 (10 : Int64)) <<< ((48 : Int32).toInt64 &&& 63))))])) (fun _ kk => XS.lor X41.here hx rfl (hb hby at_82) rfl kk) ?_
  refine own_st (G := T39.setTop (mkF m 84 #[.val (.long p0), .second, .val (.long v9), .second, .unset, .unset] [(.long v9), (.long (((((((own_digit v9 (10000000 : Int64)) ||| ((own_digit v9 (1000000 : Int64)) <<< ((8 : Int32).toInt64 &&& 63))) ||| ((own_digit v9 (100000 : Int64)) <<< ((16 : Int32).toInt64 &&& 63))) ||| ((own_digit v9 (10000 : Int64)) <<< ((24 : Int32).toInt64 &&& 63))) ||| ((own_digit v9 (1000 : Int64)) <<< ((32 : Int32).toInt64 &&& 63))) ||| ((own_digit v9 (100 : Int64)) <<< ((40 : Int32).toInt64 &&& 63))) ||| ((own_digit v9 (10 : Int64)) <<< ((48 : Int32).toInt64 &&& 63))))])) (fun _ kk => XS.lloadN X41.here hx rfl (hb hby at_83) rfl kk) ?_
  refine own_st (G := T39.setTop (mkF m 85 #[.val (.long p0), .second, .val (.long v9), .second, .unset, .unset] [(.long (1 : Int64)), (.long v9), (.long (((((((own_digit v9 (10000000 : Int64)) ||| ((own_digit v9 (1000000 : Int64)) <<< ((8 : Int32).toInt64 &&& 63))) ||| ((own_digit v9 (100000 : Int64)) <<< ((16 : Int32).toInt64 &&& 63))) ||| ((own_digit v9 (10000 : Int64)) <<< ((24 : Int32).toInt64 &&& 63))) ||| ((own_digit v9 (1000 : Int64)) <<< ((32 : Int32).toInt64 &&& 63))) ||| ((own_digit v9 (100 : Int64)) <<< ((40 : Int32).toInt64 &&& 63))) ||| ((own_digit v9 (10 : Int64)) <<< ((48 : Int32).toInt64 &&& 63))))])) (fun _ kk => XT.lconstV X41.here hx rfl (1 : Int64) (hb hby at_84) (by decide) kk) ?_
  refine own_callS X41 hx hZ (y := (⟨"com/example/kennel/kennel/EightBytesDigitsValuePinLaw", "digitAt", "(JJ)J"⟩ : MethodName)) (as' := [(.long v9), (.long (1 : Int64))]) hown (own_w hw 3 rfl) (own_w hw 4 rfl) (own_w hw 5 rfl) (own_w hw 6 rfl) (by decide) (own_rm1 l Z a0 hw [] v9 (1 : Int64) h0 n0 (by decide)) 2 (by decide) (by decide) (by decide) (by decide) (rest := [(.long (((((((own_digit v9 (10000000 : Int64)) ||| ((own_digit v9 (1000000 : Int64)) <<< ((8 : Int32).toInt64 &&& 63))) ||| ((own_digit v9 (100000 : Int64)) <<< ((16 : Int32).toInt64 &&& 63))) ||| ((own_digit v9 (10000 : Int64)) <<< ((24 : Int32).toInt64 &&& 63))) ||| ((own_digit v9 (1000 : Int64)) <<< ((32 : Int32).toInt64 &&& 63))) ||| ((own_digit v9 (100 : Int64)) <<< ((40 : Int32).toInt64 &&& 63))) ||| ((own_digit v9 (10 : Int64)) <<< ((48 : Int32).toInt64 &&& 63))))]) (by rw [hml]; rfl) (lenOf (by decide : parseMethodDescriptor "(JJ)J" = some ⟨[.long, .long], some (.long)⟩) rfl) rfl (Nat.le_of_eq rfl) (hb hby at_85) eq37 ?_
  intro T45 L46 v48 X47 hQ
  obtain ⟨rfl, rfl, eq43⟩ := hQ
  show own_Out _ _ _ _ (T45.setTop (mkF m 88 #[.val (.long p0), .second, .val (.long v9), .second, .unset, .unset] [(.long (own_digit v9 (1 : Int64))), (.long (((((((own_digit v9 (10000000 : Int64)) ||| ((own_digit v9 (1000000 : Int64)) <<< ((8 : Int32).toInt64 &&& 63))) ||| ((own_digit v9 (100000 : Int64)) <<< ((16 : Int32).toInt64 &&& 63))) ||| ((own_digit v9 (10000 : Int64)) <<< ((24 : Int32).toInt64 &&& 63))) ||| ((own_digit v9 (1000 : Int64)) <<< ((32 : Int32).toInt64 &&& 63))) ||| ((own_digit v9 (100 : Int64)) <<< ((40 : Int32).toInt64 &&& 63))) ||| ((own_digit v9 (10 : Int64)) <<< ((48 : Int32).toInt64 &&& 63))))]))
  have N44 := Fr.app N38 (Fr.nil n0)
  refine own_st (G := T45.setTop (mkF m 90 #[.val (.long p0), .second, .val (.long v9), .second, .unset, .unset] [(.int (56 : Int32)), (.long (own_digit v9 (1 : Int64))), (.long (((((((own_digit v9 (10000000 : Int64)) ||| ((own_digit v9 (1000000 : Int64)) <<< ((8 : Int32).toInt64 &&& 63))) ||| ((own_digit v9 (100000 : Int64)) <<< ((16 : Int32).toInt64 &&& 63))) ||| ((own_digit v9 (10000 : Int64)) <<< ((24 : Int32).toInt64 &&& 63))) ||| ((own_digit v9 (1000 : Int64)) <<< ((32 : Int32).toInt64 &&& 63))) ||| ((own_digit v9 (100 : Int64)) <<< ((40 : Int32).toInt64 &&& 63))) ||| ((own_digit v9 (10 : Int64)) <<< ((48 : Int32).toInt64 &&& 63))))])) (fun _ kk => XT.bipushV X47.here hx rfl (56 : Int32) (hb hby at_88) (by decide) kk) ?_
  refine own_st (G := T45.setTop (mkF m 91 #[.val (.long p0), .second, .val (.long v9), .second, .unset, .unset] [(.long ((own_digit v9 (1 : Int64)) <<< ((56 : Int32).toInt64 &&& 63))), (.long (((((((own_digit v9 (10000000 : Int64)) ||| ((own_digit v9 (1000000 : Int64)) <<< ((8 : Int32).toInt64 &&& 63))) ||| ((own_digit v9 (100000 : Int64)) <<< ((16 : Int32).toInt64 &&& 63))) ||| ((own_digit v9 (10000 : Int64)) <<< ((24 : Int32).toInt64 &&& 63))) ||| ((own_digit v9 (1000 : Int64)) <<< ((32 : Int32).toInt64 &&& 63))) ||| ((own_digit v9 (100 : Int64)) <<< ((40 : Int32).toInt64 &&& 63))) ||| ((own_digit v9 (10 : Int64)) <<< ((48 : Int32).toInt64 &&& 63))))])) (fun _ kk => XT.lshl X47.here hx rfl (hb hby at_90) rfl kk) ?_
  refine own_st (G := T45.setTop (mkF m 92 #[.val (.long p0), .second, .val (.long v9), .second, .unset, .unset] [(.long ((((((((own_digit v9 (10000000 : Int64)) ||| ((own_digit v9 (1000000 : Int64)) <<< ((8 : Int32).toInt64 &&& 63))) ||| ((own_digit v9 (100000 : Int64)) <<< ((16 : Int32).toInt64 &&& 63))) ||| ((own_digit v9 (10000 : Int64)) <<< ((24 : Int32).toInt64 &&& 63))) ||| ((own_digit v9 (1000 : Int64)) <<< ((32 : Int32).toInt64 &&& 63))) ||| ((own_digit v9 (100 : Int64)) <<< ((40 : Int32).toInt64 &&& 63))) ||| ((own_digit v9 (10 : Int64)) <<< ((48 : Int32).toInt64 &&& 63))) ||| ((own_digit v9 (1 : Int64)) <<< ((56 : Int32).toInt64 &&& 63))))])) (fun _ kk => XS.lor X47.here hx rfl (hb hby at_91) rfl kk) ?_
  refine own_st (G := T45.setTop (mkF m 94 #[.val (.long p0), .second, .val (.long v9), .second, .val (.long ((((((((own_digit v9 (10000000 : Int64)) ||| ((own_digit v9 (1000000 : Int64)) <<< ((8 : Int32).toInt64 &&& 63))) ||| ((own_digit v9 (100000 : Int64)) <<< ((16 : Int32).toInt64 &&& 63))) ||| ((own_digit v9 (10000 : Int64)) <<< ((24 : Int32).toInt64 &&& 63))) ||| ((own_digit v9 (1000 : Int64)) <<< ((32 : Int32).toInt64 &&& 63))) ||| ((own_digit v9 (100 : Int64)) <<< ((40 : Int32).toInt64 &&& 63))) ||| ((own_digit v9 (10 : Int64)) <<< ((48 : Int32).toInt64 &&& 63))) ||| ((own_digit v9 (1 : Int64)) <<< ((56 : Int32).toInt64 &&& 63)))), .second] [])) (fun _ kk => XS.lstore X47.here hx rfl (hb hby at_92) rfl (l' := #[.val (.long p0), .second, .val (.long v9), .second, .val (.long ((((((((own_digit v9 (10000000 : Int64)) ||| ((own_digit v9 (1000000 : Int64)) <<< ((8 : Int32).toInt64 &&& 63))) ||| ((own_digit v9 (100000 : Int64)) <<< ((16 : Int32).toInt64 &&& 63))) ||| ((own_digit v9 (10000 : Int64)) <<< ((24 : Int32).toInt64 &&& 63))) ||| ((own_digit v9 (1000 : Int64)) <<< ((32 : Int32).toInt64 &&& 63))) ||| ((own_digit v9 (100 : Int64)) <<< ((40 : Int32).toInt64 &&& 63))) ||| ((own_digit v9 (10 : Int64)) <<< ((48 : Int32).toInt64 &&& 63))) ||| ((own_digit v9 (1 : Int64)) <<< ((56 : Int32).toInt64 &&& 63)))), .second]) rfl kk) ?_
  refine own_st (G := T45.setTop (mkF m 96 #[.val (.long p0), .second, .val (.long v9), .second, .val (.long ((((((((own_digit v9 (10000000 : Int64)) ||| ((own_digit v9 (1000000 : Int64)) <<< ((8 : Int32).toInt64 &&& 63))) ||| ((own_digit v9 (100000 : Int64)) <<< ((16 : Int32).toInt64 &&& 63))) ||| ((own_digit v9 (10000 : Int64)) <<< ((24 : Int32).toInt64 &&& 63))) ||| ((own_digit v9 (1000 : Int64)) <<< ((32 : Int32).toInt64 &&& 63))) ||| ((own_digit v9 (100 : Int64)) <<< ((40 : Int32).toInt64 &&& 63))) ||| ((own_digit v9 (10 : Int64)) <<< ((48 : Int32).toInt64 &&& 63))) ||| ((own_digit v9 (1 : Int64)) <<< ((56 : Int32).toInt64 &&& 63)))), .second] [(.long ((((((((own_digit v9 (10000000 : Int64)) ||| ((own_digit v9 (1000000 : Int64)) <<< ((8 : Int32).toInt64 &&& 63))) ||| ((own_digit v9 (100000 : Int64)) <<< ((16 : Int32).toInt64 &&& 63))) ||| ((own_digit v9 (10000 : Int64)) <<< ((24 : Int32).toInt64 &&& 63))) ||| ((own_digit v9 (1000 : Int64)) <<< ((32 : Int32).toInt64 &&& 63))) ||| ((own_digit v9 (100 : Int64)) <<< ((40 : Int32).toInt64 &&& 63))) ||| ((own_digit v9 (10 : Int64)) <<< ((48 : Int32).toInt64 &&& 63))) ||| ((own_digit v9 (1 : Int64)) <<< ((56 : Int32).toInt64 &&& 63))))])) (fun _ kk => XS.lload X47.here hx rfl (hb hby at_94) rfl kk) ?_
  refine own_callS X47 hx hZ (y := (⟨"com/example/kennel/kennel/EightBytes", "digitsValue", "(J)J"⟩ : MethodName)) (as' := [(.long ((((((((own_digit v9 (10000000 : Int64)) ||| ((own_digit v9 (1000000 : Int64)) <<< ((8 : Int32).toInt64 &&& 63))) ||| ((own_digit v9 (100000 : Int64)) <<< ((16 : Int32).toInt64 &&& 63))) ||| ((own_digit v9 (10000 : Int64)) <<< ((24 : Int32).toInt64 &&& 63))) ||| ((own_digit v9 (1000 : Int64)) <<< ((32 : Int32).toInt64 &&& 63))) ||| ((own_digit v9 (100 : Int64)) <<< ((40 : Int32).toInt64 &&& 63))) ||| ((own_digit v9 (10 : Int64)) <<< ((48 : Int32).toInt64 &&& 63))) ||| ((own_digit v9 (1 : Int64)) <<< ((56 : Int32).toInt64 &&& 63))))]) hown (own_w hw 14 rfl) (own_w hw 15 rfl) (own_w hw 16 rfl) (own_w hw 17 rfl) (by decide) (own_rm2 l Z a0 hw [] ((((((((own_digit v9 (10000000 : Int64)) ||| ((own_digit v9 (1000000 : Int64)) <<< ((8 : Int32).toInt64 &&& 63))) ||| ((own_digit v9 (100000 : Int64)) <<< ((16 : Int32).toInt64 &&& 63))) ||| ((own_digit v9 (10000 : Int64)) <<< ((24 : Int32).toInt64 &&& 63))) ||| ((own_digit v9 (1000 : Int64)) <<< ((32 : Int32).toInt64 &&& 63))) ||| ((own_digit v9 (100 : Int64)) <<< ((40 : Int32).toInt64 &&& 63))) ||| ((own_digit v9 (10 : Int64)) <<< ((48 : Int32).toInt64 &&& 63))) ||| ((own_digit v9 (1 : Int64)) <<< ((56 : Int32).toInt64 &&& 63))) h0 n0) 0 (by decide) (by decide) (by decide) (by decide) (rest := []) (by rw [hml]; rfl) (lenOf (by decide : parseMethodDescriptor "(J)J" = some ⟨[.long], some (.long)⟩) rfl) rfl (Nat.le_of_eq rfl) (hb hby at_96) eq43 ?_
  intro T51 L52 v54 X53 hQ
  obtain ⟨rfl, rfl, eq49⟩ := hQ
  show own_Out _ _ _ _ (T51.setTop (mkF m 99 #[.val (.long p0), .second, .val (.long v9), .second, .val (.long ((((((((own_digit v9 (10000000 : Int64)) ||| ((own_digit v9 (1000000 : Int64)) <<< ((8 : Int32).toInt64 &&& 63))) ||| ((own_digit v9 (100000 : Int64)) <<< ((16 : Int32).toInt64 &&& 63))) ||| ((own_digit v9 (10000 : Int64)) <<< ((24 : Int32).toInt64 &&& 63))) ||| ((own_digit v9 (1000 : Int64)) <<< ((32 : Int32).toInt64 &&& 63))) ||| ((own_digit v9 (100 : Int64)) <<< ((40 : Int32).toInt64 &&& 63))) ||| ((own_digit v9 (10 : Int64)) <<< ((48 : Int32).toInt64 &&& 63))) ||| ((own_digit v9 (1 : Int64)) <<< ((56 : Int32).toInt64 &&& 63)))), .second] [(.long (own_value ((((((((own_digit v9 (10000000 : Int64)) ||| ((own_digit v9 (1000000 : Int64)) <<< ((8 : Int32).toInt64 &&& 63))) ||| ((own_digit v9 (100000 : Int64)) <<< ((16 : Int32).toInt64 &&& 63))) ||| ((own_digit v9 (10000 : Int64)) <<< ((24 : Int32).toInt64 &&& 63))) ||| ((own_digit v9 (1000 : Int64)) <<< ((32 : Int32).toInt64 &&& 63))) ||| ((own_digit v9 (100 : Int64)) <<< ((40 : Int32).toInt64 &&& 63))) ||| ((own_digit v9 (10 : Int64)) <<< ((48 : Int32).toInt64 &&& 63))) ||| ((own_digit v9 (1 : Int64)) <<< ((56 : Int32).toInt64 &&& 63)))))]))
  have N50 := Fr.app N44 (Fr.nil n0)
  refine own_st (G := T51.setTop (mkF m 100 #[.val (.long p0), .second, .val (.long v9), .second, .val (.long ((((((((own_digit v9 (10000000 : Int64)) ||| ((own_digit v9 (1000000 : Int64)) <<< ((8 : Int32).toInt64 &&& 63))) ||| ((own_digit v9 (100000 : Int64)) <<< ((16 : Int32).toInt64 &&& 63))) ||| ((own_digit v9 (10000 : Int64)) <<< ((24 : Int32).toInt64 &&& 63))) ||| ((own_digit v9 (1000 : Int64)) <<< ((32 : Int32).toInt64 &&& 63))) ||| ((own_digit v9 (100 : Int64)) <<< ((40 : Int32).toInt64 &&& 63))) ||| ((own_digit v9 (10 : Int64)) <<< ((48 : Int32).toInt64 &&& 63))) ||| ((own_digit v9 (1 : Int64)) <<< ((56 : Int32).toInt64 &&& 63)))), .second] [(.long v9), (.long (own_value ((((((((own_digit v9 (10000000 : Int64)) ||| ((own_digit v9 (1000000 : Int64)) <<< ((8 : Int32).toInt64 &&& 63))) ||| ((own_digit v9 (100000 : Int64)) <<< ((16 : Int32).toInt64 &&& 63))) ||| ((own_digit v9 (10000 : Int64)) <<< ((24 : Int32).toInt64 &&& 63))) ||| ((own_digit v9 (1000 : Int64)) <<< ((32 : Int32).toInt64 &&& 63))) ||| ((own_digit v9 (100 : Int64)) <<< ((40 : Int32).toInt64 &&& 63))) ||| ((own_digit v9 (10 : Int64)) <<< ((48 : Int32).toInt64 &&& 63))) ||| ((own_digit v9 (1 : Int64)) <<< ((56 : Int32).toInt64 &&& 63)))))])) (fun _ kk => XS.lloadN X53.here hx rfl (hb hby at_99) rfl kk) ?_
  refine own_st (G := T51.setTop (mkF m 101 #[.val (.long p0), .second, .val (.long v9), .second, .val (.long ((((((((own_digit v9 (10000000 : Int64)) ||| ((own_digit v9 (1000000 : Int64)) <<< ((8 : Int32).toInt64 &&& 63))) ||| ((own_digit v9 (100000 : Int64)) <<< ((16 : Int32).toInt64 &&& 63))) ||| ((own_digit v9 (10000 : Int64)) <<< ((24 : Int32).toInt64 &&& 63))) ||| ((own_digit v9 (1000 : Int64)) <<< ((32 : Int32).toInt64 &&& 63))) ||| ((own_digit v9 (100 : Int64)) <<< ((40 : Int32).toInt64 &&& 63))) ||| ((own_digit v9 (10 : Int64)) <<< ((48 : Int32).toInt64 &&& 63))) ||| ((own_digit v9 (1 : Int64)) <<< ((56 : Int32).toInt64 &&& 63)))), .second] [(.int (BdW.cmpL (own_value ((((((((own_digit v9 (10000000 : Int64)) ||| ((own_digit v9 (1000000 : Int64)) <<< ((8 : Int32).toInt64 &&& 63))) ||| ((own_digit v9 (100000 : Int64)) <<< ((16 : Int32).toInt64 &&& 63))) ||| ((own_digit v9 (10000 : Int64)) <<< ((24 : Int32).toInt64 &&& 63))) ||| ((own_digit v9 (1000 : Int64)) <<< ((32 : Int32).toInt64 &&& 63))) ||| ((own_digit v9 (100 : Int64)) <<< ((40 : Int32).toInt64 &&& 63))) ||| ((own_digit v9 (10 : Int64)) <<< ((48 : Int32).toInt64 &&& 63))) ||| ((own_digit v9 (1 : Int64)) <<< ((56 : Int32).toInt64 &&& 63)))) v9))])) (fun _ kk => XT.lcmp X53.here hx rfl (hb hby at_100) rfl kk) ?_
  have hk55 : ((own_value ((((((((own_digit v9 (10000000 : Int64)) ||| ((own_digit v9 (1000000 : Int64)) <<< ((8 : Int32).toInt64 &&& 63))) ||| ((own_digit v9 (100000 : Int64)) <<< ((16 : Int32).toInt64 &&& 63))) ||| ((own_digit v9 (10000 : Int64)) <<< ((24 : Int32).toInt64 &&& 63))) ||| ((own_digit v9 (1000 : Int64)) <<< ((32 : Int32).toInt64 &&& 63))) ||| ((own_digit v9 (100 : Int64)) <<< ((40 : Int32).toInt64 &&& 63))) ||| ((own_digit v9 (10 : Int64)) <<< ((48 : Int32).toInt64 &&& 63))) ||| ((own_digit v9 (1 : Int64)) <<< ((56 : Int32).toInt64 &&& 63)))) = v9) := own_plain v9 (own_b p0 v9 hv9).1 (own_b p0 v9 hv9).2
  refine own_st (G := T51.setTop (mkF m 104 #[.val (.long p0), .second, .val (.long v9), .second, .val (.long ((((((((own_digit v9 (10000000 : Int64)) ||| ((own_digit v9 (1000000 : Int64)) <<< ((8 : Int32).toInt64 &&& 63))) ||| ((own_digit v9 (100000 : Int64)) <<< ((16 : Int32).toInt64 &&& 63))) ||| ((own_digit v9 (10000 : Int64)) <<< ((24 : Int32).toInt64 &&& 63))) ||| ((own_digit v9 (1000 : Int64)) <<< ((32 : Int32).toInt64 &&& 63))) ||| ((own_digit v9 (100 : Int64)) <<< ((40 : Int32).toInt64 &&& 63))) ||| ((own_digit v9 (10 : Int64)) <<< ((48 : Int32).toInt64 &&& 63))) ||| ((own_digit v9 (1 : Int64)) <<< ((56 : Int32).toInt64 &&& 63)))), .second] [])) (fun _ kk => XS.ifNo X53.here hx rfl (hb hby at_101) rfl (XT.ll_ne_f hk55) kk) ?_
  refine own_st (G := T51.setTop (mkF m 105 #[.val (.long p0), .second, .val (.long v9), .second, .val (.long ((((((((own_digit v9 (10000000 : Int64)) ||| ((own_digit v9 (1000000 : Int64)) <<< ((8 : Int32).toInt64 &&& 63))) ||| ((own_digit v9 (100000 : Int64)) <<< ((16 : Int32).toInt64 &&& 63))) ||| ((own_digit v9 (10000 : Int64)) <<< ((24 : Int32).toInt64 &&& 63))) ||| ((own_digit v9 (1000 : Int64)) <<< ((32 : Int32).toInt64 &&& 63))) ||| ((own_digit v9 (100 : Int64)) <<< ((40 : Int32).toInt64 &&& 63))) ||| ((own_digit v9 (10 : Int64)) <<< ((48 : Int32).toInt64 &&& 63))) ||| ((own_digit v9 (1 : Int64)) <<< ((56 : Int32).toInt64 &&& 63)))), .second] [(.int (1 : Int32))])) (fun _ kk => XT.iconstV X53.here hx rfl (1 : Int32) (hb hby at_104) (by decide) kk) ?_
  refine own_st (G := T51.setTop (mkF m 109 #[.val (.long p0), .second, .val (.long v9), .second, .val (.long ((((((((own_digit v9 (10000000 : Int64)) ||| ((own_digit v9 (1000000 : Int64)) <<< ((8 : Int32).toInt64 &&& 63))) ||| ((own_digit v9 (100000 : Int64)) <<< ((16 : Int32).toInt64 &&& 63))) ||| ((own_digit v9 (10000 : Int64)) <<< ((24 : Int32).toInt64 &&& 63))) ||| ((own_digit v9 (1000 : Int64)) <<< ((32 : Int32).toInt64 &&& 63))) ||| ((own_digit v9 (100 : Int64)) <<< ((40 : Int32).toInt64 &&& 63))) ||| ((own_digit v9 (10 : Int64)) <<< ((48 : Int32).toInt64 &&& 63))) ||| ((own_digit v9 (1 : Int64)) <<< ((56 : Int32).toInt64 &&& 63)))), .second] [(.int (1 : Int32))])) (fun _ kk => XS.goto X53.here hx rfl (pc0 := 105) (pc' := 109) rfl (hb hby at_105) (by decide) (by decide) kk) ?_
  refine own_retB X53 hx hret (by simp) hlk (hb hby at_109) (by decide) (by decide) ?_
  exact ⟨rfl, N50⟩
set_option maxRecDepth 65536 in
set_option maxHeartbeats 40000000 in
theorem comes_1 {Post : Tables → Env → Array Value → State → Outcome → State → Prop} (hpost : ∀ tb e args s v u, (limb_1_1.after args s (.returned v) u = true ∧ limb_1_2.after args s (.returned v) u = true ∧ True) → FrameEnd s (.returned v) u (Jvm.fieldLocs frame_1_writes args s ++ Jvm.arrayLocs frame_1_arrays args s ++ Jvm.staticLocs frame_1_statics s) 0 0 → Post tb e args s (.returned v) u) :
    ArmFor flags0 classFile x code maxLocals ret World_1 tables_1 room_1 Calls_1 rest_1 Pre_1 Post := by
  intro l hfl _ _ p e ha hc hk s m args below hf hA hF happ hP
  obtain ⟨hcalls, hrest, hpre⟩ := hP
  obtain ⟨-, -, -, hnamed, -, -, -, hat⟩ := (Spec.applies_iff hf).mp happ
  obtain ⟨hg, hn⟩ := and_e (Cond.before_iff.mp (show (Jvm.Cond.and given_1 narrow_1).before args s = true from hpre))
  obtain ⟨hct, hk0⟩ := and_e hg
  have ha0 := hk0
  obtain ⟨w0, rfl⟩ : ∃ w0 : Value, args = #[w0] := by
    have hs : args.size = 1 := by simpa [Cond.value, given_1] using hct
    obtain ⟨L⟩ := args
    match L, hs with
    | [w0], _ => exact ⟨w0, rfl⟩
  have hw := fun d (hd : d ∈ tables_1) => atoms_spec (ws := Jvm.Cond.code x code maxLocals ret :: tables_1) hat d (List.mem_cons_of_mem _ hd)
  obtain ⟨i0, e0⟩ := isL_v ha0
  obtain rfl : w0 = (.long i0) := Option.some.inj e0
  obtain ⟨n, o, h1, h2, h3, _, L, rfl, ⟨rfl, N⟩, hq⟩ := own_law l s _ hw tables_1 i0 s.heap s.heap.size p e ha hc hk s m _ below hf ((Spec.applies_iff_loose hf).mp happ).1 ⟨rfl, State.Warmed39.refl s, rfl⟩ trivial
  refine ⟨n, _, h1, h2, h3, hpost _ _ _ _ _ _ ⟨Cond.after_iff.mpr rfl, Cond.after_iff.mpr (eq_i res_at (Term.int_eval (1)) rfl), trivial⟩ ⟨hq.1, hq.2.1, (hq.2.2.sift fun y hy => Or.inr (N y hy)).mono (by decide) (by decide)⟩⟩
theorem main_1_1 : Claimed_1_1 := comes_1 fun _ _ _ _ _ _ h hF => ⟨h.1, hF⟩
theorem main_1_2 : Claimed_1_2 := comes_1 fun _ _ _ _ _ _ h hF => ⟨h.2.1, hF⟩
end Jvm.Pilot.@@N@@
namespace Jvm.Pilot.@@N@@
open Jvm Jvm.ClassFile Sem Op Lib Jvm.Free Jvm.Stand Jvm.Pilot.@@N@@.Jvm.D
/-! MADE BY PROGRAM (witnessworld.py) out of the Statement's table words and the real class files: 9 classes; the members and pool entries that the words name. The judged class is class 1, her method 2. -/
namespace start1
open Jvm.ClassFile
def u (s : String) : CpInfo := .utf8 (stringToUtf16 s)
/-- a pool by its gaps: so many unusable entries, then the entry; so many at the end -/
def gap : Nat → List CpInfo → List CpInfo
  | 0, r => r
  | n + 1, r => .unusable :: gap n r
def poolList (es : List (Nat × CpInfo)) (last : Nat) : List CpInfo := es.foldr (fun e r => gap e.1 (e.2 :: r)) (gap last [])
def pool (es : List (Nat × CpInfo)) (last : Nat) : Array CpInfo := ⟨poolList es last⟩
def fileOf (pool : Array CpInfo) (this : Nat) (attrs : Array Attribute := #[]) (ms : Array MethodInfo := #[]) (fl : Nat := 33) (sup : Nat := 0) (ifs : Array Nat := #[]) (fds : Array FieldInfo := #[]) : ClassFile where
  minorVersion := 0
  majorVersion := 65
  constantPool := pool
  accessFlags := fl
  thisClass := this
  superClass := sup
  interfaces := ifs
  fields := fds
  methods := ms
  attributes := attrs
def plain (name : String) (sup : Option ClassId) : Class where
  name := name
  kind := .ordinary
  loader := none
  accessFlags := 33
  super := sup
  interfaces := #[]
  cf := none
  fields := #[]
  methods := #[]
  instanceTypes := #[]
  staticTypes := #[]
  resolved := #[]
  callSites := []
  init := .initialized
  statics := none
  mirror := none

def pool0 : Array CpInfo := pool [(5, u "<init>"), (0, u "()V"), (1, .class_ 10), (1, u "java/lang/Object")] 113

def k0m0 : Method := { name := "<init>", desc := "()V", sig := { parameters := [], returnType := none }, accessFlags := 1, code := none }
/-- java/lang/Object -/
def k0 : Class := { plain "java/lang/Object" none with
  accessFlags := 33
  interfaces := #[]
  cf := some (fileOf pool0 8 #[] #[{ accessFlags := 1, nameIndex := 5, descriptorIndex := 6, attributes := #[] }] 33 0 #[] #[])
  fields := #[]
  methods := #[k0m0]
  instanceTypes := #[]
  staticTypes := #[]
  resolved := Array.replicate 124 none
  statics := none }

def pool1 : Array CpInfo := pool [(2, .class_ 4), (1, u "java/lang/Object"), (0, u "<init>"), (0, u "()V"), (0, .long 48), (1, .long 10), (3, .long 9223372036854775807), (1, .long 100000000), (1, .long 10000000), (1, .methodref 20 21), (0, .class_ 22), (0, .nameAndType 23 24), (0, u "com/example/kennel/kennel/EightBytesDigitsValuePinLaw"), (0, u "digitAt"), (0, u "(JJ)J"), (0, .long 1000000), (1, .long 100000), (1, .long 10000), (1, .long 1000), (1, .long 100), (1, .methodref 36 37), (0, .class_ 38), (0, .nameAndType 39 40), (0, u "com/example/kennel/kennel/EightBytes"), (0, u "digitsValue"), (0, u "(J)J"), (2, u "law"), (0, u "(J)Z")] 3

def k1m0 : Method := { name := "<init>", desc := "()V", sig := { parameters := [], returnType := none }, accessFlags := 2, code := none }
def k1c1 : Code := { maxStack := 6, maxLocals := 4, code := method_2_code, exceptionTable := #[], attributes := #[] }
def k1m1 : Method := { name := "digitAt", desc := "(JJ)J", sig := { parameters := [.long, .long], returnType := some .long }, accessFlags := 10, code := some k1c1 }
def k1c2 : Code := { maxStack := 6, maxLocals := 6, code := code, exceptionTable := #[], attributes := #[] }
def k1m2 : Method := { name := "law", desc := "(J)Z", sig := { parameters := [.long], returnType := some .boolean }, accessFlags := 9, code := some k1c2 }
/-- com/example/kennel/kennel/EightBytesDigitsValuePinLaw -/
def k1 : Class := { plain "com/example/kennel/kennel/EightBytesDigitsValuePinLaw" (some 0) with
  accessFlags := 49
  interfaces := #[]
  cf := some (fileOf pool1 20 #[] #[{ accessFlags := 2, nameIndex := 5, descriptorIndex := 6, attributes := #[] }, { accessFlags := 10, nameIndex := 23, descriptorIndex := 24, attributes := #[] }, { accessFlags := 9, nameIndex := 43, descriptorIndex := 44, attributes := #[] }] 49 2 #[] #[])
  fields := #[]
  methods := #[k1m0, k1m1, k1m2]
  instanceTypes := #[]
  staticTypes := #[]
  resolved := Array.replicate 48 none
  statics := none }

def pool2 : Array CpInfo := pool [(1, .class_ 2), (0, u "com/example/kennel/kennel/EightBytes"), (1, .class_ 6), (1, u "java/lang/Object"), (0, u "<init>"), (0, u "()V"), (2, u "LONGS"), (0, u "Ljava/lang/invoke/VarHandle;"), (41, u "(J)J"), (2, .long 3472328296227680304), (3, .long 10), (1, .long 71777214294589695), (1, .long 100), (1, .long 281470681808895), (1, .long 10000), (1, .long 4294967295), (14, u "TEN_POWERS"), (0, u "[J"), (19, u "digitsValue"), (21, u "EACH"), (0, u "J"), (1, u "TOP_BITS"), (0, u "HIGH_HALVES"), (0, u "SIX"), (2, u "THREES"), (0, u "SPACE"), (0, u "BACKSLASH"), (0, u "MOST_DIGITS"), (0, u "I"), (1, u "EIGHT_DIGITS"), (0, u "EIGHT_ZEROS")] 18

def k2m0 : Method := { name := "<init>", desc := "()V", sig := { parameters := [], returnType := none }, accessFlags := 2, code := none }
def k2c1 : Code := { maxStack := 5, maxLocals := 8, code := prog_11_method_9_code, exceptionTable := #[], attributes := #[] }
def k2m1 : Method := { name := "digitsValue", desc := "(J)J", sig := { parameters := [.long], returnType := some .long }, accessFlags := 8, code := some k2c1 }
/-- com/example/kennel/kennel/EightBytes -/
def k2 : Class := { plain "com/example/kennel/kennel/EightBytes" (some 0) with
  accessFlags := 48
  interfaces := #[]
  cf := some (fileOf pool2 1 #[] #[{ accessFlags := 2, nameIndex := 7, descriptorIndex := 8, attributes := #[] }, { accessFlags := 8, nameIndex := 107, descriptorIndex := 54, attributes := #[] }] 48 4 #[] #[{ accessFlags := 24, nameIndex := 129, descriptorIndex := 130, attributes := #[] }, { accessFlags := 26, nameIndex := 132, descriptorIndex := 130, attributes := #[] }, { accessFlags := 26, nameIndex := 133, descriptorIndex := 130, attributes := #[] }, { accessFlags := 26, nameIndex := 134, descriptorIndex := 130, attributes := #[] }, { accessFlags := 26, nameIndex := 137, descriptorIndex := 130, attributes := #[] }, { accessFlags := 26, nameIndex := 138, descriptorIndex := 130, attributes := #[] }, { accessFlags := 26, nameIndex := 139, descriptorIndex := 130, attributes := #[] }, { accessFlags := 24, nameIndex := 140, descriptorIndex := 141, attributes := #[] }, { accessFlags := 26, nameIndex := 143, descriptorIndex := 130, attributes := #[] }, { accessFlags := 26, nameIndex := 144, descriptorIndex := 130, attributes := #[] }, { accessFlags := 26, nameIndex := 86, descriptorIndex := 87, attributes := #[] }, { accessFlags := 26, nameIndex := 11, descriptorIndex := 12, attributes := #[] }])
  fields := #[{ name := "EACH", type := .long, accessFlags := 24, slot := 0, constantValue := 0 }, { name := "TOP_BITS", type := .long, accessFlags := 26, slot := 1, constantValue := 0 }, { name := "HIGH_HALVES", type := .long, accessFlags := 26, slot := 2, constantValue := 0 }, { name := "SIX", type := .long, accessFlags := 26, slot := 3, constantValue := 0 }, { name := "THREES", type := .long, accessFlags := 26, slot := 4, constantValue := 0 }, { name := "SPACE", type := .long, accessFlags := 26, slot := 5, constantValue := 0 }, { name := "BACKSLASH", type := .long, accessFlags := 26, slot := 6, constantValue := 0 }, { name := "MOST_DIGITS", type := .int, accessFlags := 24, slot := 7, constantValue := 0 }, { name := "EIGHT_DIGITS", type := .long, accessFlags := 26, slot := 8, constantValue := 0 }, { name := "EIGHT_ZEROS", type := .long, accessFlags := 26, slot := 9, constantValue := 0 }, { name := "TEN_POWERS", type := (.array .long), accessFlags := 26, slot := 10, constantValue := 0 }, { name := "LONGS", type := (.object "java/lang/invoke/VarHandle"), accessFlags := 26, slot := 11, constantValue := 0 }]
  methods := #[k2m0, k2m1]
  instanceTypes := #[]
  staticTypes := #[.long, .long, .long, .long, .long, .long, .long, .int, .long, .long, (.array .long), (.object "java/lang/invoke/VarHandle")]
  resolved := Array.replicate 163 none
  statics := none }

def pool3 : Array CpInfo := pool [(1, u "java/lang/Cloneable"), (0, .class_ 1), (0, u "java/lang/Object"), (0, .class_ 3)] 3

/-- java/lang/Cloneable -/
def k3 : Class := { plain "java/lang/Cloneable" (some 0) with
  accessFlags := 1537
  interfaces := #[]
  cf := some (fileOf pool3 2 #[] #[] 1537 4 #[] #[])
  fields := #[]
  methods := #[]
  instanceTypes := #[]
  staticTypes := #[]
  resolved := Array.replicate 8 none
  statics := none }

def pool4 : Array CpInfo := pool [(1, u "java/io/Serializable"), (0, .class_ 1), (0, u "java/lang/Object"), (0, .class_ 3)] 3

/-- java/io/Serializable -/
def k4 : Class := { plain "java/io/Serializable" (some 0) with
  accessFlags := 1537
  interfaces := #[]
  cf := some (fileOf pool4 2 #[] #[] 1537 4 #[] #[])
  fields := #[]
  methods := #[]
  instanceTypes := #[]
  staticTypes := #[]
  resolved := Array.replicate 8 none
  statics := none }

/-- the primitive byte -/
def k5 : Class := { plain "byte" none with kind := .primitive 'B', accessFlags := 0x411 }
/-- [B -/
def k6 : Class := { plain "[B" (some 0) with kind := .array 5 .byte, interfaces := #[3, 4], accessFlags := 1041 }

/-- the primitive int -/
def k7 : Class := { plain "int" none with kind := .primitive 'I', accessFlags := 0x411 }
/-- [I -/
def k8 : Class := { plain "[I" (some 0) with kind := .array 7 .int, interfaces := #[3, 4], accessFlags := 1041 }

def heap : Heap := #[]
def classes : Array Class := #[k0, k1, k2, k3, k4, k5, k6, k7, k8]
def interned : List (Array UInt16 × Addr) := []
def slotsUsed : Nat := 0
def theMethod : MethodId := ⟨1, 2⟩
def args0 : Array Value := #[.long 5]
def aboutOver (below : List Frame) : State where
  vm := { classes := classes, interned := interned.toArray }
  heap := heap
  slotsUsed := slotsUsed
  threads := #[{ frames := .invoking theMethod args0 :: below }]
def below0 : List Frame := [.native { method := ⟨0, 0⟩, args := #[] }]
def about1 : State := aboutOver below0
def p0 : Program := .bare "" "" ""
def e0 : Env := launch0.env 0 0 0
theorem w_frames : about1.frames = Frame.invoking theMethod args0 :: below0 := rfl
set_option maxRecDepth 65536 in
theorem w_args : argsFit about1.vm theMethod args0 = true := by decide +kernel
set_option maxRecDepth 65536 in
theorem w_heap : heapFits about1 = true := by decide +kernel
set_option maxRecDepth 65536 in
theorem w_runnable : about1.curStatus? = some .runnable := by decide +kernel
set_option maxRecDepth 65536 in
theorem w_alone : about1.alone = true := by decide +kernel
set_option maxRecDepth 65536 in
theorem w_named : about1.methodNamed? x = some theMethod := by decide +kernel
set_option maxRecDepth 65536 in
theorem w_hears : about1.hears theMethod below0 = true := by decide +kernel
set_option maxRecDepth 65536 in
theorem w_ripe : about1.ripe theMethod args0 below0 = true := by decide +kernel
theorem w_running : about1.status = .running := rfl
set_option maxRecDepth 65536 in
theorem w_room : about1.hasRoom e0.platform room_1 = true :=
  launch0.hasRoom_least _ room_1 (by decide +kernel) (by decide +kernel) (by decide +kernel) (by decide +kernel) (by decide +kernel) (by decide +kernel)
theorem allAtoms_all (ts : List Jvm.Cond) (a : Array Jvm.Value) (st : Jvm.State) : (allAtoms ts).before a st = ts.all (fun c => c.before a st) := by
  induction ts with
  | nil => rfl
  | cons c t ih =>
    show (Jvm.Cond.and c (allAtoms t)).before a st = _
    rw [Jvm.Cond.before_and, ih, List.all_cons]
def words1 : List Jvm.Cond := Jvm.Cond.code x code maxLocals ret :: tables_1
/-- a 'code' word, met by the world's own term for the bytes: nothing is compared byte by byte -/
theorem code_word {y : MethodName} {bytes : ByteArray} {mx : Nat} {rt : Option FieldType} {a : Array Value} {s : State} {m : MethodId} {meth : Method} {c : Code} (h1 : s.methodNamed? y = some m) (h2 : s.vm.method? m = some meth) (h3 : meth.code = some c) (h4 : c.code = bytes)
    (h5 : (c.maxLocals == mx && c.exceptionTable.isEmpty && decide (c.maxStack ≤ mostOperands) && decide (meth.sig.returnType = rt) && !meth.locks && decide (parseMethodDescriptor y.desc = some meth.sig)) = true) : (Jvm.Cond.code y bytes mx rt).before a s = true := by
  simp only [Bool.and_eq_true, beq_iff_eq, Bool.not_eq_true', decide_eq_true_eq] at h5
  obtain ⟨⟨⟨⟨⟨g1, g2⟩, g3⟩, g4⟩, g5⟩, g6⟩ := h5
  simp [Cond.before, Cond.holds, Cond.value, h1, h2, h3, h4, g1, g2, g3, g4, g5, g6]
def isCode : Jvm.Cond → Bool
  | .code _ _ _ _ => true
  | _ => false
theorem all_split {L : List Jvm.Cond} {P : Jvm.Cond → Bool} (h1 : L.all (fun c => isCode c || P c) = true) (h2 : ∀ c ∈ L.filter isCode, P c = true) : L.all P = true := by
  refine List.all_eq_true.mpr fun c hc => ?_
  have h := List.all_eq_true.mp h1 c hc
  rcases Bool.eq_false_or_eq_true (isCode c) with hi | hi
  · exact h2 c (List.mem_filter.mpr ⟨hc, hi⟩)
  · simpa [hi] using h
set_option maxRecDepth 65536 in
theorem w_c0 : (Jvm.Cond.code x code maxLocals ret).before args0 about1 = true := code_word (m := ⟨1, 2⟩) (meth := k1m2) (c := k1c2) (by decide +kernel) rfl rfl rfl (by decide +kernel)
set_option maxRecDepth 65536 in
theorem w_c1 : (Jvm.Cond.code ({ cls := "com/example/kennel/kennel/EightBytesDigitsValuePinLaw", name := "digitAt", desc := "(JJ)J" } : Jvm.MethodName) method_2_code (4 : Nat) (Option.some Jvm.ClassFile.FieldType.long)).before args0 about1 = true := code_word (m := ⟨1, 1⟩) (meth := k1m1) (c := k1c1) (by decide +kernel) rfl rfl rfl (by decide +kernel)
set_option maxRecDepth 65536 in
theorem w_c2 : (Jvm.Cond.code ({ cls := "com/example/kennel/kennel/EightBytes", name := "digitsValue", desc := "(J)J" } : Jvm.MethodName) prog_11_method_9_code (8 : Nat) (Option.some Jvm.ClassFile.FieldType.long)).before args0 about1 = true := code_word (m := ⟨2, 1⟩) (meth := k2m1) (c := k2c1) (by decide +kernel) rfl rfl rfl (by decide +kernel)
def codes1 : List Jvm.Cond := [Jvm.Cond.code x code maxLocals ret, Jvm.Cond.code ({ cls := "com/example/kennel/kennel/EightBytesDigitsValuePinLaw", name := "digitAt", desc := "(JJ)J" } : Jvm.MethodName) method_2_code (4 : Nat) (Option.some Jvm.ClassFile.FieldType.long), Jvm.Cond.code ({ cls := "com/example/kennel/kennel/EightBytes", name := "digitsValue", desc := "(J)J" } : Jvm.MethodName) prog_11_method_9_code (8 : Nat) (Option.some Jvm.ClassFile.FieldType.long)]
set_option maxRecDepth 65536 in
theorem codes_eq : words1.filter isCode = codes1 := rfl
theorem w_codes : ∀ c ∈ words1.filter isCode, c.before args0 about1 = true := by
  rw [codes_eq]
  intro c hc
  simp only [codes1, List.mem_cons, List.not_mem_nil, or_false] at hc
  rcases hc with rfl | rfl | rfl
  · exact w_c0
  · exact w_c1
  · exact w_c2
set_option maxRecDepth 65536 in
theorem w_t1 : (words1.take 24).all (fun c => isCode c || c.before args0 about1) = true := by decide +kernel
set_option maxRecDepth 65536 in
theorem w_t2 : (words1.drop 24).all (fun c => isCode c || c.before args0 about1) = true := by decide +kernel
theorem w_tables : (allAtoms (Jvm.Cond.code x code maxLocals ret :: tables_1)).before args0 about1 = true := by
  rw [allAtoms_all]
  show words1.all (fun c => c.before args0 about1) = true
  refine all_split ?_ w_codes
  rw [← List.take_append_drop 24 words1, List.all_append, w_t1, w_t2]
  rfl
set_option maxRecDepth 65536 in
theorem w_case : (Jvm.Cond.and given_1 narrow_1).before args0 about1 = true := by decide +kernel
theorem w_applies : (headSpec (Jvm.Cond.code x code maxLocals ret :: tables_1) room_1).applies x e0.platform about1 = true :=
  (Spec.applies_iff w_frames).mpr ⟨w_running, w_runnable, w_alone, w_named, w_hears, w_ripe, w_room, w_tables⟩
theorem atStart : AtStart classFile x code maxLocals ret World_1 tables_1 room_1 Calls_1 rest_1 Pre_1 launch0 p0 e0 about1 theMethod args0 below0 :=
  ⟨lists_1, trivial, launch0.admits_env _ _ _, launch0.least_env, fairChoices_fair.cas, fairChoices_fair.clock, w_frames, w_args, w_heap, w_applies, trivial, trivial, w_case⟩
end start1
theorem witness_1 : WitnessClaimed_1 := ⟨start1.p0, start1.e0, start1.about1, start1.theMethod, start1.args0, start1.below0, start1.atStart⟩
end Jvm.Pilot.@@N@@
