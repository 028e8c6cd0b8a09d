import JvmDerived
import JvmDerived.Pilot.@@N@@Statement
import JvmDerived.Pilot.@@N@@Code
set_option linter.unusedVariables false
set_option linter.unusedSimpArgs false
@@BLOCK:NumsL.lean.txt@@
namespace Jvm.RoadKit
open Sem ClassFile Op Lib Jvm.Stand Jvm.Free Jvm.LawKit
section Own
variable {p : Program} {l : Launch} {e : Env} {R : Room} {s : State} {m : MethodId} {args : Array Value} {below : List Frame} {meth : Method} {c : Code} {T : State} {locs : List Loc} {cells slots : Nat} {Z : State} {a0 : Array Value} {h : Heap}
/-- from the state F the walked method comes to its end, and Q holds there -/
def own_Out (p : Program) (e : Env) (below : List Frame) (Q : Outcome → State → Prop) (F : State) : Prop :=
  ∃ s₂ o, Steps p.tables e below F s₂ ∧ s₂.status = .running ∧ Ended s₂ below o ∧ Q o s₂
/-- what a contract says of the end, out of a statement on the value, the heap and the written places -/
def own_Q (Q : Option Value → Heap → List Loc → Prop) (s : State) (k n : Nat) : Outcome → State → Prop :=
  fun o U => ∃ v L, o = .returned v ∧ Q v U.heap L ∧ FrameEnd s o U L k n
theorem own_st {Q : Outcome → State → Prop} {F G : State} (h : ∀ t, Steps p.tables e below G t → Steps p.tables e below F t) (k : own_Out p e below Q G) : own_Out p e below Q F := by
  obtain ⟨s2, o, h1, h2⟩ := k
  exact ⟨s2, o, h _ h1, h2⟩
theorem own_tr {Q : Outcome → State → Prop} {F G : State} (h : Steps p.tables e below F G) (k : own_Out p e below Q G) : own_Out p e below Q F :=
  own_st (fun _ q => h.trans q) k
theorem own_retB (X : Stand p l e R s m args below meth c T locs cells slots) (hx : p.tables.exec = Jvm.exec) {Q : Option Value → Heap → List Loc → Prop} {k n : Nat} {pc : Nat} {Ls : Array Slot} {z : Int32} {t : FieldType} {rest : List Value}
    (hret : meth.sig.returnType = some t) (ht : t = .boolean ∨ t = .byte ∨ t = .char ∨ t = .short) (hlk : meth.locks = false) (hd : decode c.code pc = .ok (.ireturn, 1)) (hc : cells ≤ k) (hs : slots ≤ n)
    (hq : Q (some (.int (nar t z))) T.heap locs) : own_Out p e below (own_Q Q s k n) (T.setTop (mkF m pc Ls (.int z :: rest))) := by
  obtain ⟨fs, hr, hrun, hended, hW, hsame⟩ := X.leave (v := some (.int (nar t z))) (fun h => by rw [hret] at h; cases h) hlk
  exact ⟨_, _, retN X hx (t := t) hret ht hd hr, hrun, hended, _, _, rfl, hq, ⟨_, rfl⟩, hW, hsame.mono hc hs⟩
theorem own_retV (X : Stand p l e R s m args below meth c T locs cells slots) (hx : p.tables.exec = Jvm.exec) {Q : Option Value → Heap → List Loc → Prop} {k n : Nat} {pc : Nat} {Ls : Array Slot} {w : Value} {t : FieldType} {i : Instr} {rest : List Value}
    (hret : meth.sig.returnType = some t) (hn : narrow t w = w)
    (hi : (i = .ireturn ∧ (t = .int ∨ t = .boolean ∨ t = .byte ∨ t = .char ∨ t = .short) ∧ ∃ z, w = .int z) ∨ (i = .lreturn ∧ t = .long ∧ ∃ z, w = .long z) ∨ (i = .dreturn ∧ t = .double ∧ ∃ z, w = .double z) ∨ (i = .freturn ∧ t = .float ∧ ∃ z, w = .float z) ∨ (i = .areturn ∧ t.isReference = true ∧ w.isRef = true))
    (hlk : meth.locks = false) (hd : decode c.code pc = .ok (i, 1)) (hc : cells ≤ k) (hs : slots ≤ n)
    (hq : Q (some w) T.heap locs) : own_Out p e below (own_Q Q s k n) (T.setTop (mkF m pc Ls (w :: rest))) := by
  obtain ⟨fs, hr, hrun, hended, hW, hsame⟩ := X.leave (v := some w) (fun h => by rw [hret] at h; cases h) hlk
  exact ⟨_, _, retOut X hx hret hn hi hd hr, hrun, hended, _, _, rfl, hq, ⟨_, rfl⟩, hW, hsame.mono hc hs⟩
theorem own_retI (X : Stand p l e R s m args below meth c T locs cells slots) (hx : p.tables.exec = Jvm.exec) {Q : Option Value → Heap → List Loc → Prop} {k n : Nat} {pc : Nat} {Ls : Array Slot} {z : Int32} {rest : List Value}
    (hret : meth.sig.returnType = some .int) (hlk : meth.locks = false) (hd : decode c.code pc = .ok (.ireturn, 1)) (hc : cells ≤ k) (hs : slots ≤ n)
    (hq : Q (some (.int z)) T.heap locs) : own_Out p e below (own_Q Q s k n) (T.setTop (mkF m pc Ls (.int z :: rest))) :=
  own_retV X hx hret rfl (Or.inl ⟨rfl, Or.inl rfl, _, rfl⟩) hlk hd hc hs hq
theorem own_retJ (X : Stand p l e R s m args below meth c T locs cells slots) (hx : p.tables.exec = Jvm.exec) {Q : Option Value → Heap → List Loc → Prop} {k n : Nat} {pc : Nat} {Ls : Array Slot} {z : Int64} {rest : List Value}
    (hret : meth.sig.returnType = some .long) (hlk : meth.locks = false) (hd : decode c.code pc = .ok (.lreturn, 1)) (hc : cells ≤ k) (hs : slots ≤ n)
    (hq : Q (some (.long z)) T.heap locs) : own_Out p e below (own_Q Q s k n) (T.setTop (mkF m pc Ls (.long z :: rest))) :=
  own_retV X hx hret rfl (Or.inr (Or.inl ⟨rfl, rfl, _, rfl⟩)) hlk hd hc hs hq
theorem own_retA (X : Stand p l e R s m args below meth c T locs cells slots) (hx : p.tables.exec = Jvm.exec) {Q : Option Value → Heap → List Loc → Prop} {k n : Nat} {pc : Nat} {Ls : Array Slot} {w : Value} {t : FieldType} {rest : List Value}
    (hret : meth.sig.returnType = some t) (ht : t.isReference = true) (hw : w.isRef = true) (hlk : meth.locks = false) (hd : decode c.code pc = .ok (.areturn, 1)) (hc : cells ≤ k) (hs : slots ≤ n)
    (hq : Q (some w) T.heap locs) : own_Out p e below (own_Q Q s k n) (T.setTop (mkF m pc Ls (w :: rest))) :=
  own_retV X hx hret (by cases t <;> first | (cases ht; done) | rfl | (cases w <;> rfl)) (Or.inr (Or.inr (Or.inr (Or.inr ⟨rfl, ht, hw⟩)))) hlk hd hc hs hq
theorem own_ret0 (X : Stand p l e R s m args below meth c T locs cells slots) (hx : p.tables.exec = Jvm.exec) {Q : Option Value → Heap → List Loc → Prop} {k n : Nat} {pc : Nat} {Ls : Array Slot}
    (hret : meth.sig.returnType = none) (hlk : meth.locks = false) (hd : decode c.code pc = .ok (.return_, 1)) (hc : cells ≤ k) (hs : slots ≤ n)
    (hq : Q none T.heap locs) : own_Out p e below (own_Q Q s k n) (T.setTop (mkF m pc Ls [])) := by
  obtain ⟨fs, hr, hrun, hended, hW, hsame⟩ := X.leave (v := none) (fun _ => rfl) hlk
  exact ⟨_, _, X.returnOut hx hret hd hr, hrun, hended, _, _, rfl, hq, ⟨_, rfl⟩, hW, hsame.mono hc hs⟩
/-- the head of every body's walk -/
theorem own_body {x : MethodName} {code : ByteArray} {maxL : Nat} {ret : Option FieldType} {ws : List Jvm.Cond} {rm : Room} {as' : Array Value} {Q : Option Value → Heap → List Loc → Prop} (hpn : plainName x.cls = true) (Lf : Array Slot)
    (hent : ∀ m, entryFrame m as' maxL = mkF m 0 Lf [])
    (body : ∀ p e s m below meth c T, Stand p l e rm s m as' below meth c T [] 0 0 → p.tables.exec = Jvm.exec → c.code = code → c.maxLocals = maxL → meth.sig.returnType = ret → meth.locks = false →
      s.vm.findClass x.cls = some m.cls → meth.name = x.name → Z.Warmed39 s.vm → T.heap = h → own_Out p e below (own_Q Q s rm.cells rm.slots) (T.setTop (mkF m 0 Lf []))) :
    MetFree l x (head1 (Jvm.Cond.code x code maxL ret :: ws) rm) (fun a U => a = as' ∧ Z.Warmed39 U.vm ∧ U.heap = h) (fun _ _ _ _ _ => True)
      (fun _ U o U' => ∃ v L, o = .returned v ∧ Q v U'.heap L ∧ FrameEnd U o U' L rm.cells rm.slots) := by
  refine MetFree.of_bodySF (plainFor_of_name hpn) hisR ?_
  intro p e s m args below meth c s₁ Bd hml0 hP hK
  obtain ⟨rfl, hZ, hh⟩ := hP
  have e0 : s₁.heap = h := by rw [← hh, Bd.state]; rfl
  obtain ⟨s2, o, h1, h2⟩ := body p e s m below meth c s₁ (Stand.of_body Bd) Bd.exec Bd.bytes hml0 Bd.returns (BodyLoose.notSynchronized Bd) (findClass_of_methodNamed Bd.named) (name_of_methodNamed Bd.named Bd.method).1 hZ e0
  exact ⟨s2, o, castTop (hent m) h1, h2⟩
/-- a static call by the callee's own contract -/
theorem own_callS (X : Stand p l e R s m args below meth c T locs cells slots) (hx : p.tables.exec = Jvm.exec) (hZ : Z.Warmed39 s.vm) {own : String} {index : Nat} {y : MethodName} {bytes : ByteArray} {maxL : Nat} {ret : Option FieldType} {rm : Room} {as' : List Value} {Q : Option Value → Heap → List Loc → Prop} {Qf : Outcome → State → Prop}
    (hown : s.vm.findClass own = some m.cls) (w1 : (Jvm.Cond.methodLink own index y).before a0 Z = true) (w2 : (Jvm.Cond.static y).before a0 Z = true) (w3 : (Jvm.Cond.initialized y.cls).before a0 Z = true) (w4 : (Jvm.Cond.code y bytes maxL ret).before a0 Z = true)
    (hy : y.cls ≠ "java/lang/invoke/MethodHandle" ∧ y.cls ≠ "java/lang/invoke/VarHandle")
    (hM : MetFree l y (head1 [Jvm.Cond.code y bytes maxL ret] rm) (fun a U => a = as'.toArray ∧ Z.Warmed39 U.vm ∧ U.heap = h) (fun _ _ _ _ _ => True) (fun _ U o U' => ∃ v L, o = .returned v ∧ Q v U'.heap L ∧ FrameEnd U o U' L rm.cells rm.slots))
    (W : Nat) (hf : rm.frames + 1 ≤ R.frames) (hl : W + (maxL + 11) + rm.locals ≤ R.locals) (hc : cells + rm.cells ≤ R.cells) (hs : slots + rm.slots ≤ R.slots)
    {pc : Nat} {Ls : Array Slot} {stk rest : List Value} (hsize : Ls.size = c.maxLocals) (hlen : ∀ sig, parseMethodDescriptor y.desc = some sig → as'.length = sig.parameters.length) (hstack : stk = as'.reverse ++ rest) (hW : (rest.map fun v => v.category).sum ≤ W) (hd : decode c.code pc = .ok (.invokestatic index, 3)) (eT : T.heap = h)
    (k : ∀ T' L v, Stand p l e R s m args below meth c T' (locs ++ L) (cells + rm.cells) (slots + rm.slots) → Q v T'.heap L → own_Out p e below Qf (T'.setTop (mkF m (pc + 3) Ls (v.toList ++ rest)))) :
    own_Out p e below Qf (T.setTop (mkF m pc Ls stk)) := by
  obtain ⟨v, _, ⟨T', L', k', n'⟩, -, X', ⟨Lc, hQ, hl', hy', hz'⟩, st⟩ := Jvm.LawKit.callS X hx (y := y) hown (mvT hZ w1) (mvT hZ w2) (mvT hZ w3) (mvT hZ w4) hy (backOf (W := W) hM hZ w4 w3 hf hl) (g := mkF m pc Ls stk) rfl hsize (argsL := as') (rest := rest) hlen hstack (by show 2 * 0 + _ ≤ _; omega) hd (fun _ _ => ⟨rfl, eT, hc, hs⟩)
  dsimp only [Pt.U, Pt.locs, Pt.cells, Pt.slots] at X' hl' hy' hz' st hQ
  subst hl' hy' hz'
  exact own_st st (k _ _ _ X' hQ)
/-- an instance method by its own contract -/
theorem own_callV (X : Stand p l e R s m args below meth c T locs cells slots) (hx : p.tables.exec = Jvm.exec) (hZ : Z.Warmed39 s.vm) {own C : String} {index : Nat} {y : MethodName} {bytes : ByteArray} {maxL : Nat} {ret : Option FieldType} {rm : Room} {b : Addr} {as' : List Value} {Q : Option Value → Heap → List Loc → Prop} {Qf : Outcome → State → Prop}
    (hown : s.vm.findClass own = some m.cls) (w1 : (Jvm.Cond.methodLink own index y).before a0 Z = true) (w2 : (Jvm.Cond.declares y).before a0 Z = true) (w5 : (Jvm.Cond.selects C y y).before a0 Z = true) (w6 : (Jvm.Cond.instanceMethod y).before a0 Z = true) (w4 : (Jvm.Cond.code y bytes maxL ret).before a0 Z = true) (w3 : (Jvm.Cond.initialized y.cls).before a0 Z = true)
    (hy : y.cls ≠ "java/lang/invoke/MethodHandle" ∧ y.cls ≠ "java/lang/invoke/VarHandle")
    (hM : MetFree l y (head1 [Jvm.Cond.code y bytes maxL ret] rm) (fun a U => a = (.ref b :: as').toArray ∧ Z.Warmed39 U.vm ∧ U.heap = h) (fun _ _ _ _ _ => True) (fun _ U o U' => ∃ v L, o = .returned v ∧ Q v U'.heap L ∧ FrameEnd U o U' L rm.cells rm.slots))
    (E : Exa Z h b C)
    (W : Nat) (hf : rm.frames + 1 ≤ R.frames) (hl : W + (maxL + 11) + rm.locals ≤ R.locals) (hc : cells + rm.cells ≤ R.cells) (hs : slots + rm.slots ≤ R.slots)
    {pc : Nat} {Ls : Array Slot} {stk rest : List Value} (hsize : Ls.size = c.maxLocals) (hlen : ∀ sig, parseMethodDescriptor y.desc = some sig → as'.length = sig.parameters.length) (hstack : stk = as'.reverse ++ .ref b :: rest) (hW : (rest.map fun v => v.category).sum ≤ W) (hd : decode c.code pc = .ok (.invokevirtual index, 3)) (eT : T.heap = h)
    (k : ∀ T' L v, Stand p l e R s m args below meth c T' (locs ++ L) (cells + rm.cells) (slots + rm.slots) → Q v T'.heap L → own_Out p e below Qf (T'.setTop (mkF m (pc + 3) Ls (v.toList ++ rest)))) :
    own_Out p e below Qf (T.setTop (mkF m pc Ls stk)) := by
  obtain ⟨cq, kq, qa, qb, qc⟩ := isOf hZ eT E
  obtain ⟨v, _, ⟨T', L', k', n'⟩, -, X', ⟨Lc, hQ, hl', hy', hz'⟩, st⟩ := X.virtualBack hx (y := y) (z := y) hown (mvT hZ w1) (mvT hZ w2) (notFace_of_selects (args := #[]) (mvT hZ w5)) (mvT hZ w5) (mvT hZ w6) hy (backOf (W := W) hM hZ w4 w3 hf hl) qa qc (g := mkF m pc Ls stk) rfl hsize (Steps.refl _) (argsL := as') (rest := rest) hlen hstack (by show 2 * 0 + _ ≤ _; omega) hd (fun _ _ => ⟨rfl, eT, hc, hs⟩)
  dsimp only [Pt.U, Pt.locs, Pt.cells, Pt.slots] at X' hl' hy' hz' st hQ
  subst hl' hy' hz'
  exact own_tr st (k _ _ _ X' hQ)
/-- a constructor by its own contract -/
theorem own_callI (X : Stand p l e R s m args below meth c T locs cells slots) (hx : p.tables.exec = Jvm.exec) (hZ : Z.Warmed39 s.vm) {own : String} {index : Nat} {y : MethodName} {bytes : ByteArray} {maxL : Nat} {rm : Room} {b : Addr} {as' : List Value} {Q : Option Value → Heap → List Loc → Prop} {Qf : Outcome → State → Prop} (hy1 : y.name = "<init>")
    (hown : s.vm.findClass own = some m.cls) (w1 : (Jvm.Cond.methodLink own index y).before a0 Z = true) (w6 : (Jvm.Cond.instanceMethod y).before a0 Z = true) (w4 : (Jvm.Cond.code y bytes maxL none).before a0 Z = true) (w3 : (Jvm.Cond.initialized y.cls).before a0 Z = true)
    (hy : y.cls ≠ "java/lang/invoke/MethodHandle" ∧ y.cls ≠ "java/lang/invoke/VarHandle")
    (hM : MetFree l y (head1 [Jvm.Cond.code y bytes maxL none] rm) (fun a U => a = (.ref b :: as').toArray ∧ Z.Warmed39 U.vm ∧ U.heap = h) (fun _ _ _ _ _ => True) (fun _ U o U' => ∃ v L, o = .returned v ∧ Q v U'.heap L ∧ FrameEnd U o U' L rm.cells rm.slots))
    (W : Nat) (hf : rm.frames + 1 ≤ R.frames) (hl : W + (maxL + 11) + rm.locals ≤ R.locals) (hc : cells + rm.cells ≤ R.cells) (hs : slots + rm.slots ≤ R.slots)
    {pc : Nat} {Ls : Array Slot} {stk rest : List Value} (hsize : Ls.size = c.maxLocals) (hlen : ∀ sig, parseMethodDescriptor y.desc = some sig → as'.length = sig.parameters.length) (hstack : stk = as'.reverse ++ .ref b :: rest) (hW : (rest.map fun v => v.category).sum ≤ W) (hd : decode c.code pc = .ok (.invokespecial index, 3)) (eT : T.heap = h)
    (k : ∀ T' L v, Stand p l e R s m args below meth c T' (locs ++ L) (cells + rm.cells) (slots + rm.slots) → Q v T'.heap L → own_Out p e below Qf (T'.setTop (mkF m (pc + 3) Ls (v.toList ++ rest)))) :
    own_Out p e below Qf (T.setTop (mkF m pc Ls stk)) := by
  obtain ⟨v, _, ⟨T', L', k', n'⟩, -, X', ⟨Lc, hQ, hl', hy', hz'⟩, st⟩ := X.specialBack hx (y := y) hy1 hown (mvT hZ w1) (mvT hZ w6) (mvT hZ w4) hy (backOf (W := W) hM hZ w4 w3 hf hl) (g := mkF m pc Ls stk) rfl hsize (Steps.refl _) (a := b) (argsL := as') (rest := rest) hlen hstack (by show 2 * 0 + _ ≤ _; omega) hd (fun _ _ => ⟨rfl, eT, hc, hs⟩)
  dsimp only [Pt.U, Pt.locs, Pt.cells, Pt.slots] at X' hl' hy' hz' st hQ
  subst hl' hy' hz'
  exact own_tr st (k _ _ _ X' hQ)
theorem own_fits {C : String} {v : Value} (h : v.isRef = true) : fits (.object C) v = true := by cases v <;> first | rfl | cases h
theorem own_narO {C : String} {v : Value} (h : v.isRef = true) : narrow (.object C) v = v := by cases v <;> first | rfl | cases h
theorem own_nf {y y' : MethodName} (hc : y'.cls = y.cls) (h : NotFace s y) (hi : (Jvm.Cond.instanceMethod y).before a0 s = true) : NotFace s y' := fun r0 h0 => by
  obtain ⟨mk, methM, hnamed, -⟩ := Cond.instanceMethod_spec hi
  have h1 := findClass_of_methodNamed hnamed
  have h2 := findClass_of_methodNamed h0
  rw [hc, h1] at h2
  have h3 := Option.some.inj h2
  rw [← h3]
  exact h mk hnamed
/-- a private method (invokevirtual) by its own contract -/
theorem own_callP (X : Stand p l e R s m args below meth c T locs cells slots) (hx : p.tables.exec = Jvm.exec) (hZ : Z.Warmed39 s.vm) {own C : String} {index : Nat} {y : MethodName} {bytes : ByteArray} {maxL : Nat} {ret : Option FieldType} {rm : Room} {b : Addr} {as' : List Value} {Q : Option Value → Heap → List Loc → Prop} {Qf : Outcome → State → Prop}
    (hown : s.vm.findClass own = some m.cls) (w1 : (Jvm.Cond.methodLink own index y).before a0 Z = true) (w6 : (Jvm.Cond.instanceMethod y).before a0 Z = true) (w8 : (Jvm.Cond.privateMethod y).before a0 Z = true) (w4 : (Jvm.Cond.code y bytes maxL ret).before a0 Z = true) (w3 : (Jvm.Cond.initialized y.cls).before a0 Z = true) (hnf : NotFace s y)
    (hy : y.cls ≠ "java/lang/invoke/MethodHandle" ∧ y.cls ≠ "java/lang/invoke/VarHandle")
    (hM : MetFree l y (head1 [Jvm.Cond.code y bytes maxL ret] rm) (fun a U => a = (.ref b :: as').toArray ∧ Z.Warmed39 U.vm ∧ U.heap = h) (fun _ _ _ _ _ => True) (fun _ U o U' => ∃ v L, o = .returned v ∧ Q v U'.heap L ∧ FrameEnd U o U' L rm.cells rm.slots))
    (E : Exa Z h b C)
    (W : Nat) (hf : rm.frames + 1 ≤ R.frames) (hl : W + (maxL + 11) + rm.locals ≤ R.locals) (hc : cells + rm.cells ≤ R.cells) (hs : slots + rm.slots ≤ R.slots)
    {pc : Nat} {Ls : Array Slot} {stk rest : List Value} (hsize : Ls.size = c.maxLocals) (hlen : ∀ sig, parseMethodDescriptor y.desc = some sig → as'.length = sig.parameters.length) (hstack : stk = as'.reverse ++ .ref b :: rest) (hW : (rest.map fun v => v.category).sum ≤ W) (hd : decode c.code pc = .ok (.invokevirtual index, 3)) (eT : T.heap = h)
    (k : ∀ T' L v, Stand p l e R s m args below meth c T' (locs ++ L) (cells + rm.cells) (slots + rm.slots) → Q v T'.heap L → own_Out p e below Qf (T'.setTop (mkF m (pc + 3) Ls (v.toList ++ rest)))) :
    own_Out p e below Qf (T.setTop (mkF m pc Ls stk)) := by
  obtain ⟨mk, methM, hnamed, hmethM, hstM, habM⟩ := Cond.instanceMethod_spec (mvT (args := args) hZ w6)
  obtain ⟨methM', cM, hmethM', -, -, -, -, -, -, hsigM⟩ := Cond.code_spec hnamed (mvT (args := args) hZ w4)
  cases hmethM.symm.trans hmethM'
  obtain ⟨kP, hkP, hkPi⟩ := hnf mk hnamed
  obtain ⟨cell, hcell, hobj⟩ := E.cell
  have hselP : selectMethod e.platform s.vm cell.cls mk = .method mk := selectMethod_private hmethM (Cond.privateMethod_at (mvP hZ w8 (args := #[])) mk methM hnamed hmethM)
  obtain ⟨vm₁, X₁, hstep₁⟩ := X.invokevirtual hx hown (mvT hZ w1) hnamed hmethM hstM hkP hkPi hy (a := b) (cell := cell) (by rw [eT]; exact hcell) hobj hselP hmethM habM hkP hkPi (g := mkF m pc Ls stk) rfl (argsL := as') (rest := rest) (hlen _ hsigM) hstack hd
  obtain ⟨v, ⟨T', L', k', n'⟩, X', ⟨Lc, hQ, hl', hy', hz'⟩, st⟩ := backOf (W := W) hM hZ w4 w3 hf hl m meth c ⟨T.setVm vm₁, locs, cells, slots⟩ { mkF m pc Ls stk with stack := rest } (.invokevirtual index) mk (.ref b :: as').toArray X₁ rfl hsize hd (by show 2 * 0 + (rest.map fun v => v.category).sum ≤ W; omega) (X₁.named hnamed) ⟨rfl, eT, hc, hs⟩
  dsimp only [Pt.U, Pt.locs, Pt.cells, Pt.slots] at X' hl' hy' hz' st hQ
  subst hl' hy' hz'
  exact own_st (fun target q => hstep₁ _ fun acts => by rw [doInvoke_state]; exact st.trans q) (k _ _ _ X' hQ)
end Own
end Jvm.RoadKit
namespace Jvm.Pilot.@@N@@
open Jvm Jvm.ClassFile Sem Op Lib Jvm.Free Jvm.Stand Jvm.LawKit Jvm.RoadKit Bundle Jvm.Pilot.@@N@@.Jvm.D
theorem own_w {Z : State} {a0 : Array Value} (hw : ∀ d ∈ tables_1, d.before a0 Z = true) {d : Jvm.Cond} (k : Nat) (h : tables_1[k]? = some d) : d.before a0 Z = true := hw _ (List.mem_of_getElem? h)
theorem own_eqi {args : Array Value} {s : State} {t : Term} {C n d : String} {k : Int32} {a : Addr} (h : (Jvm.Cond.eq (Jvm.Term.field t C n d) (Jvm.Term.int k)).value args s none s [] = some true) (ht : t.eval args s none [] s = some (.ref a)) : s.fieldOf? a C n d = some (.int k) := by
  obtain ⟨x, y, h1, h2, k1, k2⟩ := cmp_v (Or.inl h)
  obtain rfl : y = .int k := (Option.some.inj h2).symm
  obtain ⟨z, rfl⟩ := k2
  have hz := gotT (Cond.eq_ints h1 (Term.int_eval k)) h
  subst hz
  rw [← fld_at ht]
  exact h1
theorem own_fne {Z : State} {h : Heap} {a b : Addr} {C n d : String} {x y : Int32} (F : Fld Z h a C n d (.int x)) (G : Fld Z h b C n d (.int y)) (hn : x ≠ y) : a ≠ b := fun e => by
  subst e
  obtain ⟨c1, _, _, _, f1, h1, h2, -, -, -, -, h3⟩ := F
  obtain ⟨c2, _, _, _, f2, g1, g2, -, -, -, -, g3⟩ := G
  cases h1.symm.trans g1
  cases h2.symm.trans g2
  cases h3.symm.trans g3
  exact hn rfl
def own_h (x u b : Value) : Int32 := if x = u then (1 : Int32) else if x = b then (1 : Int32) else (0 : Int32)
theorem pn_own_rm1 : plainName "com/example/seqd/seqd/config/Policy" = true := by first | (simp [plainName, overriddenIn]; done) | decide +kernel
theorem down_rm1_0 : decode prog_12_method_4_code 0 = .ok (.aload_n 0, 1) := by decide +kernel
theorem down_rm1_1 : decode prog_12_method_4_code 1 = .ok (.getstatic 7, 3) := by decide +kernel
theorem down_rm1_4 : decode prog_12_method_4_code 4 = .ok (.if_acmp .eq 10, 3) := by decide +kernel
theorem down_rm1_7 : decode prog_12_method_4_code 7 = .ok (.aload_n 0, 1) := by decide +kernel
theorem down_rm1_8 : decode prog_12_method_4_code 8 = .ok (.getstatic 13, 3) := by decide +kernel
theorem down_rm1_11 : decode prog_12_method_4_code 11 = .ok (.if_acmp .ne 7, 3) := by decide +kernel
theorem down_rm1_14 : decode prog_12_method_4_code 14 = .ok (.iconst 1, 1) := by decide +kernel
theorem down_rm1_15 : decode prog_12_method_4_code 15 = .ok (.goto 4, 3) := by decide +kernel
theorem down_rm1_18 : decode prog_12_method_4_code 18 = .ok (.iconst 0, 1) := by decide +kernel
theorem down_rm1_19 : decode prog_12_method_4_code 19 = .ok (.ireturn, 1) := by decide +kernel
def Q_own_rm1 (Z : State)  (a u b : Addr) (h0 : Heap) (n0 : Nat) (v : Option Value) (h : Heap) (L : List Loc) : Prop := v = some (.int (own_h (.ref a) (.ref u) (.ref b))) ∧ L = [] ∧ h = h0
set_option maxRecDepth 65536 in
set_option maxHeartbeats 40000000 in
theorem own_rm1 (l : Launch) (Z : State) (a0 : Array Value) (hw : ∀ d ∈ tables_1, d.before a0 Z = true) (ws : List Jvm.Cond)  (a u b : Addr) (h0 : Heap) (n0 : Nat) (SU : Sta Z h0 "com/example/seqd/seqd/config/Policy" "UNIT" "Lcom/example/seqd/seqd/config/Policy;" (.ref u)) (SB : Sta Z h0 "com/example/seqd/seqd/config/Policy" "BATCH" "Lcom/example/seqd/seqd/config/Policy;" (.ref b)) :
    MetFree l (⟨"com/example/seqd/seqd/config/Policy", "holds", "()Z"⟩ : MethodName) (head1 (Jvm.Cond.code (⟨"com/example/seqd/seqd/config/Policy", "holds", "()Z"⟩ : MethodName) prog_12_method_4_code 1 (some (.boolean)) :: ws) ({ frames := 0, cells := 0, slots := 0, locals := 0 } : Room)) (fun aa U => aa = #[(.ref a)] ∧ Z.Warmed39 U.vm ∧ U.heap = h0) (fun _ _ _ _ _ => True) (fun _ U o U' => ∃ v L, o = .returned v ∧ Q_own_rm1 Z a u b h0 n0 v U'.heap L ∧ FrameEnd U o U' L ({ frames := 0, cells := 0, slots := 0, locals := 0 } : Room).cells ({ frames := 0, cells := 0, slots := 0, locals := 0 } : Room).slots) := by
  refine own_body (x := (⟨"com/example/seqd/seqd/config/Policy", "holds", "()Z"⟩ : MethodName)) (maxL := 1) (as' := #[(.ref a)]) (Q := Q_own_rm1 Z a u b h0 n0) pn_own_rm1 #[.val (.ref a)] (fun m => by first | rfl | (simp [entryFrame, mkF, argsToLocals, Value.category]; done)) ?_
  intro p e s m below meth c T0 X0 hx hby hml hret hlk hown hnm hZ e0
  replace hml : c.maxLocals = 1 := hml
  replace hown : s.vm.findClass "com/example/seqd/seqd/config/Policy" = some m.cls := hown
  have N0 := Fr.nil n0
  refine own_st (G := T0.setTop (mkF m 1 #[.val (.ref a)] [(.ref a)])) (fun _ kk => XS.aloadN X0.here hx rfl (hb hby down_rm1_0) rfl rfl kk) ?_
  obtain ⟨T1, X2, e3, st4⟩ := getS (host := "") X0 hx hZ hown (own_w hw 8 rfl) Via.refl e0 SU (g := (mkF m 1 #[.val (.ref a)] [(.ref a)])) rfl (hb hby down_rm1_1)
  refine own_st st4 ?_
  show own_Out _ _ _ _ (T1.setTop (mkF m 4 #[.val (.ref a)] [(.ref u), (.ref a)]))
  by_cases hc5 : ((.ref a) : Value) = (.ref u)
  · skip
    refine own_st (G := T1.setTop (mkF m 14 #[.val (.ref a)] [])) (fun _ kk => XT.acmpYes X2.here hx rfl (pc0 := 4) (pc' := 14) rfl (hb hby down_rm1_4) rfl rfl rfl (XT.aa_eq_t hc5) (by decide) (by decide) kk) ?_
    refine own_st (G := T1.setTop (mkF m 15 #[.val (.ref a)] [(.int (1 : Int32))])) (fun _ kk => XT.iconstV X2.here hx rfl (1 : Int32) (hb hby down_rm1_14) (by decide) kk) ?_
    refine own_st (G := T1.setTop (mkF m 19 #[.val (.ref a)] [(.int (1 : Int32))])) (fun _ kk => XS.goto X2.here hx rfl (pc0 := 15) (pc' := 19) rfl (hb hby down_rm1_15) (by decide) (by decide) kk) ?_
    refine own_retB X2 hx hret (by simp) hlk (hb hby down_rm1_19) (by decide) (by decide) ?_
    exact ⟨by rw [show own_h (.ref a) (.ref u) (.ref b) = (1 : Int32) from by unfold own_h; rw [if_pos hc5]]; rfl, rfl, e3⟩
  · skip
    refine own_st (G := T1.setTop (mkF m 7 #[.val (.ref a)] [])) (fun _ kk => XT.acmpNo X2.here hx rfl (hb hby down_rm1_4) rfl rfl rfl (XT.aa_eq_f hc5) kk) ?_
    refine own_st (G := T1.setTop (mkF m 8 #[.val (.ref a)] [(.ref a)])) (fun _ kk => XS.aloadN X2.here hx rfl (hb hby down_rm1_7) rfl rfl kk) ?_
    obtain ⟨T6, X7, e8, st9⟩ := getS (host := "") X2 hx hZ hown (own_w hw 10 rfl) Via.refl e3 SB (g := (mkF m 8 #[.val (.ref a)] [(.ref a)])) rfl (hb hby down_rm1_8)
    refine own_st st9 ?_
    show own_Out _ _ _ _ (T6.setTop (mkF m 11 #[.val (.ref a)] [(.ref b), (.ref a)]))
    by_cases hc10 : ((.ref a) : Value) = (.ref b)
    · skip
      refine own_st (G := T6.setTop (mkF m 14 #[.val (.ref a)] [])) (fun _ kk => XT.acmpNo X7.here hx rfl (hb hby down_rm1_11) rfl rfl rfl (XT.aa_ne_f hc10) kk) ?_
      refine own_st (G := T6.setTop (mkF m 15 #[.val (.ref a)] [(.int (1 : Int32))])) (fun _ kk => XT.iconstV X7.here hx rfl (1 : Int32) (hb hby down_rm1_14) (by decide) kk) ?_
      refine own_st (G := T6.setTop (mkF m 19 #[.val (.ref a)] [(.int (1 : Int32))])) (fun _ kk => XS.goto X7.here hx rfl (pc0 := 15) (pc' := 19) rfl (hb hby down_rm1_15) (by decide) (by decide) kk) ?_
      refine own_retB X7 hx hret (by simp) hlk (hb hby down_rm1_19) (by decide) (by decide) ?_
      exact ⟨by rw [show own_h (.ref a) (.ref u) (.ref b) = (1 : Int32) from by unfold own_h; rw [if_neg hc5, if_pos hc10]]; rfl, rfl, e8⟩
    · skip
      refine own_st (G := T6.setTop (mkF m 18 #[.val (.ref a)] [])) (fun _ kk => XT.acmpYes X7.here hx rfl (pc0 := 11) (pc' := 18) rfl (hb hby down_rm1_11) rfl rfl rfl (XT.aa_ne_t hc10) (by decide) (by decide) kk) ?_
      refine own_st (G := T6.setTop (mkF m 19 #[.val (.ref a)] [(.int (0 : Int32))])) (fun _ kk => XT.iconstV X7.here hx rfl (0 : Int32) (hb hby down_rm1_18) (by decide) kk) ?_
      refine own_retB X7 hx hret (by simp) hlk (hb hby down_rm1_19) (by decide) (by decide) ?_
      exact ⟨by rw [show own_h (.ref a) (.ref u) (.ref b) = (0 : Int32) from by unfold own_h; rw [if_neg hc5, if_neg hc10]]; rfl, rfl, e8⟩
theorem pn_own_law : plainName "com/example/seqd/seqd/config/PolicyHoldsPinLaw" = true := by first | (simp [plainName, overriddenIn]; done) | decide +kernel
def Q_own_law (Z : State) (p0 : Int32) (aa0 a1 a2 a3 : Addr) (h0 : Heap) (n0 : Nat) (v : Option Value) (h : Heap) (L : List Loc) : Prop := v = some (.int 1) ∧ Fr n0 L
set_option maxRecDepth 65536 in
set_option maxHeartbeats 40000000 in
theorem own_law (l : Launch) (Z : State) (a0 : Array Value) (hw : ∀ d ∈ tables_1, d.before a0 Z = true) (ws : List Jvm.Cond) (p0 : Int32) (aa0 a1 a2 a3 : Addr) (h0 : Heap) (n0 : Nat) (S0 : Sta Z h0 "com/example/seqd/seqd/config/Policy" "PASS_THROUGH" "Lcom/example/seqd/seqd/config/Policy;" (.ref aa0)) (E0 : Exa Z h0 aa0 "com/example/seqd/seqd/config/Policy") (S1 : Sta Z h0 "com/example/seqd/seqd/config/Policy" "UNIT" "Lcom/example/seqd/seqd/config/Policy;" (.ref a1)) (E1 : Exa Z h0 a1 "com/example/seqd/seqd/config/Policy") (S2 : Sta Z h0 "com/example/seqd/seqd/config/Policy" "STRICT_ORDER" "Lcom/example/seqd/seqd/config/Policy;" (.ref a2)) (E2 : Exa Z h0 a2 "com/example/seqd/seqd/config/Policy") (S3 : Sta Z h0 "com/example/seqd/seqd/config/Policy" "BATCH" "Lcom/example/seqd/seqd/config/Policy;" (.ref a3)) (E3 : Exa Z h0 a3 "com/example/seqd/seqd/config/Policy") (d01 : aa0 ≠ a1) (d03 : aa0 ≠ a3) (d21 : a2 ≠ a1) (d23 : a2 ≠ a3) :
    MetFree l x (head1 (Jvm.Cond.code x code maxLocals ret :: ws) room_1) (fun aa U => aa = #[(.int p0)] ∧ Z.Warmed39 U.vm ∧ U.heap = h0) (fun _ _ _ _ _ => True) (fun _ U o U' => ∃ v L, o = .returned v ∧ Q_own_law Z p0 aa0 a1 a2 a3 h0 n0 v U'.heap L ∧ FrameEnd U o U' L room_1.cells room_1.slots) := by
  refine own_body (x := x) (maxL := maxLocals) (as' := #[(.int p0)]) (Q := Q_own_law Z p0 aa0 a1 a2 a3 h0 n0) pn_own_law #[.val (.int p0), .unset, .unset, .unset] (fun m => by first | rfl | (simp [entryFrame, mkF, argsToLocals, Value.category, maxLocals]; done)) ?_
  intro p e s m below meth c T0 X0 hx hby hml hret hlk hown hnm hZ e0
  replace hml : c.maxLocals = 4 := hml
  replace hown : s.vm.findClass "com/example/seqd/seqd/config/PolicyHoldsPinLaw" = some m.cls := hown
  have N0 := Fr.nil n0
  refine own_st (G := T0.setTop (mkF m 1 #[.val (.int p0), .unset, .unset, .unset] [(.int p0)])) (fun _ kk => XS.iloadN X0.here hx rfl (hb hby at_0) rfl kk) ?_
  refine own_st (G := T0.setTop (mkF m 2 #[.val (.int p0), .unset, .unset, .unset] [(.int (3 : Int32)), (.int p0)])) (fun _ kk => XT.iconstV X0.here hx rfl (3 : Int32) (hb hby at_1) (by decide) kk) ?_
  refine own_st (G := T0.setTop (mkF m 3 #[.val (.int p0), .unset, .unset, .unset] [(.int (p0 &&& (3 : Int32)))])) (fun _ kk => XS.iand X0.here hx rfl (hb hby at_2) rfl kk) ?_
  generalize hv3 : (p0 &&& (3 : Int32)) = v3
  refine own_st (G := T0.setTop (mkF m 4 #[.val (.int p0), .val (.int v3), .unset, .unset] [])) (fun _ kk => XS.istoreN X0.here hx rfl (hb hby at_3) rfl (l' := #[.val (.int p0), .val (.int v3), .unset, .unset]) rfl kk) ?_
  refine own_st (G := T0.setTop (mkF m 5 #[.val (.int p0), .val (.int v3), .unset, .unset] [(.int v3)])) (fun _ kk => XS.iloadN X0.here hx rfl (hb hby at_4) rfl kk) ?_
  by_cases hc1 : v3 = (0 : Int32)
  · skip
    refine own_st (G := T0.setTop (mkF m 8 #[.val (.int p0), .val (.int v3), .unset, .unset] [])) (fun _ kk => XS.ifNo X0.here hx rfl (hb hby at_5) rfl (XT.i0_ne_f hc1) kk) ?_
    obtain ⟨T2, X3, e4, st5⟩ := getS (host := "") X0 hx hZ hown (own_w hw 0 rfl) Via.refl e0 S0 (g := (mkF m 8 #[.val (.int p0), .val (.int v3), .unset, .unset] [])) rfl (hb hby at_8)
    refine own_st st5 ?_
    show own_Out _ _ _ _ (T2.setTop (mkF m 11 #[.val (.int p0), .val (.int v3), .unset, .unset] [(.ref aa0)]))
    refine own_st (G := T2.setTop (mkF m 12 #[.val (.int p0), .val (.int v3), .val (.ref aa0), .unset] [])) (fun _ kk => XS.astoreN X3.here hx rfl (hb hby at_11) rfl rfl (l' := #[.val (.int p0), .val (.int v3), .val (.ref aa0), .unset]) rfl kk) ?_
    refine own_st (G := T2.setTop (mkF m 13 #[.val (.int p0), .val (.int v3), .val (.ref aa0), .unset] [(.int (0 : Int32))])) (fun _ kk => XT.iconstV X3.here hx rfl (0 : Int32) (hb hby at_12) (by decide) kk) ?_
    refine own_st (G := T2.setTop (mkF m 14 #[.val (.int p0), .val (.int v3), .val (.ref aa0), .val (.int (0 : Int32))] [])) (fun _ kk => XS.istoreN X3.here hx rfl (hb hby at_13) rfl (l' := #[.val (.int p0), .val (.int v3), .val (.ref aa0), .val (.int (0 : Int32))]) rfl kk) ?_
    refine own_st (G := T2.setTop (mkF m 51 #[.val (.int p0), .val (.int v3), .val (.ref aa0), .val (.int (0 : Int32))] [])) (fun _ kk => XS.goto X3.here hx rfl (pc0 := 14) (pc' := 51) rfl (hb hby at_14) (by decide) (by decide) kk) ?_
    refine own_st (G := T2.setTop (mkF m 52 #[.val (.int p0), .val (.int v3), .val (.ref aa0), .val (.int (0 : Int32))] [(.ref aa0)])) (fun _ kk => XS.aloadN X3.here hx rfl (hb hby at_51) rfl rfl kk) ?_
    refine own_callV X3 hx hZ (y := (⟨"com/example/seqd/seqd/config/Policy", "holds", "()Z"⟩ : MethodName)) (b := aa0) (as' := []) hown (own_w hw 3 rfl) (own_w hw 4 rfl) (own_w hw 6 rfl) (own_w hw 5 rfl) (own_w hw 7 rfl) (own_w hw 1 rfl) (by decide) (own_rm1 l Z a0 hw [] aa0 a1 a3 h0 n0 S1 S3) E0 0 (by decide) (by decide) (by decide) (by decide) (rest := []) (by rw [hml]; rfl) (lenOf (by decide : parseMethodDescriptor "()Z" = some ⟨[], some (.boolean)⟩) rfl) rfl (Nat.le_of_eq rfl) (hb hby at_52) e4 ?_
    intro T8 L9 v11 X10 hQ
    obtain ⟨rfl, rfl, eq6⟩ := hQ
    show own_Out _ _ _ _ (T8.setTop (mkF m 55 #[.val (.int p0), .val (.int v3), .val (.ref aa0), .val (.int (0 : Int32))] [(.int (own_h (.ref aa0) (.ref a1) (.ref a3)))]))
    have N7 := Fr.app N0 (Fr.nil n0)
    refine own_st (G := T8.setTop (mkF m 56 #[.val (.int p0), .val (.int v3), .val (.ref aa0), .val (.int (0 : Int32))] [(.int (0 : Int32)), (.int (own_h (.ref aa0) (.ref a1) (.ref a3)))])) (fun _ kk => XS.iloadN X10.here hx rfl (hb hby at_55) rfl kk) ?_
    have hk12 : ((own_h (.ref aa0) (.ref a1) (.ref a3)) = (0 : Int32)) := by simp [own_h, d01, d03, d21, d23]
    refine own_st (G := T8.setTop (mkF m 59 #[.val (.int p0), .val (.int v3), .val (.ref aa0), .val (.int (0 : Int32))] [])) (fun _ kk => XS.icmpNo X10.here hx rfl (hb hby at_56) rfl (XT.ii_ne_f hk12) kk) ?_
    refine own_st (G := T8.setTop (mkF m 60 #[.val (.int p0), .val (.int v3), .val (.ref aa0), .val (.int (0 : Int32))] [(.int (1 : Int32))])) (fun _ kk => XT.iconstV X10.here hx rfl (1 : Int32) (hb hby at_59) (by decide) kk) ?_
    refine own_st (G := T8.setTop (mkF m 64 #[.val (.int p0), .val (.int v3), .val (.ref aa0), .val (.int (0 : Int32))] [(.int (1 : Int32))])) (fun _ kk => XS.goto X10.here hx rfl (pc0 := 60) (pc' := 64) rfl (hb hby at_60) (by decide) (by decide) kk) ?_
    refine own_retB X10 hx hret (by simp) hlk (hb hby at_64) (by decide) (by decide) ?_
    exact ⟨rfl, N7⟩
  · skip
    refine own_st (G := T0.setTop (mkF m 17 #[.val (.int p0), .val (.int v3), .unset, .unset] [])) (fun _ kk => XS.ifYes X0.here hx rfl (pc0 := 5) (pc' := 17) rfl (hb hby at_5) rfl (XT.i0_ne_t hc1) (by decide) (by decide) kk) ?_
    refine own_st (G := T0.setTop (mkF m 18 #[.val (.int p0), .val (.int v3), .unset, .unset] [(.int v3)])) (fun _ kk => XS.iloadN X0.here hx rfl (hb hby at_17) rfl kk) ?_
    refine own_st (G := T0.setTop (mkF m 19 #[.val (.int p0), .val (.int v3), .unset, .unset] [(.int (1 : Int32)), (.int v3)])) (fun _ kk => XT.iconstV X0.here hx rfl (1 : Int32) (hb hby at_18) (by decide) kk) ?_
    by_cases hc13 : v3 = (1 : Int32)
    · skip
      refine own_st (G := T0.setTop (mkF m 22 #[.val (.int p0), .val (.int v3), .unset, .unset] [])) (fun _ kk => XS.icmpNo X0.here hx rfl (hb hby at_19) rfl (XT.ii_ne_f hc13) kk) ?_
      obtain ⟨T14, X15, e16, st17⟩ := getS (host := "") X0 hx hZ hown (own_w hw 15 rfl) Via.refl e0 S1 (g := (mkF m 22 #[.val (.int p0), .val (.int v3), .unset, .unset] [])) rfl (hb hby at_22)
      refine own_st st17 ?_
      show own_Out _ _ _ _ (T14.setTop (mkF m 25 #[.val (.int p0), .val (.int v3), .unset, .unset] [(.ref a1)]))
      refine own_st (G := T14.setTop (mkF m 26 #[.val (.int p0), .val (.int v3), .val (.ref a1), .unset] [])) (fun _ kk => XS.astoreN X15.here hx rfl (hb hby at_25) rfl rfl (l' := #[.val (.int p0), .val (.int v3), .val (.ref a1), .unset]) rfl kk) ?_
      refine own_st (G := T14.setTop (mkF m 27 #[.val (.int p0), .val (.int v3), .val (.ref a1), .unset] [(.int (1 : Int32))])) (fun _ kk => XT.iconstV X15.here hx rfl (1 : Int32) (hb hby at_26) (by decide) kk) ?_
      refine own_st (G := T14.setTop (mkF m 28 #[.val (.int p0), .val (.int v3), .val (.ref a1), .val (.int (1 : Int32))] [])) (fun _ kk => XS.istoreN X15.here hx rfl (hb hby at_27) rfl (l' := #[.val (.int p0), .val (.int v3), .val (.ref a1), .val (.int (1 : Int32))]) rfl kk) ?_
      refine own_st (G := T14.setTop (mkF m 51 #[.val (.int p0), .val (.int v3), .val (.ref a1), .val (.int (1 : Int32))] [])) (fun _ kk => XS.goto X15.here hx rfl (pc0 := 28) (pc' := 51) rfl (hb hby at_28) (by decide) (by decide) kk) ?_
      refine own_st (G := T14.setTop (mkF m 52 #[.val (.int p0), .val (.int v3), .val (.ref a1), .val (.int (1 : Int32))] [(.ref a1)])) (fun _ kk => XS.aloadN X15.here hx rfl (hb hby at_51) rfl rfl kk) ?_
      refine own_callV X15 hx hZ (y := (⟨"com/example/seqd/seqd/config/Policy", "holds", "()Z"⟩ : MethodName)) (b := a1) (as' := []) hown (own_w hw 3 rfl) (own_w hw 4 rfl) (own_w hw 6 rfl) (own_w hw 5 rfl) (own_w hw 7 rfl) (own_w hw 1 rfl) (by decide) (own_rm1 l Z a0 hw [] a1 a1 a3 h0 n0 S1 S3) E1 0 (by decide) (by decide) (by decide) (by decide) (rest := []) (by rw [hml]; rfl) (lenOf (by decide : parseMethodDescriptor "()Z" = some ⟨[], some (.boolean)⟩) rfl) rfl (Nat.le_of_eq rfl) (hb hby at_52) e16 ?_
      intro T20 L21 v23 X22 hQ
      obtain ⟨rfl, rfl, eq18⟩ := hQ
      show own_Out _ _ _ _ (T20.setTop (mkF m 55 #[.val (.int p0), .val (.int v3), .val (.ref a1), .val (.int (1 : Int32))] [(.int (own_h (.ref a1) (.ref a1) (.ref a3)))]))
      have N19 := Fr.app N0 (Fr.nil n0)
      refine own_st (G := T20.setTop (mkF m 56 #[.val (.int p0), .val (.int v3), .val (.ref a1), .val (.int (1 : Int32))] [(.int (1 : Int32)), (.int (own_h (.ref a1) (.ref a1) (.ref a3)))])) (fun _ kk => XS.iloadN X22.here hx rfl (hb hby at_55) rfl kk) ?_
      have hk24 : ((own_h (.ref a1) (.ref a1) (.ref a3)) = (1 : Int32)) := by simp [own_h, d01, d03, d21, d23]
      refine own_st (G := T20.setTop (mkF m 59 #[.val (.int p0), .val (.int v3), .val (.ref a1), .val (.int (1 : Int32))] [])) (fun _ kk => XS.icmpNo X22.here hx rfl (hb hby at_56) rfl (XT.ii_ne_f hk24) kk) ?_
      refine own_st (G := T20.setTop (mkF m 60 #[.val (.int p0), .val (.int v3), .val (.ref a1), .val (.int (1 : Int32))] [(.int (1 : Int32))])) (fun _ kk => XT.iconstV X22.here hx rfl (1 : Int32) (hb hby at_59) (by decide) kk) ?_
      refine own_st (G := T20.setTop (mkF m 64 #[.val (.int p0), .val (.int v3), .val (.ref a1), .val (.int (1 : Int32))] [(.int (1 : Int32))])) (fun _ kk => XS.goto X22.here hx rfl (pc0 := 60) (pc' := 64) rfl (hb hby at_60) (by decide) (by decide) kk) ?_
      refine own_retB X22 hx hret (by simp) hlk (hb hby at_64) (by decide) (by decide) ?_
      exact ⟨rfl, N19⟩
    · skip
      refine own_st (G := T0.setTop (mkF m 31 #[.val (.int p0), .val (.int v3), .unset, .unset] [])) (fun _ kk => XS.icmpYes X0.here hx rfl (pc0 := 19) (pc' := 31) rfl (hb hby at_19) rfl (XT.ii_ne_t hc13) (by decide) (by decide) kk) ?_
      refine own_st (G := T0.setTop (mkF m 32 #[.val (.int p0), .val (.int v3), .unset, .unset] [(.int v3)])) (fun _ kk => XS.iloadN X0.here hx rfl (hb hby at_31) rfl kk) ?_
      refine own_st (G := T0.setTop (mkF m 33 #[.val (.int p0), .val (.int v3), .unset, .unset] [(.int (2 : Int32)), (.int v3)])) (fun _ kk => XT.iconstV X0.here hx rfl (2 : Int32) (hb hby at_32) (by decide) kk) ?_
      by_cases hc25 : v3 = (2 : Int32)
      · skip
        refine own_st (G := T0.setTop (mkF m 36 #[.val (.int p0), .val (.int v3), .unset, .unset] [])) (fun _ kk => XS.icmpNo X0.here hx rfl (hb hby at_33) rfl (XT.ii_ne_f hc25) kk) ?_
        obtain ⟨T26, X27, e28, st29⟩ := getS (host := "") X0 hx hZ hown (own_w hw 13 rfl) Via.refl e0 S2 (g := (mkF m 36 #[.val (.int p0), .val (.int v3), .unset, .unset] [])) rfl (hb hby at_36)
        refine own_st st29 ?_
        show own_Out _ _ _ _ (T26.setTop (mkF m 39 #[.val (.int p0), .val (.int v3), .unset, .unset] [(.ref a2)]))
        refine own_st (G := T26.setTop (mkF m 40 #[.val (.int p0), .val (.int v3), .val (.ref a2), .unset] [])) (fun _ kk => XS.astoreN X27.here hx rfl (hb hby at_39) rfl rfl (l' := #[.val (.int p0), .val (.int v3), .val (.ref a2), .unset]) rfl kk) ?_
        refine own_st (G := T26.setTop (mkF m 41 #[.val (.int p0), .val (.int v3), .val (.ref a2), .unset] [(.int (0 : Int32))])) (fun _ kk => XT.iconstV X27.here hx rfl (0 : Int32) (hb hby at_40) (by decide) kk) ?_
        refine own_st (G := T26.setTop (mkF m 42 #[.val (.int p0), .val (.int v3), .val (.ref a2), .val (.int (0 : Int32))] [])) (fun _ kk => XS.istoreN X27.here hx rfl (hb hby at_41) rfl (l' := #[.val (.int p0), .val (.int v3), .val (.ref a2), .val (.int (0 : Int32))]) rfl kk) ?_
        refine own_st (G := T26.setTop (mkF m 51 #[.val (.int p0), .val (.int v3), .val (.ref a2), .val (.int (0 : Int32))] [])) (fun _ kk => XS.goto X27.here hx rfl (pc0 := 42) (pc' := 51) rfl (hb hby at_42) (by decide) (by decide) kk) ?_
        refine own_st (G := T26.setTop (mkF m 52 #[.val (.int p0), .val (.int v3), .val (.ref a2), .val (.int (0 : Int32))] [(.ref a2)])) (fun _ kk => XS.aloadN X27.here hx rfl (hb hby at_51) rfl rfl kk) ?_
        refine own_callV X27 hx hZ (y := (⟨"com/example/seqd/seqd/config/Policy", "holds", "()Z"⟩ : MethodName)) (b := a2) (as' := []) hown (own_w hw 3 rfl) (own_w hw 4 rfl) (own_w hw 6 rfl) (own_w hw 5 rfl) (own_w hw 7 rfl) (own_w hw 1 rfl) (by decide) (own_rm1 l Z a0 hw [] a2 a1 a3 h0 n0 S1 S3) E2 0 (by decide) (by decide) (by decide) (by decide) (rest := []) (by rw [hml]; rfl) (lenOf (by decide : parseMethodDescriptor "()Z" = some ⟨[], some (.boolean)⟩) rfl) rfl (Nat.le_of_eq rfl) (hb hby at_52) e28 ?_
        intro T32 L33 v35 X34 hQ
        obtain ⟨rfl, rfl, eq30⟩ := hQ
        show own_Out _ _ _ _ (T32.setTop (mkF m 55 #[.val (.int p0), .val (.int v3), .val (.ref a2), .val (.int (0 : Int32))] [(.int (own_h (.ref a2) (.ref a1) (.ref a3)))]))
        have N31 := Fr.app N0 (Fr.nil n0)
        refine own_st (G := T32.setTop (mkF m 56 #[.val (.int p0), .val (.int v3), .val (.ref a2), .val (.int (0 : Int32))] [(.int (0 : Int32)), (.int (own_h (.ref a2) (.ref a1) (.ref a3)))])) (fun _ kk => XS.iloadN X34.here hx rfl (hb hby at_55) rfl kk) ?_
        have hk36 : ((own_h (.ref a2) (.ref a1) (.ref a3)) = (0 : Int32)) := by simp [own_h, d01, d03, d21, d23]
        refine own_st (G := T32.setTop (mkF m 59 #[.val (.int p0), .val (.int v3), .val (.ref a2), .val (.int (0 : Int32))] [])) (fun _ kk => XS.icmpNo X34.here hx rfl (hb hby at_56) rfl (XT.ii_ne_f hk36) kk) ?_
        refine own_st (G := T32.setTop (mkF m 60 #[.val (.int p0), .val (.int v3), .val (.ref a2), .val (.int (0 : Int32))] [(.int (1 : Int32))])) (fun _ kk => XT.iconstV X34.here hx rfl (1 : Int32) (hb hby at_59) (by decide) kk) ?_
        refine own_st (G := T32.setTop (mkF m 64 #[.val (.int p0), .val (.int v3), .val (.ref a2), .val (.int (0 : Int32))] [(.int (1 : Int32))])) (fun _ kk => XS.goto X34.here hx rfl (pc0 := 60) (pc' := 64) rfl (hb hby at_60) (by decide) (by decide) kk) ?_
        refine own_retB X34 hx hret (by simp) hlk (hb hby at_64) (by decide) (by decide) ?_
        exact ⟨rfl, N31⟩
      · skip
        refine own_st (G := T0.setTop (mkF m 45 #[.val (.int p0), .val (.int v3), .unset, .unset] [])) (fun _ kk => XS.icmpYes X0.here hx rfl (pc0 := 33) (pc' := 45) rfl (hb hby at_33) rfl (XT.ii_ne_t hc25) (by decide) (by decide) kk) ?_
        obtain ⟨T37, X38, e39, st40⟩ := getS (host := "") X0 hx hZ hown (own_w hw 12 rfl) Via.refl e0 S3 (g := (mkF m 45 #[.val (.int p0), .val (.int v3), .unset, .unset] [])) rfl (hb hby at_45)
        refine own_st st40 ?_
        show own_Out _ _ _ _ (T37.setTop (mkF m 48 #[.val (.int p0), .val (.int v3), .unset, .unset] [(.ref a3)]))
        refine own_st (G := T37.setTop (mkF m 49 #[.val (.int p0), .val (.int v3), .val (.ref a3), .unset] [])) (fun _ kk => XS.astoreN X38.here hx rfl (hb hby at_48) rfl rfl (l' := #[.val (.int p0), .val (.int v3), .val (.ref a3), .unset]) rfl kk) ?_
        refine own_st (G := T37.setTop (mkF m 50 #[.val (.int p0), .val (.int v3), .val (.ref a3), .unset] [(.int (1 : Int32))])) (fun _ kk => XT.iconstV X38.here hx rfl (1 : Int32) (hb hby at_49) (by decide) kk) ?_
        refine own_st (G := T37.setTop (mkF m 51 #[.val (.int p0), .val (.int v3), .val (.ref a3), .val (.int (1 : Int32))] [])) (fun _ kk => XS.istoreN X38.here hx rfl (hb hby at_50) rfl (l' := #[.val (.int p0), .val (.int v3), .val (.ref a3), .val (.int (1 : Int32))]) rfl kk) ?_
        refine own_st (G := T37.setTop (mkF m 52 #[.val (.int p0), .val (.int v3), .val (.ref a3), .val (.int (1 : Int32))] [(.ref a3)])) (fun _ kk => XS.aloadN X38.here hx rfl (hb hby at_51) rfl rfl kk) ?_
        refine own_callV X38 hx hZ (y := (⟨"com/example/seqd/seqd/config/Policy", "holds", "()Z"⟩ : MethodName)) (b := a3) (as' := []) hown (own_w hw 3 rfl) (own_w hw 4 rfl) (own_w hw 6 rfl) (own_w hw 5 rfl) (own_w hw 7 rfl) (own_w hw 1 rfl) (by decide) (own_rm1 l Z a0 hw [] a3 a1 a3 h0 n0 S1 S3) E3 0 (by decide) (by decide) (by decide) (by decide) (rest := []) (by rw [hml]; rfl) (lenOf (by decide : parseMethodDescriptor "()Z" = some ⟨[], some (.boolean)⟩) rfl) rfl (Nat.le_of_eq rfl) (hb hby at_52) e39 ?_
        intro T43 L44 v46 X45 hQ
        obtain ⟨rfl, rfl, eq41⟩ := hQ
        show own_Out _ _ _ _ (T43.setTop (mkF m 55 #[.val (.int p0), .val (.int v3), .val (.ref a3), .val (.int (1 : Int32))] [(.int (own_h (.ref a3) (.ref a1) (.ref a3)))]))
        have N42 := Fr.app N0 (Fr.nil n0)
        refine own_st (G := T43.setTop (mkF m 56 #[.val (.int p0), .val (.int v3), .val (.ref a3), .val (.int (1 : Int32))] [(.int (1 : Int32)), (.int (own_h (.ref a3) (.ref a1) (.ref a3)))])) (fun _ kk => XS.iloadN X45.here hx rfl (hb hby at_55) rfl kk) ?_
        have hk47 : ((own_h (.ref a3) (.ref a1) (.ref a3)) = (1 : Int32)) := by simp [own_h, d01, d03, d21, d23]
        refine own_st (G := T43.setTop (mkF m 59 #[.val (.int p0), .val (.int v3), .val (.ref a3), .val (.int (1 : Int32))] [])) (fun _ kk => XS.icmpNo X45.here hx rfl (hb hby at_56) rfl (XT.ii_ne_f hk47) kk) ?_
        refine own_st (G := T43.setTop (mkF m 60 #[.val (.int p0), .val (.int v3), .val (.ref a3), .val (.int (1 : Int32))] [(.int (1 : Int32))])) (fun _ kk => XT.iconstV X45.here hx rfl (1 : Int32) (hb hby at_59) (by decide) kk) ?_
        refine own_st (G := T43.setTop (mkF m 64 #[.val (.int p0), .val (.int v3), .val (.ref a3), .val (.int (1 : Int32))] [(.int (1 : Int32))])) (fun _ kk => XS.goto X45.here hx rfl (pc0 := 60) (pc' := 64) rfl (hb hby at_60) (by decide) (by decide) kk) ?_
        refine own_retB X45 hx hret (by simp) hlk (hb hby at_64) (by decide) (by decide) ?_
        exact ⟨rfl, N42⟩
set_option maxRecDepth 65536 in
set_option maxHeartbeats 40000000 in
theorem comes_1 {Post : Tables → Env → Array Value → State → Outcome → State → Prop} (hpost : ∀ tb e args s v u, (limb_1_1.after args s (.returned v) u = true ∧ limb_1_2.after args s (.returned v) u = true ∧ True) → FrameEnd s (.returned v) u (Jvm.fieldLocs frame_1_writes args s ++ Jvm.arrayLocs frame_1_arrays args s ++ Jvm.staticLocs frame_1_statics s) 0 0 → Post tb e args s (.returned v) u) :
    ArmFor flags0 classFile x code maxLocals ret World_1 tables_1 room_1 Calls_1 rest_1 Pre_1 Post := by
  intro l hfl _ _ p e ha hc hk s m args below hf hA hF happ hP
  obtain ⟨hcalls, hrest, hpre⟩ := hP
  obtain ⟨-, -, -, hnamed, -, -, -, hat⟩ := (Spec.applies_iff hf).mp happ
  obtain ⟨hg, hn⟩ := and_e (Cond.before_iff.mp (show (Jvm.Cond.and given_1 narrow_1).before args s = true from hpre))
  obtain ⟨hct, hk0⟩ := and_e hg
  have ha0 := hk0
  obtain ⟨w0, rfl⟩ : ∃ w0 : Value, args = #[w0] := by
    have hs : args.size = 1 := by simpa [Cond.value, given_1] using hct
    obtain ⟨L⟩ := args
    match L, hs with
    | [w0], _ => exact ⟨w0, rfl⟩
  have hw := fun d (hd : d ∈ tables_1) => atoms_spec (ws := Jvm.Cond.code x code maxLocals ret :: tables_1) hat d (List.mem_cons_of_mem _ hd)
  obtain ⟨i0, e0⟩ := is_v ha0
  obtain rfl : w0 = (.int i0) := Option.some.inj e0
  obtain ⟨nn0, mm0⟩ := and_e hn
  obtain ⟨nn1, mm1⟩ := and_e mm0
  obtain ⟨nn2, mm2⟩ := and_e mm1
  obtain ⟨nn3, mm3⟩ := and_e mm2
  obtain ⟨nn4, mm4⟩ := and_e mm3
  obtain ⟨nn5, mm5⟩ := and_e mm4
  obtain ⟨nn6, mm6⟩ := and_e mm5
  have nn7 := mm6
  obtain ⟨a_PASS_THROUGH, ea_PASS_THROUGH⟩ := exa_v nn0
  have S_PASS_THROUGH : Sta s s.heap "com/example/seqd/seqd/config/Policy" "PASS_THROUGH" "Lcom/example/seqd/seqd/config/Policy;" (.ref a_PASS_THROUGH) := Sta.start ea_PASS_THROUGH (Or.inr ⟨(own_w hw 1 rfl), (own_w hw 2 rfl)⟩)
  have E_PASS_THROUGH : Exa s s.heap a_PASS_THROUGH "com/example/seqd/seqd/config/Policy" := Exa.start ea_PASS_THROUGH nn0
  obtain ⟨a_UNIT, ea_UNIT⟩ := exa_v nn1
  have S_UNIT : Sta s s.heap "com/example/seqd/seqd/config/Policy" "UNIT" "Lcom/example/seqd/seqd/config/Policy;" (.ref a_UNIT) := Sta.start ea_UNIT (Or.inr ⟨(own_w hw 1 rfl), (own_w hw 9 rfl)⟩)
  have E_UNIT : Exa s s.heap a_UNIT "com/example/seqd/seqd/config/Policy" := Exa.start ea_UNIT nn1
  obtain ⟨a_BATCH, ea_BATCH⟩ := exa_v nn4
  have S_BATCH : Sta s s.heap "com/example/seqd/seqd/config/Policy" "BATCH" "Lcom/example/seqd/seqd/config/Policy;" (.ref a_BATCH) := Sta.start ea_BATCH (Or.inr ⟨(own_w hw 1 rfl), (own_w hw 11 rfl)⟩)
  have E_BATCH : Exa s s.heap a_BATCH "com/example/seqd/seqd/config/Policy" := Exa.start ea_BATCH nn4
  obtain ⟨a_STRICT_ORDER, ea_STRICT_ORDER⟩ := exa_v nn6
  have S_STRICT_ORDER : Sta s s.heap "com/example/seqd/seqd/config/Policy" "STRICT_ORDER" "Lcom/example/seqd/seqd/config/Policy;" (.ref a_STRICT_ORDER) := Sta.start ea_STRICT_ORDER (Or.inr ⟨(own_w hw 1 rfl), (own_w hw 14 rfl)⟩)
  have E_STRICT_ORDER : Exa s s.heap a_STRICT_ORDER "com/example/seqd/seqd/config/Policy" := Exa.start ea_STRICT_ORDER nn6
  have F_PASS_THROUGH : Fld s s.heap a_PASS_THROUGH "java/lang/Enum" "ordinal" "I" (.int (0 : Int32)) := Fld.start (own_eqi nn2 ea_PASS_THROUGH)
  have F_UNIT : Fld s s.heap a_UNIT "java/lang/Enum" "ordinal" "I" (.int (1 : Int32)) := Fld.start (own_eqi nn3 ea_UNIT)
  have F_BATCH : Fld s s.heap a_BATCH "java/lang/Enum" "ordinal" "I" (.int (3 : Int32)) := Fld.start (own_eqi nn5 ea_BATCH)
  have F_STRICT_ORDER : Fld s s.heap a_STRICT_ORDER "java/lang/Enum" "ordinal" "I" (.int (2 : Int32)) := Fld.start (own_eqi nn7 ea_STRICT_ORDER)
  obtain ⟨n, o, h1, h2, h3, _, L, rfl, ⟨rfl, N⟩, hq⟩ := own_law l s _ hw tables_1 i0 a_PASS_THROUGH a_UNIT a_STRICT_ORDER a_BATCH s.heap s.heap.size S_PASS_THROUGH E_PASS_THROUGH S_UNIT E_UNIT S_STRICT_ORDER E_STRICT_ORDER S_BATCH E_BATCH (own_fne F_PASS_THROUGH F_UNIT (by decide)) (own_fne F_PASS_THROUGH F_BATCH (by decide)) (own_fne F_STRICT_ORDER F_UNIT (by decide)) (own_fne F_STRICT_ORDER F_BATCH (by decide)) p e ha hc hk s m _ below hf ((Spec.applies_iff_loose hf).mp happ).1 ⟨rfl, State.Warmed39.refl s, rfl⟩ trivial
  refine ⟨n, _, h1, h2, h3, hpost _ _ _ _ _ _ ⟨Cond.after_iff.mpr rfl, Cond.after_iff.mpr (eq_i res_at (Term.int_eval (1)) rfl), trivial⟩ ⟨hq.1, hq.2.1, (hq.2.2.sift fun y hy => Or.inr (N y hy)).mono (by decide) (by decide)⟩⟩
theorem main_1_1 : Claimed_1_1 := comes_1 fun _ _ _ _ _ _ h hF => ⟨h.1, hF⟩
theorem main_1_2 : Claimed_1_2 := comes_1 fun _ _ _ _ _ _ h hF => ⟨h.2.1, hF⟩
end Jvm.Pilot.@@N@@
namespace Jvm.Pilot.@@N@@
open Jvm Jvm.ClassFile Sem Op Lib Jvm.Free Jvm.Stand Jvm.Pilot.@@N@@.Jvm.D
/-! MADE BY PROGRAM (witnessworld.py) out of the Statement's table words and the real class files: 12 classes; the members and pool entries that the words name. The judged class is class 1, her method 1. -/
namespace start1
open Jvm.ClassFile
def u (s : String) : CpInfo := .utf8 (stringToUtf16 s)
/-- a pool by its gaps: so many unusable entries, then the entry; so many at the end -/
def gap : Nat → List CpInfo → List CpInfo
  | 0, r => r
  | n + 1, r => .unusable :: gap n r
def poolList (es : List (Nat × CpInfo)) (last : Nat) : List CpInfo := es.foldr (fun e r => gap e.1 (e.2 :: r)) (gap last [])
def pool (es : List (Nat × CpInfo)) (last : Nat) : Array CpInfo := ⟨poolList es last⟩
def fileOf (pool : Array CpInfo) (this : Nat) (attrs : Array Attribute := #[]) (ms : Array MethodInfo := #[]) (fl : Nat := 33) (sup : Nat := 0) (ifs : Array Nat := #[]) (fds : Array FieldInfo := #[]) : ClassFile where
  minorVersion := 0
  majorVersion := 65
  constantPool := pool
  accessFlags := fl
  thisClass := this
  superClass := sup
  interfaces := ifs
  fields := fds
  methods := ms
  attributes := attrs
def plain (name : String) (sup : Option ClassId) : Class where
  name := name
  kind := .ordinary
  loader := none
  accessFlags := 33
  super := sup
  interfaces := #[]
  cf := none
  fields := #[]
  methods := #[]
  instanceTypes := #[]
  staticTypes := #[]
  resolved := #[]
  callSites := []
  init := .initialized
  statics := none
  mirror := none

def pool0 : Array CpInfo := pool [(5, u "<init>"), (0, u "()V"), (1, .class_ 10), (1, u "java/lang/Object")] 113

def k0m0 : Method := { name := "<init>", desc := "()V", sig := { parameters := [], returnType := none }, accessFlags := 1, code := none }
/-- java/lang/Object -/
def k0 : Class := { plain "java/lang/Object" none with
  accessFlags := 33
  interfaces := #[]
  cf := some (fileOf pool0 8 #[] #[{ accessFlags := 1, nameIndex := 5, descriptorIndex := 6, attributes := #[] }] 33 0 #[] #[])
  fields := #[]
  methods := #[k0m0]
  instanceTypes := #[]
  staticTypes := #[]
  resolved := Array.replicate 124 none
  statics := none }

def pool1 : Array CpInfo := pool [(2, .class_ 4), (1, u "java/lang/Object"), (0, u "<init>"), (0, u "()V"), (0, .fieldref 8 9), (0, .class_ 10), (0, .nameAndType 11 12), (0, u "com/example/seqd/seqd/config/Policy"), (0, u "PASS_THROUGH"), (0, u "Lcom/example/seqd/seqd/config/Policy;"), (0, .fieldref 8 14), (0, .nameAndType 15 12), (0, u "UNIT"), (0, .fieldref 8 17), (0, .nameAndType 18 12), (0, u "STRICT_ORDER"), (0, .fieldref 8 20), (0, .nameAndType 21 12), (0, u "BATCH"), (0, .methodref 8 23), (0, .nameAndType 24 25), (0, u "holds"), (0, u "()Z"), (0, .class_ 27), (0, u "com/example/seqd/seqd/config/PolicyHoldsPinLaw"), (2, u "law"), (0, u "(I)Z")] 3

def k1m0 : Method := { name := "<init>", desc := "()V", sig := { parameters := [], returnType := none }, accessFlags := 1, code := none }
def k1c1 : Code := { maxStack := 2, maxLocals := 4, code := code, exceptionTable := #[], attributes := #[] }
def k1m1 : Method := { name := "law", desc := "(I)Z", sig := { parameters := [.int], returnType := some .boolean }, accessFlags := 9, code := some k1c1 }
/-- com/example/seqd/seqd/config/PolicyHoldsPinLaw -/
def k1 : Class := { plain "com/example/seqd/seqd/config/PolicyHoldsPinLaw" (some 0) with
  accessFlags := 49
  interfaces := #[]
  cf := some (fileOf pool1 26 #[] #[{ accessFlags := 1, nameIndex := 5, descriptorIndex := 6, attributes := #[] }, { accessFlags := 9, nameIndex := 30, descriptorIndex := 31, attributes := #[] }] 49 2 #[] #[])
  fields := #[]
  methods := #[k1m0, k1m1]
  instanceTypes := #[]
  staticTypes := #[]
  resolved := Array.replicate 35 none
  statics := none }

def pool2 : Array CpInfo := pool [(1, .class_ 2), (0, u "java/lang/constant/Constable"), (0, .class_ 4), (0, u "java/lang/Object")] 6

/-- java/lang/constant/Constable -/
def k2 : Class := { plain "java/lang/constant/Constable" (some 0) with
  accessFlags := 1537
  interfaces := #[]
  cf := some (fileOf pool2 1 #[] #[] 1537 3 #[] #[])
  fields := #[]
  methods := #[]
  instanceTypes := #[]
  staticTypes := #[]
  resolved := Array.replicate 11 none
  statics := none }

def pool3 : Array CpInfo := pool [(1, .class_ 2), (0, u "java/lang/Comparable"), (0, .class_ 4), (0, u "java/lang/Object")] 7

/-- java/lang/Comparable -/
def k3 : Class := { plain "java/lang/Comparable" (some 0) with
  accessFlags := 1537
  interfaces := #[]
  cf := some (fileOf pool3 1 #[] #[] 1537 3 #[] #[])
  fields := #[]
  methods := #[]
  instanceTypes := #[]
  staticTypes := #[]
  resolved := Array.replicate 12 none
  statics := none }

def pool4 : Array CpInfo := pool [(1, .class_ 2), (0, u "java/io/Serializable"), (0, .class_ 4), (0, u "java/lang/Object")] 2

/-- java/io/Serializable -/
def k4 : Class := { plain "java/io/Serializable" (some 0) with
  accessFlags := 1537
  interfaces := #[]
  cf := some (fileOf pool4 1 #[] #[] 1537 3 #[] #[])
  fields := #[]
  methods := #[]
  instanceTypes := #[]
  staticTypes := #[]
  resolved := Array.replicate 7 none
  statics := none }

def pool5 : Array CpInfo := pool [(2, .class_ 4), (1, u "java/lang/Enum"), (0, u "name"), (0, u "Ljava/lang/String;"), (2, u "ordinal"), (0, u "I"), (1, .class_ 14), (1, u "java/lang/Object"), (4, u "hash"), (86, .class_ 108), (1, u "java/lang/Enum$EnumDesc"), (2, .class_ 112), (0, u "java/lang/constant/Constable"), (0, .class_ 114), (0, u "java/lang/Comparable"), (0, .class_ 116), (0, u "java/io/Serializable")] 87

/-- java/lang/Enum -/
def k5 : Class := { plain "java/lang/Enum" (some 0) with
  accessFlags := 1057
  interfaces := #[2, 3, 4]
  cf := some (fileOf pool5 2 #[.nestMembers #[106]] #[] 1057 12 #[111, 113, 115] #[{ accessFlags := 18, nameIndex := 5, descriptorIndex := 6, attributes := #[] }, { accessFlags := 18, nameIndex := 9, descriptorIndex := 10, attributes := #[] }, { accessFlags := 2, nameIndex := 19, descriptorIndex := 10, attributes := #[] }])
  fields := #[{ name := "name", type := (.object "java/lang/String"), accessFlags := 18, slot := 0, constantValue := 0 }, { name := "ordinal", type := .int, accessFlags := 18, slot := 1, constantValue := 0 }, { name := "hash", type := .int, accessFlags := 2, slot := 2, constantValue := 0 }]
  methods := #[]
  instanceTypes := #[(.object "java/lang/String"), .int, .int]
  staticTypes := #[]
  resolved := Array.replicate 204 none
  statics := none }

def pool6 : Array CpInfo := pool [(1, .class_ 2), (0, u "com/example/seqd/seqd/config/Policy"), (2, u "PASS_THROUGH"), (0, u "Lcom/example/seqd/seqd/config/Policy;"), (0, .fieldref 1 8), (0, .nameAndType 9 6), (0, u "UNIT"), (2, u "STRICT_ORDER"), (0, .fieldref 1 14), (0, .nameAndType 15 6), (0, u "BATCH"), (2, u "$VALUES"), (0, u "[Lcom/example/seqd/seqd/config/Policy;"), (6, .class_ 28), (1, u "java/lang/Enum"), (8, u "setting"), (0, u "Ljava/lang/String;"), (44, u "holds"), (0, u "()Z")] 11

def k6c0 : Code := { maxStack := 2, maxLocals := 1, code := prog_12_method_4_code, exceptionTable := #[], attributes := #[] }
def k6m0 : Method := { name := "holds", desc := "()Z", sig := { parameters := [], returnType := some .boolean }, accessFlags := 1, code := some k6c0 }
/-- com/example/seqd/seqd/config/Policy -/
def k6 : Class := { plain "com/example/seqd/seqd/config/Policy" (some 5) with
  accessFlags := 16433
  interfaces := #[]
  cf := some (fileOf pool6 1 #[] #[{ accessFlags := 1, nameIndex := 83, descriptorIndex := 84, attributes := #[] }] 16433 26 #[] #[{ accessFlags := 16409, nameIndex := 5, descriptorIndex := 6, attributes := #[] }, { accessFlags := 16409, nameIndex := 9, descriptorIndex := 6, attributes := #[] }, { accessFlags := 16409, nameIndex := 12, descriptorIndex := 6, attributes := #[] }, { accessFlags := 16409, nameIndex := 15, descriptorIndex := 6, attributes := #[] }, { accessFlags := 18, nameIndex := 37, descriptorIndex := 38, attributes := #[] }, { accessFlags := 4122, nameIndex := 18, descriptorIndex := 19, attributes := #[] }])
  fields := #[{ name := "PASS_THROUGH", type := (.object "com/example/seqd/seqd/config/Policy"), accessFlags := 16409, slot := 0, constantValue := 0 }, { name := "UNIT", type := (.object "com/example/seqd/seqd/config/Policy"), accessFlags := 16409, slot := 1, constantValue := 0 }, { name := "STRICT_ORDER", type := (.object "com/example/seqd/seqd/config/Policy"), accessFlags := 16409, slot := 2, constantValue := 0 }, { name := "BATCH", type := (.object "com/example/seqd/seqd/config/Policy"), accessFlags := 16409, slot := 3, constantValue := 0 }, { name := "setting", type := (.object "java/lang/String"), accessFlags := 18, slot := 3, constantValue := 0 }, { name := "$VALUES", type := (.array (.object "com/example/seqd/seqd/config/Policy")), accessFlags := 4122, slot := 4, constantValue := 0 }]
  methods := #[k6m0]
  instanceTypes := #[(.object "java/lang/String"), .int, .int, (.object "java/lang/String")]
  staticTypes := #[(.object "com/example/seqd/seqd/config/Policy"), (.object "com/example/seqd/seqd/config/Policy"), (.object "com/example/seqd/seqd/config/Policy"), (.object "com/example/seqd/seqd/config/Policy"), (.array (.object "com/example/seqd/seqd/config/Policy"))]
  resolved := Array.replicate 96 none
  statics := some 0 }

def pool7 : Array CpInfo := pool [(1, u "java/lang/Cloneable"), (0, .class_ 1), (0, u "java/lang/Object"), (0, .class_ 3)] 3

/-- java/lang/Cloneable -/
def k7 : Class := { plain "java/lang/Cloneable" (some 0) with
  accessFlags := 1537
  interfaces := #[]
  cf := some (fileOf pool7 2 #[] #[] 1537 4 #[] #[])
  fields := #[]
  methods := #[]
  instanceTypes := #[]
  staticTypes := #[]
  resolved := Array.replicate 8 none
  statics := none }

/-- the primitive byte -/
def k8 : Class := { plain "byte" none with kind := .primitive 'B', accessFlags := 0x411 }
/-- [B -/
def k9 : Class := { plain "[B" (some 0) with kind := .array 8 .byte, interfaces := #[7, 4], accessFlags := 1041 }

/-- the primitive int -/
def k10 : Class := { plain "int" none with kind := .primitive 'I', accessFlags := 0x411 }
/-- [I -/
def k11 : Class := { plain "[I" (some 0) with kind := .array 10 .int, interfaces := #[7, 4], accessFlags := 1041 }

def heap : Heap := #[{ cls := 6, slots := #[.ref 1, .ref 2, .ref 3, .ref 4, .null], vm := .statics 6 },
  { cls := 6, slots := #[.null, .int 0, .int 0, .null], vm := .none },
  { cls := 6, slots := #[.null, .int 1, .int 0, .null], vm := .none },
  { cls := 6, slots := #[.null, .int 2, .int 0, .null], vm := .none },
  { cls := 6, slots := #[.null, .int 3, .int 0, .null], vm := .none }]
def classes : Array Class := #[k0, k1, k2, k3, k4, k5, k6, k7, k8, k9, k10, k11]
def interned : List (Array UInt16 × Addr) := []
def slotsUsed : Nat := 21
def theMethod : MethodId := ⟨1, 1⟩
def args0 : Array Value := #[.int 5]
def aboutOver (below : List Frame) : State where
  vm := { classes := classes, interned := interned.toArray }
  heap := heap
  slotsUsed := slotsUsed
  threads := #[{ frames := .invoking theMethod args0 :: below }]
def below0 : List Frame := [.native { method := ⟨0, 0⟩, args := #[] }]
def about1 : State := aboutOver below0
def p0 : Program := .bare "" "" ""
def e0 : Env := launch0.env 0 0 0
theorem w_frames : about1.frames = Frame.invoking theMethod args0 :: below0 := rfl
set_option maxRecDepth 65536 in
theorem w_args : argsFit about1.vm theMethod args0 = true := by decide +kernel
set_option maxRecDepth 65536 in
theorem w_heap : heapFits about1 = true := by decide +kernel
set_option maxRecDepth 65536 in
theorem w_runnable : about1.curStatus? = some .runnable := by decide +kernel
set_option maxRecDepth 65536 in
theorem w_alone : about1.alone = true := by decide +kernel
set_option maxRecDepth 65536 in
theorem w_named : about1.methodNamed? x = some theMethod := by decide +kernel
set_option maxRecDepth 65536 in
theorem w_hears : about1.hears theMethod below0 = true := by decide +kernel
set_option maxRecDepth 65536 in
theorem w_ripe : about1.ripe theMethod args0 below0 = true := by decide +kernel
theorem w_running : about1.status = .running := rfl
set_option maxRecDepth 65536 in
theorem w_room : about1.hasRoom e0.platform room_1 = true :=
  launch0.hasRoom_least _ room_1 (by decide +kernel) (by decide +kernel) (by decide +kernel) (by decide +kernel) (by decide +kernel) (by decide +kernel)
theorem allAtoms_all (ts : List Jvm.Cond) (a : Array Jvm.Value) (st : Jvm.State) : (allAtoms ts).before a st = ts.all (fun c => c.before a st) := by
  induction ts with
  | nil => rfl
  | cons c t ih =>
    show (Jvm.Cond.and c (allAtoms t)).before a st = _
    rw [Jvm.Cond.before_and, ih, List.all_cons]
def words1 : List Jvm.Cond := Jvm.Cond.code x code maxLocals ret :: tables_1
/-- a 'code' word, met by the world's own term for the bytes: nothing is compared byte by byte -/
theorem code_word {y : MethodName} {bytes : ByteArray} {mx : Nat} {rt : Option FieldType} {a : Array Value} {s : State} {m : MethodId} {meth : Method} {c : Code} (h1 : s.methodNamed? y = some m) (h2 : s.vm.method? m = some meth) (h3 : meth.code = some c) (h4 : c.code = bytes)
    (h5 : (c.maxLocals == mx && c.exceptionTable.isEmpty && decide (c.maxStack ≤ mostOperands) && decide (meth.sig.returnType = rt) && !meth.locks && decide (parseMethodDescriptor y.desc = some meth.sig)) = true) : (Jvm.Cond.code y bytes mx rt).before a s = true := by
  simp only [Bool.and_eq_true, beq_iff_eq, Bool.not_eq_true', decide_eq_true_eq] at h5
  obtain ⟨⟨⟨⟨⟨g1, g2⟩, g3⟩, g4⟩, g5⟩, g6⟩ := h5
  simp [Cond.before, Cond.holds, Cond.value, h1, h2, h3, h4, g1, g2, g3, g4, g5, g6]
def isCode : Jvm.Cond → Bool
  | .code _ _ _ _ => true
  | _ => false
theorem all_split {L : List Jvm.Cond} {P : Jvm.Cond → Bool} (h1 : L.all (fun c => isCode c || P c) = true) (h2 : ∀ c ∈ L.filter isCode, P c = true) : L.all P = true := by
  refine List.all_eq_true.mpr fun c hc => ?_
  have h := List.all_eq_true.mp h1 c hc
  rcases Bool.eq_false_or_eq_true (isCode c) with hi | hi
  · exact h2 c (List.mem_filter.mpr ⟨hc, hi⟩)
  · simpa [hi] using h
set_option maxRecDepth 65536 in
theorem w_c0 : (Jvm.Cond.code x code maxLocals ret).before args0 about1 = true := code_word (m := ⟨1, 1⟩) (meth := k1m1) (c := k1c1) (by decide +kernel) rfl rfl rfl (by decide +kernel)
set_option maxRecDepth 65536 in
theorem w_c1 : (Jvm.Cond.code ({ cls := "com/example/seqd/seqd/config/Policy", name := "holds", desc := "()Z" } : Jvm.MethodName) prog_12_method_4_code (1 : Nat) (Option.some Jvm.ClassFile.FieldType.boolean)).before args0 about1 = true := code_word (m := ⟨6, 0⟩) (meth := k6m0) (c := k6c0) (by decide +kernel) rfl rfl rfl (by decide +kernel)
def codes1 : List Jvm.Cond := [Jvm.Cond.code x code maxLocals ret, Jvm.Cond.code ({ cls := "com/example/seqd/seqd/config/Policy", name := "holds", desc := "()Z" } : Jvm.MethodName) prog_12_method_4_code (1 : Nat) (Option.some Jvm.ClassFile.FieldType.boolean)]
set_option maxRecDepth 65536 in
theorem codes_eq : words1.filter isCode = codes1 := rfl
theorem w_codes : ∀ c ∈ words1.filter isCode, c.before args0 about1 = true := by
  rw [codes_eq]
  intro c hc
  simp only [codes1, List.mem_cons, List.not_mem_nil, or_false] at hc
  rcases hc with rfl | rfl
  · exact w_c0
  · exact w_c1
set_option maxRecDepth 65536 in
theorem w_t1 : words1.all (fun c => isCode c || c.before args0 about1) = true := by decide +kernel
theorem w_tables : (allAtoms (Jvm.Cond.code x code maxLocals ret :: tables_1)).before args0 about1 = true := by
  rw [allAtoms_all]
  show words1.all (fun c => c.before args0 about1) = true
  refine all_split ?_ w_codes
  rw [w_t1]
set_option maxRecDepth 65536 in
theorem w_case : (Jvm.Cond.and given_1 narrow_1).before args0 about1 = true := by decide +kernel
theorem w_applies : (headSpec (Jvm.Cond.code x code maxLocals ret :: tables_1) room_1).applies x e0.platform about1 = true :=
  (Spec.applies_iff w_frames).mpr ⟨w_running, w_runnable, w_alone, w_named, w_hears, w_ripe, w_room, w_tables⟩
theorem atStart : AtStart classFile x code maxLocals ret World_1 tables_1 room_1 Calls_1 rest_1 Pre_1 launch0 p0 e0 about1 theMethod args0 below0 :=
  ⟨lists_1, trivial, launch0.admits_env _ _ _, launch0.least_env, fairChoices_fair.cas, fairChoices_fair.clock, w_frames, w_args, w_heap, w_applies, trivial, trivial, w_case⟩
end start1
theorem witness_1 : WitnessClaimed_1 := ⟨start1.p0, start1.e0, start1.about1, start1.theMethod, start1.args0, start1.below0, start1.atStart⟩
end Jvm.Pilot.@@N@@
