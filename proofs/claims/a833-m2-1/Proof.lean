import JvmDerived
import JvmDerived.Pilot.@@N@@Statement
import JvmDerived.Pilot.@@N@@Code
set_option linter.unusedVariables false
set_option linter.unusedSimpArgs false
@@BLOCK:NumsL.lean.txt@@
namespace Jvm.RoadKit
open Sem ClassFile Op Lib Jvm.Stand Jvm.Free Jvm.LawKit
section Own
variable {p : Program} {l : Launch} {e : Env} {R : Room} {s : State} {m : MethodId} {args : Array Value} {below : List Frame} {meth : Method} {c : Code} {T : State} {locs : List Loc} {cells slots : Nat} {Z : State} {a0 : Array Value} {h : Heap}
/-- from the state F the walked method comes to its end, and Q holds there -/
def own_Out (p : Program) (e : Env) (below : List Frame) (Q : Outcome → State → Prop) (F : State) : Prop :=
  ∃ s₂ o, Steps p.tables e below F s₂ ∧ s₂.status = .running ∧ Ended s₂ below o ∧ Q o s₂
/-- what a contract says of the end, out of a statement on the value, the heap and the written places -/
def own_Q (Q : Option Value → Heap → List Loc → Prop) (s : State) (k n : Nat) : Outcome → State → Prop :=
  fun o U => ∃ v L, o = .returned v ∧ Q v U.heap L ∧ FrameEnd s o U L k n
theorem own_st {Q : Outcome → State → Prop} {F G : State} (h : ∀ t, Steps p.tables e below G t → Steps p.tables e below F t) (k : own_Out p e below Q G) : own_Out p e below Q F := by
  obtain ⟨s2, o, h1, h2⟩ := k
  exact ⟨s2, o, h _ h1, h2⟩
theorem own_tr {Q : Outcome → State → Prop} {F G : State} (h : Steps p.tables e below F G) (k : own_Out p e below Q G) : own_Out p e below Q F :=
  own_st (fun _ q => h.trans q) k
theorem own_retB (X : Stand p l e R s m args below meth c T locs cells slots) (hx : p.tables.exec = Jvm.exec) {Q : Option Value → Heap → List Loc → Prop} {k n : Nat} {pc : Nat} {Ls : Array Slot} {z : Int32} {t : FieldType} {rest : List Value}
    (hret : meth.sig.returnType = some t) (ht : t = .boolean ∨ t = .byte ∨ t = .char ∨ t = .short) (hlk : meth.locks = false) (hd : decode c.code pc = .ok (.ireturn, 1)) (hc : cells ≤ k) (hs : slots ≤ n)
    (hq : Q (some (.int (nar t z))) T.heap locs) : own_Out p e below (own_Q Q s k n) (T.setTop (mkF m pc Ls (.int z :: rest))) := by
  obtain ⟨fs, hr, hrun, hended, hW, hsame⟩ := X.leave (v := some (.int (nar t z))) (fun h => by rw [hret] at h; cases h) hlk
  exact ⟨_, _, retN X hx (t := t) hret ht hd hr, hrun, hended, _, _, rfl, hq, ⟨_, rfl⟩, hW, hsame.mono hc hs⟩
theorem own_retV (X : Stand p l e R s m args below meth c T locs cells slots) (hx : p.tables.exec = Jvm.exec) {Q : Option Value → Heap → List Loc → Prop} {k n : Nat} {pc : Nat} {Ls : Array Slot} {w : Value} {t : FieldType} {i : Instr} {rest : List Value}
    (hret : meth.sig.returnType = some t) (hn : narrow t w = w)
    (hi : (i = .ireturn ∧ (t = .int ∨ t = .boolean ∨ t = .byte ∨ t = .char ∨ t = .short) ∧ ∃ z, w = .int z) ∨ (i = .lreturn ∧ t = .long ∧ ∃ z, w = .long z) ∨ (i = .dreturn ∧ t = .double ∧ ∃ z, w = .double z) ∨ (i = .freturn ∧ t = .float ∧ ∃ z, w = .float z) ∨ (i = .areturn ∧ t.isReference = true ∧ w.isRef = true))
    (hlk : meth.locks = false) (hd : decode c.code pc = .ok (i, 1)) (hc : cells ≤ k) (hs : slots ≤ n)
    (hq : Q (some w) T.heap locs) : own_Out p e below (own_Q Q s k n) (T.setTop (mkF m pc Ls (w :: rest))) := by
  obtain ⟨fs, hr, hrun, hended, hW, hsame⟩ := X.leave (v := some w) (fun h => by rw [hret] at h; cases h) hlk
  exact ⟨_, _, retOut X hx hret hn hi hd hr, hrun, hended, _, _, rfl, hq, ⟨_, rfl⟩, hW, hsame.mono hc hs⟩
theorem own_retI (X : Stand p l e R s m args below meth c T locs cells slots) (hx : p.tables.exec = Jvm.exec) {Q : Option Value → Heap → List Loc → Prop} {k n : Nat} {pc : Nat} {Ls : Array Slot} {z : Int32} {rest : List Value}
    (hret : meth.sig.returnType = some .int) (hlk : meth.locks = false) (hd : decode c.code pc = .ok (.ireturn, 1)) (hc : cells ≤ k) (hs : slots ≤ n)
    (hq : Q (some (.int z)) T.heap locs) : own_Out p e below (own_Q Q s k n) (T.setTop (mkF m pc Ls (.int z :: rest))) :=
  own_retV X hx hret rfl (Or.inl ⟨rfl, Or.inl rfl, _, rfl⟩) hlk hd hc hs hq
theorem own_retJ (X : Stand p l e R s m args below meth c T locs cells slots) (hx : p.tables.exec = Jvm.exec) {Q : Option Value → Heap → List Loc → Prop} {k n : Nat} {pc : Nat} {Ls : Array Slot} {z : Int64} {rest : List Value}
    (hret : meth.sig.returnType = some .long) (hlk : meth.locks = false) (hd : decode c.code pc = .ok (.lreturn, 1)) (hc : cells ≤ k) (hs : slots ≤ n)
    (hq : Q (some (.long z)) T.heap locs) : own_Out p e below (own_Q Q s k n) (T.setTop (mkF m pc Ls (.long z :: rest))) :=
  own_retV X hx hret rfl (Or.inr (Or.inl ⟨rfl, rfl, _, rfl⟩)) hlk hd hc hs hq
theorem own_retA (X : Stand p l e R s m args below meth c T locs cells slots) (hx : p.tables.exec = Jvm.exec) {Q : Option Value → Heap → List Loc → Prop} {k n : Nat} {pc : Nat} {Ls : Array Slot} {w : Value} {t : FieldType} {rest : List Value}
    (hret : meth.sig.returnType = some t) (ht : t.isReference = true) (hw : w.isRef = true) (hlk : meth.locks = false) (hd : decode c.code pc = .ok (.areturn, 1)) (hc : cells ≤ k) (hs : slots ≤ n)
    (hq : Q (some w) T.heap locs) : own_Out p e below (own_Q Q s k n) (T.setTop (mkF m pc Ls (w :: rest))) :=
  own_retV X hx hret (by cases t <;> first | (cases ht; done) | rfl | (cases w <;> rfl)) (Or.inr (Or.inr (Or.inr (Or.inr ⟨rfl, ht, hw⟩)))) hlk hd hc hs hq
theorem own_ret0 (X : Stand p l e R s m args below meth c T locs cells slots) (hx : p.tables.exec = Jvm.exec) {Q : Option Value → Heap → List Loc → Prop} {k n : Nat} {pc : Nat} {Ls : Array Slot}
    (hret : meth.sig.returnType = none) (hlk : meth.locks = false) (hd : decode c.code pc = .ok (.return_, 1)) (hc : cells ≤ k) (hs : slots ≤ n)
    (hq : Q none T.heap locs) : own_Out p e below (own_Q Q s k n) (T.setTop (mkF m pc Ls [])) := by
  obtain ⟨fs, hr, hrun, hended, hW, hsame⟩ := X.leave (v := none) (fun _ => rfl) hlk
  exact ⟨_, _, X.returnOut hx hret hd hr, hrun, hended, _, _, rfl, hq, ⟨_, rfl⟩, hW, hsame.mono hc hs⟩
/-- the head of every body's walk -/
theorem own_body {x : MethodName} {code : ByteArray} {maxL : Nat} {ret : Option FieldType} {ws : List Jvm.Cond} {rm : Room} {as' : Array Value} {Q : Option Value → Heap → List Loc → Prop} (hpn : plainName x.cls = true) (Lf : Array Slot)
    (hent : ∀ m, entryFrame m as' maxL = mkF m 0 Lf [])
    (body : ∀ p e s m below meth c T, Stand p l e rm s m as' below meth c T [] 0 0 → p.tables.exec = Jvm.exec → c.code = code → c.maxLocals = maxL → meth.sig.returnType = ret → meth.locks = false →
      s.vm.findClass x.cls = some m.cls → meth.name = x.name → Z.Warmed39 s.vm → T.heap = h → own_Out p e below (own_Q Q s rm.cells rm.slots) (T.setTop (mkF m 0 Lf []))) :
    MetFree l x (head1 (Jvm.Cond.code x code maxL ret :: ws) rm) (fun a U => a = as' ∧ Z.Warmed39 U.vm ∧ U.heap = h) (fun _ _ _ _ _ => True)
      (fun _ U o U' => ∃ v L, o = .returned v ∧ Q v U'.heap L ∧ FrameEnd U o U' L rm.cells rm.slots) := by
  refine MetFree.of_bodySF (plainFor_of_name hpn) hisR ?_
  intro p e s m args below meth c s₁ Bd hml0 hP hK
  obtain ⟨rfl, hZ, hh⟩ := hP
  have e0 : s₁.heap = h := by rw [← hh, Bd.state]; rfl
  obtain ⟨s2, o, h1, h2⟩ := body p e s m below meth c s₁ (Stand.of_body Bd) Bd.exec Bd.bytes hml0 Bd.returns (BodyLoose.notSynchronized Bd) (findClass_of_methodNamed Bd.named) (name_of_methodNamed Bd.named Bd.method).1 hZ e0
  exact ⟨s2, o, castTop (hent m) h1, h2⟩
/-- a static call by the callee's own contract -/
theorem own_callS (X : Stand p l e R s m args below meth c T locs cells slots) (hx : p.tables.exec = Jvm.exec) (hZ : Z.Warmed39 s.vm) {own : String} {index : Nat} {y : MethodName} {bytes : ByteArray} {maxL : Nat} {ret : Option FieldType} {rm : Room} {as' : List Value} {Q : Option Value → Heap → List Loc → Prop} {Qf : Outcome → State → Prop}
    (hown : s.vm.findClass own = some m.cls) (w1 : (Jvm.Cond.methodLink own index y).before a0 Z = true) (w2 : (Jvm.Cond.static y).before a0 Z = true) (w3 : (Jvm.Cond.initialized y.cls).before a0 Z = true) (w4 : (Jvm.Cond.code y bytes maxL ret).before a0 Z = true)
    (hy : y.cls ≠ "java/lang/invoke/MethodHandle" ∧ y.cls ≠ "java/lang/invoke/VarHandle")
    (hM : MetFree l y (head1 [Jvm.Cond.code y bytes maxL ret] rm) (fun a U => a = as'.toArray ∧ Z.Warmed39 U.vm ∧ U.heap = h) (fun _ _ _ _ _ => True) (fun _ U o U' => ∃ v L, o = .returned v ∧ Q v U'.heap L ∧ FrameEnd U o U' L rm.cells rm.slots))
    (W : Nat) (hf : rm.frames + 1 ≤ R.frames) (hl : W + (maxL + 11) + rm.locals ≤ R.locals) (hc : cells + rm.cells ≤ R.cells) (hs : slots + rm.slots ≤ R.slots)
    {pc : Nat} {Ls : Array Slot} {stk rest : List Value} (hsize : Ls.size = c.maxLocals) (hlen : ∀ sig, parseMethodDescriptor y.desc = some sig → as'.length = sig.parameters.length) (hstack : stk = as'.reverse ++ rest) (hW : (rest.map fun v => v.category).sum ≤ W) (hd : decode c.code pc = .ok (.invokestatic index, 3)) (eT : T.heap = h)
    (k : ∀ T' L v, Stand p l e R s m args below meth c T' (locs ++ L) (cells + rm.cells) (slots + rm.slots) → Q v T'.heap L → own_Out p e below Qf (T'.setTop (mkF m (pc + 3) Ls (v.toList ++ rest)))) :
    own_Out p e below Qf (T.setTop (mkF m pc Ls stk)) := by
  obtain ⟨v, _, ⟨T', L', k', n'⟩, -, X', ⟨Lc, hQ, hl', hy', hz'⟩, st⟩ := Jvm.LawKit.callS X hx (y := y) hown (mvT hZ w1) (mvT hZ w2) (mvT hZ w3) (mvT hZ w4) hy (backOf (W := W) hM hZ w4 w3 hf hl) (g := mkF m pc Ls stk) rfl hsize (argsL := as') (rest := rest) hlen hstack (by show 2 * 0 + _ ≤ _; omega) hd (fun _ _ => ⟨rfl, eT, hc, hs⟩)
  dsimp only [Pt.U, Pt.locs, Pt.cells, Pt.slots] at X' hl' hy' hz' st hQ
  subst hl' hy' hz'
  exact own_st st (k _ _ _ X' hQ)
/-- an instance method by its own contract -/
theorem own_callV (X : Stand p l e R s m args below meth c T locs cells slots) (hx : p.tables.exec = Jvm.exec) (hZ : Z.Warmed39 s.vm) {own C : String} {index : Nat} {y : MethodName} {bytes : ByteArray} {maxL : Nat} {ret : Option FieldType} {rm : Room} {b : Addr} {as' : List Value} {Q : Option Value → Heap → List Loc → Prop} {Qf : Outcome → State → Prop}
    (hown : s.vm.findClass own = some m.cls) (w1 : (Jvm.Cond.methodLink own index y).before a0 Z = true) (w2 : (Jvm.Cond.declares y).before a0 Z = true) (w5 : (Jvm.Cond.selects C y y).before a0 Z = true) (w6 : (Jvm.Cond.instanceMethod y).before a0 Z = true) (w4 : (Jvm.Cond.code y bytes maxL ret).before a0 Z = true) (w3 : (Jvm.Cond.initialized y.cls).before a0 Z = true)
    (hy : y.cls ≠ "java/lang/invoke/MethodHandle" ∧ y.cls ≠ "java/lang/invoke/VarHandle")
    (hM : MetFree l y (head1 [Jvm.Cond.code y bytes maxL ret] rm) (fun a U => a = (.ref b :: as').toArray ∧ Z.Warmed39 U.vm ∧ U.heap = h) (fun _ _ _ _ _ => True) (fun _ U o U' => ∃ v L, o = .returned v ∧ Q v U'.heap L ∧ FrameEnd U o U' L rm.cells rm.slots))
    (E : Exa Z h b C)
    (W : Nat) (hf : rm.frames + 1 ≤ R.frames) (hl : W + (maxL + 11) + rm.locals ≤ R.locals) (hc : cells + rm.cells ≤ R.cells) (hs : slots + rm.slots ≤ R.slots)
    {pc : Nat} {Ls : Array Slot} {stk rest : List Value} (hsize : Ls.size = c.maxLocals) (hlen : ∀ sig, parseMethodDescriptor y.desc = some sig → as'.length = sig.parameters.length) (hstack : stk = as'.reverse ++ .ref b :: rest) (hW : (rest.map fun v => v.category).sum ≤ W) (hd : decode c.code pc = .ok (.invokevirtual index, 3)) (eT : T.heap = h)
    (k : ∀ T' L v, Stand p l e R s m args below meth c T' (locs ++ L) (cells + rm.cells) (slots + rm.slots) → Q v T'.heap L → own_Out p e below Qf (T'.setTop (mkF m (pc + 3) Ls (v.toList ++ rest)))) :
    own_Out p e below Qf (T.setTop (mkF m pc Ls stk)) := by
  obtain ⟨cq, kq, qa, qb, qc⟩ := isOf hZ eT E
  obtain ⟨v, _, ⟨T', L', k', n'⟩, -, X', ⟨Lc, hQ, hl', hy', hz'⟩, st⟩ := X.virtualBack hx (y := y) (z := y) hown (mvT hZ w1) (mvT hZ w2) (notFace_of_selects (args := #[]) (mvT hZ w5)) (mvT hZ w5) (mvT hZ w6) hy (backOf (W := W) hM hZ w4 w3 hf hl) qa qc (g := mkF m pc Ls stk) rfl hsize (Steps.refl _) (argsL := as') (rest := rest) hlen hstack (by show 2 * 0 + _ ≤ _; omega) hd (fun _ _ => ⟨rfl, eT, hc, hs⟩)
  dsimp only [Pt.U, Pt.locs, Pt.cells, Pt.slots] at X' hl' hy' hz' st hQ
  subst hl' hy' hz'
  exact own_tr st (k _ _ _ X' hQ)
/-- a constructor by its own contract -/
theorem own_callI (X : Stand p l e R s m args below meth c T locs cells slots) (hx : p.tables.exec = Jvm.exec) (hZ : Z.Warmed39 s.vm) {own : String} {index : Nat} {y : MethodName} {bytes : ByteArray} {maxL : Nat} {rm : Room} {b : Addr} {as' : List Value} {Q : Option Value → Heap → List Loc → Prop} {Qf : Outcome → State → Prop} (hy1 : y.name = "<init>")
    (hown : s.vm.findClass own = some m.cls) (w1 : (Jvm.Cond.methodLink own index y).before a0 Z = true) (w6 : (Jvm.Cond.instanceMethod y).before a0 Z = true) (w4 : (Jvm.Cond.code y bytes maxL none).before a0 Z = true) (w3 : (Jvm.Cond.initialized y.cls).before a0 Z = true)
    (hy : y.cls ≠ "java/lang/invoke/MethodHandle" ∧ y.cls ≠ "java/lang/invoke/VarHandle")
    (hM : MetFree l y (head1 [Jvm.Cond.code y bytes maxL none] rm) (fun a U => a = (.ref b :: as').toArray ∧ Z.Warmed39 U.vm ∧ U.heap = h) (fun _ _ _ _ _ => True) (fun _ U o U' => ∃ v L, o = .returned v ∧ Q v U'.heap L ∧ FrameEnd U o U' L rm.cells rm.slots))
    (W : Nat) (hf : rm.frames + 1 ≤ R.frames) (hl : W + (maxL + 11) + rm.locals ≤ R.locals) (hc : cells + rm.cells ≤ R.cells) (hs : slots + rm.slots ≤ R.slots)
    {pc : Nat} {Ls : Array Slot} {stk rest : List Value} (hsize : Ls.size = c.maxLocals) (hlen : ∀ sig, parseMethodDescriptor y.desc = some sig → as'.length = sig.parameters.length) (hstack : stk = as'.reverse ++ .ref b :: rest) (hW : (rest.map fun v => v.category).sum ≤ W) (hd : decode c.code pc = .ok (.invokespecial index, 3)) (eT : T.heap = h)
    (k : ∀ T' L v, Stand p l e R s m args below meth c T' (locs ++ L) (cells + rm.cells) (slots + rm.slots) → Q v T'.heap L → own_Out p e below Qf (T'.setTop (mkF m (pc + 3) Ls (v.toList ++ rest)))) :
    own_Out p e below Qf (T.setTop (mkF m pc Ls stk)) := by
  obtain ⟨v, _, ⟨T', L', k', n'⟩, -, X', ⟨Lc, hQ, hl', hy', hz'⟩, st⟩ := X.specialBack hx (y := y) hy1 hown (mvT hZ w1) (mvT hZ w6) (mvT hZ w4) hy (backOf (W := W) hM hZ w4 w3 hf hl) (g := mkF m pc Ls stk) rfl hsize (Steps.refl _) (a := b) (argsL := as') (rest := rest) hlen hstack (by show 2 * 0 + _ ≤ _; omega) hd (fun _ _ => ⟨rfl, eT, hc, hs⟩)
  dsimp only [Pt.U, Pt.locs, Pt.cells, Pt.slots] at X' hl' hy' hz' st hQ
  subst hl' hy' hz'
  exact own_tr st (k _ _ _ X' hQ)
theorem own_fits {C : String} {v : Value} (h : v.isRef = true) : fits (.object C) v = true := by cases v <;> first | rfl | cases h
theorem own_narO {C : String} {v : Value} (h : v.isRef = true) : narrow (.object C) v = v := by cases v <;> first | rfl | cases h
theorem own_nf {y y' : MethodName} (hc : y'.cls = y.cls) (h : NotFace s y) (hi : (Jvm.Cond.instanceMethod y).before a0 s = true) : NotFace s y' := fun r0 h0 => by
  obtain ⟨mk, methM, hnamed, -⟩ := Cond.instanceMethod_spec hi
  have h1 := findClass_of_methodNamed hnamed
  have h2 := findClass_of_methodNamed h0
  rw [hc, h1] at h2
  have h3 := Option.some.inj h2
  rw [← h3]
  exact h mk hnamed
/-- a private method (invokevirtual) by its own contract -/
theorem own_callP (X : Stand p l e R s m args below meth c T locs cells slots) (hx : p.tables.exec = Jvm.exec) (hZ : Z.Warmed39 s.vm) {own C : String} {index : Nat} {y : MethodName} {bytes : ByteArray} {maxL : Nat} {ret : Option FieldType} {rm : Room} {b : Addr} {as' : List Value} {Q : Option Value → Heap → List Loc → Prop} {Qf : Outcome → State → Prop}
    (hown : s.vm.findClass own = some m.cls) (w1 : (Jvm.Cond.methodLink own index y).before a0 Z = true) (w6 : (Jvm.Cond.instanceMethod y).before a0 Z = true) (w8 : (Jvm.Cond.privateMethod y).before a0 Z = true) (w4 : (Jvm.Cond.code y bytes maxL ret).before a0 Z = true) (w3 : (Jvm.Cond.initialized y.cls).before a0 Z = true) (hnf : NotFace s y)
    (hy : y.cls ≠ "java/lang/invoke/MethodHandle" ∧ y.cls ≠ "java/lang/invoke/VarHandle")
    (hM : MetFree l y (head1 [Jvm.Cond.code y bytes maxL ret] rm) (fun a U => a = (.ref b :: as').toArray ∧ Z.Warmed39 U.vm ∧ U.heap = h) (fun _ _ _ _ _ => True) (fun _ U o U' => ∃ v L, o = .returned v ∧ Q v U'.heap L ∧ FrameEnd U o U' L rm.cells rm.slots))
    (E : Exa Z h b C)
    (W : Nat) (hf : rm.frames + 1 ≤ R.frames) (hl : W + (maxL + 11) + rm.locals ≤ R.locals) (hc : cells + rm.cells ≤ R.cells) (hs : slots + rm.slots ≤ R.slots)
    {pc : Nat} {Ls : Array Slot} {stk rest : List Value} (hsize : Ls.size = c.maxLocals) (hlen : ∀ sig, parseMethodDescriptor y.desc = some sig → as'.length = sig.parameters.length) (hstack : stk = as'.reverse ++ .ref b :: rest) (hW : (rest.map fun v => v.category).sum ≤ W) (hd : decode c.code pc = .ok (.invokevirtual index, 3)) (eT : T.heap = h)
    (k : ∀ T' L v, Stand p l e R s m args below meth c T' (locs ++ L) (cells + rm.cells) (slots + rm.slots) → Q v T'.heap L → own_Out p e below Qf (T'.setTop (mkF m (pc + 3) Ls (v.toList ++ rest)))) :
    own_Out p e below Qf (T.setTop (mkF m pc Ls stk)) := by
  obtain ⟨mk, methM, hnamed, hmethM, hstM, habM⟩ := Cond.instanceMethod_spec (mvT (args := args) hZ w6)
  obtain ⟨methM', cM, hmethM', -, -, -, -, -, -, hsigM⟩ := Cond.code_spec hnamed (mvT (args := args) hZ w4)
  cases hmethM.symm.trans hmethM'
  obtain ⟨kP, hkP, hkPi⟩ := hnf mk hnamed
  obtain ⟨cell, hcell, hobj⟩ := E.cell
  have hselP : selectMethod e.platform s.vm cell.cls mk = .method mk := selectMethod_private hmethM (Cond.privateMethod_at (mvP hZ w8 (args := #[])) mk methM hnamed hmethM)
  obtain ⟨vm₁, X₁, hstep₁⟩ := X.invokevirtual hx hown (mvT hZ w1) hnamed hmethM hstM hkP hkPi hy (a := b) (cell := cell) (by rw [eT]; exact hcell) hobj hselP hmethM habM hkP hkPi (g := mkF m pc Ls stk) rfl (argsL := as') (rest := rest) (hlen _ hsigM) hstack hd
  obtain ⟨v, ⟨T', L', k', n'⟩, X', ⟨Lc, hQ, hl', hy', hz'⟩, st⟩ := backOf (W := W) hM hZ w4 w3 hf hl m meth c ⟨T.setVm vm₁, locs, cells, slots⟩ { mkF m pc Ls stk with stack := rest } (.invokevirtual index) mk (.ref b :: as').toArray X₁ rfl hsize hd (by show 2 * 0 + (rest.map fun v => v.category).sum ≤ W; omega) (X₁.named hnamed) ⟨rfl, eT, hc, hs⟩
  dsimp only [Pt.U, Pt.locs, Pt.cells, Pt.slots] at X' hl' hy' hz' st hQ
  subst hl' hy' hz'
  exact own_st (fun target q => hstep₁ _ fun acts => by rw [doInvoke_state]; exact st.trans q) (k _ _ _ X' hQ)
end Own
end Jvm.RoadKit
namespace Jvm.Pilot.@@N@@
open Jvm Jvm.ClassFile Sem Op Lib Jvm.Free Jvm.Stand Jvm.LawKit Jvm.RoadKit Bundle Jvm.Pilot.@@N@@.Jvm.D
theorem own_w {Z : State} {a0 : Array Value} (hw : ∀ d ∈ tables_1, d.before a0 Z = true) {d : Jvm.Cond} (k : Nat) (h : tables_1[k]? = some d) : d.before a0 Z = true := hw _ (List.mem_of_getElem? h)
def own_Len (Z : State) (h : Heap) (r : Addr) (ty : FieldType) (n : Int32) : Prop := ∃ c : Cell, Arr Z h r c ty ∧ c.slots.size.toInt32 = n
theorem own_Len.keep {Z : State} {h h' : Heap} {r : Addr} {ty : FieldType} {n : Int32} {ws : List Addr} (F : own_Len Z h r ty n) (K : Keep h h' ws) (q : r ∉ ws) : own_Len Z h' r ty n := by
  obtain ⟨c, A, r1⟩ := F
  exact ⟨c, ⟨K.2.1 _ c A.1 q, A.2⟩, r1⟩
theorem own_r4 (p v : Int32) (hv : (p &&& (3 : Int32)) = v) : 0 ≤ v.toInt ∧ v.toInt < 4 := by
  have e : v.toInt = p.toInt % 2 ^ 2 := by rw [← hv]; exact Jvm.Kit.i32_mask p 3 (k := 2) (by decide) (by decide)
  omega
theorem own_r6 (p v : Int32) (hv : ((p &&& (2147483647 : Int32)) % (6 : Int32)) = v) : 0 ≤ v.toInt ∧ v.toInt < 6 := by
  have e1 : (p &&& (2147483647 : Int32)).toInt = p.toInt % 2 ^ 31 := Jvm.Kit.i32_mask p 2147483647 (k := 31) (by decide) (by decide)
  have e2 : v.toInt = (p &&& (2147483647 : Int32)).toInt % 6 := by rw [← hv, Jvm.Kit.i32_rem_nonneg (by omega)]; rfl
  omega
theorem own_last3 (k : Int32) (hr : 0 ≤ k.toInt ∧ k.toInt < 4) (h0 : ¬ k = (0 : Int32)) (h1 : ¬ k = (1 : Int32)) (h2 : ¬ k = (2 : Int32)) : k = (3 : Int32) := by
  simp only [← Int32.toInt_inj, Int32.reduceToInt] at h0 h1 h2 ⊢
  omega
theorem own_last5 (k : Int32) (hr : 0 ≤ k.toInt ∧ k.toInt < 6) (h0 : ¬ k = (0 : Int32)) (h1 : ¬ k = (1 : Int32)) (h2 : ¬ k = (2 : Int32)) (h3 : ¬ k = (3 : Int32)) (h4 : ¬ k = (4 : Int32)) : k = (5 : Int32) := by
  simp only [← Int32.toInt_inj, Int32.reduceToInt] at h0 h1 h2 h3 h4 ⊢
  omega
def own_F (Z : State) (h : Heap) (a : Addr) (f0 : Int64) (f1 : Value) (f2 : Value) : Prop := Exa Z h a "com/example/seqd/seqd/store/Frame" ∧ Fld Z h a "com/example/seqd/seqd/store/Frame" "id" "J" (.long f0) ∧ Fld Z h a "com/example/seqd/seqd/store/Frame" "ended" "[J" f1 ∧ Fld Z h a "com/example/seqd/seqd/store/Frame" "data" "[B" f2
theorem own_F_id {Z : State} {a0 : Array Value} (hw : ∀ d ∈ tables_1, d.before a0 Z = true) {h h' : Heap} {a : Addr} {f0 : Int64} {f1 : Value} {f2 : Value} {y : Int64} (W : Wr h h' a (Jvm.RoadKit.slotOf Z "com/example/seqd/seqd/store/Frame" "id" "J") (.long y)) (O : own_F Z h a f0 f1 f2) : own_F Z h' a y f1 f2 :=
  ⟨(O.1.wr W), ((O).2.1.same W), ((O).2.2.1.other W (Or.inr (slot_ne (Or.inr (own_w hw 28 rfl)) (Or.inr (own_w hw 26 rfl)) (by decide) (t := .array (.long)) (t' := .long) (by decide) (by decide)))), ((O).2.2.2.other W (Or.inr (slot_ne (Or.inr (own_w hw 30 rfl)) (Or.inr (own_w hw 26 rfl)) (by decide) (t := .array (.byte)) (t' := .long) (by decide) (by decide))))⟩
theorem own_F_ended {Z : State} {a0 : Array Value} (hw : ∀ d ∈ tables_1, d.before a0 Z = true) {h h' : Heap} {a : Addr} {f0 : Int64} {f1 : Value} {f2 : Value} {y : Value} (W : Wr h h' a (Jvm.RoadKit.slotOf Z "com/example/seqd/seqd/store/Frame" "ended" "[J") y) (O : own_F Z h a f0 f1 f2) : own_F Z h' a f0 y f2 :=
  ⟨(O.1.wr W), ((O).2.1.other W (Or.inr (slot_ne (Or.inr (own_w hw 26 rfl)) (Or.inr (own_w hw 28 rfl)) (by decide) (t := .long) (t' := .array (.long)) (by decide) (by decide)))), ((O).2.2.1.same W), ((O).2.2.2.other W (Or.inr (slot_ne (Or.inr (own_w hw 30 rfl)) (Or.inr (own_w hw 28 rfl)) (by decide) (t := .array (.byte)) (t' := .array (.long)) (by decide) (by decide))))⟩
theorem own_F_data {Z : State} {a0 : Array Value} (hw : ∀ d ∈ tables_1, d.before a0 Z = true) {h h' : Heap} {a : Addr} {f0 : Int64} {f1 : Value} {f2 : Value} {y : Value} (W : Wr h h' a (Jvm.RoadKit.slotOf Z "com/example/seqd/seqd/store/Frame" "data" "[B") y) (O : own_F Z h a f0 f1 f2) : own_F Z h' a f0 f1 y :=
  ⟨(O.1.wr W), ((O).2.1.other W (Or.inr (slot_ne (Or.inr (own_w hw 26 rfl)) (Or.inr (own_w hw 30 rfl)) (by decide) (t := .long) (t' := .array (.byte)) (by decide) (by decide)))), ((O).2.2.1.other W (Or.inr (slot_ne (Or.inr (own_w hw 28 rfl)) (Or.inr (own_w hw 30 rfl)) (by decide) (t := .array (.long)) (t' := .array (.byte)) (by decide) (by decide)))), ((O).2.2.2.same W)⟩
theorem pn_own_longs : plainName "com/example/seqd/seqd/store/FrameSizePinLaw" = true := by first | (simp [plainName, overriddenIn]; done) | decide +kernel
theorem down_longs_0 : decode method_2_code 0 = .ok (.iload_n 0, 1) := by decide +kernel
theorem down_longs_1 : decode method_2_code 1 = .ok (.ifCond .ne 7, 3) := by decide +kernel
theorem down_longs_4 : decode method_2_code 4 = .ok (.iconst 0, 1) := by decide +kernel
theorem down_longs_5 : decode method_2_code 5 = .ok (.newarray .long, 2) := by decide +kernel
theorem down_longs_7 : decode method_2_code 7 = .ok (.areturn, 1) := by decide +kernel
theorem down_longs_8 : decode method_2_code 8 = .ok (.iload_n 0, 1) := by decide +kernel
theorem down_longs_9 : decode method_2_code 9 = .ok (.iconst 1, 1) := by decide +kernel
theorem down_longs_10 : decode method_2_code 10 = .ok (.if_icmp .ne 11, 3) := by decide +kernel
theorem down_longs_13 : decode method_2_code 13 = .ok (.iconst 1, 1) := by decide +kernel
theorem down_longs_14 : decode method_2_code 14 = .ok (.newarray .long, 2) := by decide +kernel
theorem down_longs_16 : decode method_2_code 16 = .ok (.dup, 1) := by decide +kernel
theorem down_longs_17 : decode method_2_code 17 = .ok (.iconst 0, 1) := by decide +kernel
theorem down_longs_18 : decode method_2_code 18 = .ok (.lload_n 1, 1) := by decide +kernel
theorem down_longs_19 : decode method_2_code 19 = .ok (.lastore, 1) := by decide +kernel
theorem down_longs_20 : decode method_2_code 20 = .ok (.areturn, 1) := by decide +kernel
theorem down_longs_21 : decode method_2_code 21 = .ok (.iload_n 0, 1) := by decide +kernel
theorem down_longs_22 : decode method_2_code 22 = .ok (.iconst 2, 1) := by decide +kernel
theorem down_longs_23 : decode method_2_code 23 = .ok (.if_icmp .ne 19, 3) := by decide +kernel
theorem down_longs_26 : decode method_2_code 26 = .ok (.iconst 2, 1) := by decide +kernel
theorem down_longs_27 : decode method_2_code 27 = .ok (.newarray .long, 2) := by decide +kernel
theorem down_longs_29 : decode method_2_code 29 = .ok (.dup, 1) := by decide +kernel
theorem down_longs_30 : decode method_2_code 30 = .ok (.iconst 0, 1) := by decide +kernel
theorem down_longs_31 : decode method_2_code 31 = .ok (.lload_n 1, 1) := by decide +kernel
theorem down_longs_32 : decode method_2_code 32 = .ok (.lastore, 1) := by decide +kernel
theorem down_longs_33 : decode method_2_code 33 = .ok (.dup, 1) := by decide +kernel
theorem down_longs_34 : decode method_2_code 34 = .ok (.iconst 1, 1) := by decide +kernel
theorem down_longs_35 : decode method_2_code 35 = .ok (.lload_n 1, 1) := by decide +kernel
theorem down_longs_36 : decode method_2_code 36 = .ok (.ldc2_w 7, 3) := by decide +kernel
theorem down_longs_39 : decode method_2_code 39 = .ok (.lxor, 1) := by decide +kernel
theorem down_longs_40 : decode method_2_code 40 = .ok (.lastore, 1) := by decide +kernel
theorem down_longs_41 : decode method_2_code 41 = .ok (.areturn, 1) := by decide +kernel
theorem down_longs_42 : decode method_2_code 42 = .ok (.iconst 3, 1) := by decide +kernel
theorem down_longs_43 : decode method_2_code 43 = .ok (.newarray .long, 2) := by decide +kernel
theorem down_longs_45 : decode method_2_code 45 = .ok (.dup, 1) := by decide +kernel
theorem down_longs_46 : decode method_2_code 46 = .ok (.iconst 0, 1) := by decide +kernel
theorem down_longs_47 : decode method_2_code 47 = .ok (.lload_n 1, 1) := by decide +kernel
theorem down_longs_48 : decode method_2_code 48 = .ok (.lastore, 1) := by decide +kernel
theorem down_longs_49 : decode method_2_code 49 = .ok (.dup, 1) := by decide +kernel
theorem down_longs_50 : decode method_2_code 50 = .ok (.iconst 1, 1) := by decide +kernel
theorem down_longs_51 : decode method_2_code 51 = .ok (.lload_n 1, 1) := by decide +kernel
theorem down_longs_52 : decode method_2_code 52 = .ok (.ldc2_w 7, 3) := by decide +kernel
theorem down_longs_55 : decode method_2_code 55 = .ok (.lxor, 1) := by decide +kernel
theorem down_longs_56 : decode method_2_code 56 = .ok (.lastore, 1) := by decide +kernel
theorem down_longs_57 : decode method_2_code 57 = .ok (.dup, 1) := by decide +kernel
theorem down_longs_58 : decode method_2_code 58 = .ok (.iconst 2, 1) := by decide +kernel
theorem down_longs_59 : decode method_2_code 59 = .ok (.lload_n 1, 1) := by decide +kernel
theorem down_longs_60 : decode method_2_code 60 = .ok (.lconst 1, 1) := by decide +kernel
theorem down_longs_61 : decode method_2_code 61 = .ok (.lxor, 1) := by decide +kernel
theorem down_longs_62 : decode method_2_code 62 = .ok (.lastore, 1) := by decide +kernel
theorem down_longs_63 : decode method_2_code 63 = .ok (.areturn, 1) := by decide +kernel
def Q_own_longs (Z : State) (k : Int32) (y : Int64)  (h0 : Heap) (n0 : Nat) (v : Option Value) (h : Heap) (L : List Loc) : Prop := ∃ r, v = some (.ref r) ∧ Fr n0 L ∧ Keep h0 h [] ∧ h0.size ≤ r ∧ own_Len Z h r .long k
set_option maxRecDepth 65536 in
set_option maxHeartbeats 40000000 in
theorem own_longs (l : Launch) (Z : State) (a0 : Array Value) (hw : ∀ d ∈ tables_1, d.before a0 Z = true) (ws : List Jvm.Cond) (k : Int32) (y : Int64)  (h0 : Heap) (n0 : Nat) (Z0 : n0 ≤ h0.size) (hr : 0 ≤ k.toInt ∧ k.toInt < 4) :
    MetFree l (⟨"com/example/seqd/seqd/store/FrameSizePinLaw", "longs", "(IJ)[J"⟩ : MethodName) (head1 (Jvm.Cond.code (⟨"com/example/seqd/seqd/store/FrameSizePinLaw", "longs", "(IJ)[J"⟩ : MethodName) method_2_code 3 (some (.array (.long))) :: ws) ({ frames := 0, cells := 1, slots := 3, locals := 0 } : Room)) (fun aa U => aa = #[(.int k), (.long y)] ∧ Z.Warmed39 U.vm ∧ U.heap = h0) (fun _ _ _ _ _ => True) (fun _ U o U' => ∃ v L, o = .returned v ∧ Q_own_longs Z k y h0 n0 v U'.heap L ∧ FrameEnd U o U' L ({ frames := 0, cells := 1, slots := 3, locals := 0 } : Room).cells ({ frames := 0, cells := 1, slots := 3, locals := 0 } : Room).slots) := by
  refine own_body (x := (⟨"com/example/seqd/seqd/store/FrameSizePinLaw", "longs", "(IJ)[J"⟩ : MethodName)) (maxL := 3) (as' := #[(.int k), (.long y)]) (Q := Q_own_longs Z k y h0 n0) pn_own_longs #[.val (.int k), .val (.long y), .second] (fun m => by first | (simp [entryFrame, mkF, argsToLocals, Value.category]; done) | rfl) ?_
  intro p e s m below meth c T0 X0 hx hby hml hret hlk hown hnm hZ e0
  replace hml : c.maxLocals = 3 := hml
  replace hown : s.vm.findClass "com/example/seqd/seqd/store/FrameSizePinLaw" = some m.cls := hown
  have N0 := Fr.nil n0
  have K0 := Keep.refl h0 []
  refine own_st (G := T0.setTop (mkF m 1 #[.val (.int k), .val (.long y), .second] [(.int k)])) (fun _ kk => XS.iloadN X0.here hx rfl (hb hby down_longs_0) rfl kk) ?_
  by_cases hc1 : k = (0 : Int32)
  · skip
    refine own_st (G := T0.setTop (mkF m 4 #[.val (.int k), .val (.long y), .second] [])) (fun _ kk => XS.ifNo X0.here hx rfl (hb hby down_longs_1) rfl (XT.i0_ne_f hc1) kk) ?_
    refine own_st (G := T0.setTop (mkF m 5 #[.val (.int k), .val (.long y), .second] [(.int (0 : Int32))])) (fun _ kk => XT.iconstV X0.here hx rfl (0 : Int32) (hb hby down_longs_4) (by decide) kk) ?_
    obtain ⟨T2, h3, cA4, X5, e6, E7, A8, st9⟩ := newP X0 hx hZ (own_w hw 8 rfl) e0 (g := (mkF m 5 #[.val (.int k), .val (.long y), .second] [(.int (0 : Int32))])) rfl (hb hby down_longs_5) rfl (by decide) (cap := 0) (by decide) (by decide) (by decide) (by decide)
    obtain ⟨a10, g11⟩ : ∃ z, z = h0.size := ⟨_, rfl⟩
    rw [← g11] at A8 st9
    have S12 : (newA cA4 .long (0 : Int32)).slots.size = 0 := (sz_new _ _ _).trans (by decide)
    refine own_st st9 ?_
    show own_Out _ _ _ _ (T2.setTop (mkF m 7 #[.val (.int k), .val (.long y), .second] [(.ref a10)]))
    replace A8 : Arr Z h3 a10 (newA cA4 .long (0 : Int32)) .long := A8
    have hz14 : h0.size ≤ a10 := by rw [g11]; exact K0.1
    have ge15 : n0 ≤ a10 := Nat.le_trans Z0 hz14
    have K13 := K0.ext E7
    have hkn : k = (0 : Int32) := hc1
    have hT := e6
    refine own_retA X5 hx hret rfl rfl hlk (hb hby down_longs_7) (by decide) (by decide) ?_
    rw [hT]
    exact ⟨_, rfl, N0, K13, hz14, _, A8, by rw [S12, hkn]; rfl⟩
  · skip
    refine own_st (G := T0.setTop (mkF m 8 #[.val (.int k), .val (.long y), .second] [])) (fun _ kk => XS.ifYes X0.here hx rfl (pc0 := 1) (pc' := 8) rfl (hb hby down_longs_1) rfl (XT.i0_ne_t hc1) (by decide) (by decide) kk) ?_
    refine own_st (G := T0.setTop (mkF m 9 #[.val (.int k), .val (.long y), .second] [(.int k)])) (fun _ kk => XS.iloadN X0.here hx rfl (hb hby down_longs_8) rfl kk) ?_
    refine own_st (G := T0.setTop (mkF m 10 #[.val (.int k), .val (.long y), .second] [(.int (1 : Int32)), (.int k)])) (fun _ kk => XT.iconstV X0.here hx rfl (1 : Int32) (hb hby down_longs_9) (by decide) kk) ?_
    by_cases hc16 : k = (1 : Int32)
    · skip
      refine own_st (G := T0.setTop (mkF m 13 #[.val (.int k), .val (.long y), .second] [])) (fun _ kk => XS.icmpNo X0.here hx rfl (hb hby down_longs_10) rfl (XT.ii_ne_f hc16) kk) ?_
      refine own_st (G := T0.setTop (mkF m 14 #[.val (.int k), .val (.long y), .second] [(.int (1 : Int32))])) (fun _ kk => XT.iconstV X0.here hx rfl (1 : Int32) (hb hby down_longs_13) (by decide) kk) ?_
      obtain ⟨T17, h18, cA19, X20, e21, E22, A23, st24⟩ := newP X0 hx hZ (own_w hw 8 rfl) e0 (g := (mkF m 14 #[.val (.int k), .val (.long y), .second] [(.int (1 : Int32))])) rfl (hb hby down_longs_14) rfl (by decide) (cap := 1) (by decide) (by decide) (by decide) (by decide)
      obtain ⟨a25, g26⟩ : ∃ z, z = h0.size := ⟨_, rfl⟩
      rw [← g26] at A23 st24
      have S27 : (newA cA19 .long (1 : Int32)).slots.size = 1 := (sz_new _ _ _).trans (by decide)
      refine own_st st24 ?_
      show own_Out _ _ _ _ (T17.setTop (mkF m 16 #[.val (.int k), .val (.long y), .second] [(.ref a25)]))
      replace A23 : Arr Z h18 a25 (newA cA19 .long (1 : Int32)) .long := A23
      have hz29 : h0.size ≤ a25 := by rw [g26]; exact K0.1
      have ge30 : n0 ≤ a25 := Nat.le_trans Z0 hz29
      have K28 := K0.ext E22
      refine own_st (G := T17.setTop (mkF m 17 #[.val (.int k), .val (.long y), .second] [(.ref a25), (.ref a25)])) (fun _ kk => XS.dup X20.here hx rfl (hb hby down_longs_16) rfl rfl kk) ?_
      refine own_st (G := T17.setTop (mkF m 18 #[.val (.int k), .val (.long y), .second] [(.int (0 : Int32)), (.ref a25), (.ref a25)])) (fun _ kk => XT.iconstV X20.here hx rfl (0 : Int32) (hb hby down_longs_17) (by decide) kk) ?_
      refine own_st (G := T17.setTop (mkF m 19 #[.val (.int k), .val (.long y), .second] [(.long y), (.int (0 : Int32)), (.ref a25), (.ref a25)])) (fun _ kk => XS.lloadN X20.here hx rfl (hb hby down_longs_18) rfl kk) ?_
      obtain ⟨T31, h32, X33, e34, W35, st36⟩ := stJ X20 hx hZ e21 A23 (j := (0 : Int32)) (by rw [S27]; decide) (g := (mkF m 19 #[.val (.int k), .val (.long y), .second] [(.long y), (.int (0 : Int32)), (.ref a25), (.ref a25)])) rfl rfl (hb hby down_longs_19)
      refine own_st st36 ?_
      show own_Out _ _ _ _ (T31.setTop (mkF m 20 #[.val (.int k), .val (.long y), .second] [(.ref a25)]))
      have A39 := A23.same W35
      have S40 := (sz_set _ (0 : Int32).toNatClampNeg (.long y)).trans S27
      have K37 := K28.wr W35 (Or.inr hz29)
      have N38 := Fr.snoc X33 N0 ge30
      have hkn : k = (1 : Int32) := hc16
      have hT := e34
      refine own_retA X33 hx hret rfl rfl hlk (hb hby down_longs_20) (by decide) (by decide) ?_
      rw [hT]
      exact ⟨_, rfl, N38, K37, hz29, _, A39, by rw [S40, hkn]; rfl⟩
    · skip
      refine own_st (G := T0.setTop (mkF m 21 #[.val (.int k), .val (.long y), .second] [])) (fun _ kk => XS.icmpYes X0.here hx rfl (pc0 := 10) (pc' := 21) rfl (hb hby down_longs_10) rfl (XT.ii_ne_t hc16) (by decide) (by decide) kk) ?_
      refine own_st (G := T0.setTop (mkF m 22 #[.val (.int k), .val (.long y), .second] [(.int k)])) (fun _ kk => XS.iloadN X0.here hx rfl (hb hby down_longs_21) rfl kk) ?_
      refine own_st (G := T0.setTop (mkF m 23 #[.val (.int k), .val (.long y), .second] [(.int (2 : Int32)), (.int k)])) (fun _ kk => XT.iconstV X0.here hx rfl (2 : Int32) (hb hby down_longs_22) (by decide) kk) ?_
      by_cases hc41 : k = (2 : Int32)
      · skip
        refine own_st (G := T0.setTop (mkF m 26 #[.val (.int k), .val (.long y), .second] [])) (fun _ kk => XS.icmpNo X0.here hx rfl (hb hby down_longs_23) rfl (XT.ii_ne_f hc41) kk) ?_
        refine own_st (G := T0.setTop (mkF m 27 #[.val (.int k), .val (.long y), .second] [(.int (2 : Int32))])) (fun _ kk => XT.iconstV X0.here hx rfl (2 : Int32) (hb hby down_longs_26) (by decide) kk) ?_
        obtain ⟨T42, h43, cA44, X45, e46, E47, A48, st49⟩ := newP X0 hx hZ (own_w hw 8 rfl) e0 (g := (mkF m 27 #[.val (.int k), .val (.long y), .second] [(.int (2 : Int32))])) rfl (hb hby down_longs_27) rfl (by decide) (cap := 2) (by decide) (by decide) (by decide) (by decide)
        obtain ⟨a50, g51⟩ : ∃ z, z = h0.size := ⟨_, rfl⟩
        rw [← g51] at A48 st49
        have S52 : (newA cA44 .long (2 : Int32)).slots.size = 2 := (sz_new _ _ _).trans (by decide)
        refine own_st st49 ?_
        show own_Out _ _ _ _ (T42.setTop (mkF m 29 #[.val (.int k), .val (.long y), .second] [(.ref a50)]))
        replace A48 : Arr Z h43 a50 (newA cA44 .long (2 : Int32)) .long := A48
        have hz54 : h0.size ≤ a50 := by rw [g51]; exact K0.1
        have ge55 : n0 ≤ a50 := Nat.le_trans Z0 hz54
        have K53 := K0.ext E47
        refine own_st (G := T42.setTop (mkF m 30 #[.val (.int k), .val (.long y), .second] [(.ref a50), (.ref a50)])) (fun _ kk => XS.dup X45.here hx rfl (hb hby down_longs_29) rfl rfl kk) ?_
        refine own_st (G := T42.setTop (mkF m 31 #[.val (.int k), .val (.long y), .second] [(.int (0 : Int32)), (.ref a50), (.ref a50)])) (fun _ kk => XT.iconstV X45.here hx rfl (0 : Int32) (hb hby down_longs_30) (by decide) kk) ?_
        refine own_st (G := T42.setTop (mkF m 32 #[.val (.int k), .val (.long y), .second] [(.long y), (.int (0 : Int32)), (.ref a50), (.ref a50)])) (fun _ kk => XS.lloadN X45.here hx rfl (hb hby down_longs_31) rfl kk) ?_
        obtain ⟨T56, h57, X58, e59, W60, st61⟩ := stJ X45 hx hZ e46 A48 (j := (0 : Int32)) (by rw [S52]; decide) (g := (mkF m 32 #[.val (.int k), .val (.long y), .second] [(.long y), (.int (0 : Int32)), (.ref a50), (.ref a50)])) rfl rfl (hb hby down_longs_32)
        refine own_st st61 ?_
        show own_Out _ _ _ _ (T56.setTop (mkF m 33 #[.val (.int k), .val (.long y), .second] [(.ref a50)]))
        have A64 := A48.same W60
        have S65 := (sz_set _ (0 : Int32).toNatClampNeg (.long y)).trans S52
        have K62 := K53.wr W60 (Or.inr hz54)
        have N63 := Fr.snoc X58 N0 ge55
        refine own_st (G := T56.setTop (mkF m 34 #[.val (.int k), .val (.long y), .second] [(.ref a50), (.ref a50)])) (fun _ kk => XS.dup X58.here hx rfl (hb hby down_longs_33) rfl rfl kk) ?_
        refine own_st (G := T56.setTop (mkF m 35 #[.val (.int k), .val (.long y), .second] [(.int (1 : Int32)), (.ref a50), (.ref a50)])) (fun _ kk => XT.iconstV X58.here hx rfl (1 : Int32) (hb hby down_longs_34) (by decide) kk) ?_
        refine own_st (G := T56.setTop (mkF m 36 #[.val (.int k), .val (.long y), .second] [(.long y), (.int (1 : Int32)), (.ref a50), (.ref a50)])) (fun _ kk => XS.lloadN X58.here hx rfl (hb hby down_longs_35) rfl kk) ?_
        refine own_st (G := T56.setTop (mkF m 39 #[.val (.int k), .val (.long y), .second] [(.long (-1 : Int64)), (.long y), (.int (1 : Int32)), (.ref a50), (.ref a50)])) (fun _ kk => X58.ldc2Long hx hown (mvT hZ (own_w hw 9 rfl)) (g := (mkF m 36 #[.val (.int k), .val (.long y), .second] [(.long y), (.int (1 : Int32)), (.ref a50), (.ref a50)])) rfl (hb hby down_longs_36) _ kk) ?_
        refine own_st (G := T56.setTop (mkF m 40 #[.val (.int k), .val (.long y), .second] [(.long (y ^^^ (-1 : Int64))), (.int (1 : Int32)), (.ref a50), (.ref a50)])) (fun _ kk => XS.lxor X58.here hx rfl (hb hby down_longs_39) rfl kk) ?_
        obtain ⟨T66, h67, X68, e69, W70, st71⟩ := stJ X58 hx hZ e59 A64 (j := (1 : Int32)) (by rw [S65]; decide) (g := (mkF m 40 #[.val (.int k), .val (.long y), .second] [(.long (y ^^^ (-1 : Int64))), (.int (1 : Int32)), (.ref a50), (.ref a50)])) rfl rfl (hb hby down_longs_40)
        refine own_st st71 ?_
        show own_Out _ _ _ _ (T66.setTop (mkF m 41 #[.val (.int k), .val (.long y), .second] [(.ref a50)]))
        have A74 := A64.same W70
        have S75 := (sz_set _ (1 : Int32).toNatClampNeg (.long (y ^^^ (-1 : Int64)))).trans S65
        have K72 := K62.wr W70 (Or.inr hz54)
        have N73 := Fr.snoc X68 N63 ge55
        have hkn : k = (2 : Int32) := hc41
        have hT := e69
        refine own_retA X68 hx hret rfl rfl hlk (hb hby down_longs_41) (by decide) (by decide) ?_
        rw [hT]
        exact ⟨_, rfl, N73, K72, hz54, _, A74, by rw [S75, hkn]; rfl⟩
      · skip
        refine own_st (G := T0.setTop (mkF m 42 #[.val (.int k), .val (.long y), .second] [])) (fun _ kk => XS.icmpYes X0.here hx rfl (pc0 := 23) (pc' := 42) rfl (hb hby down_longs_23) rfl (XT.ii_ne_t hc41) (by decide) (by decide) kk) ?_
        refine own_st (G := T0.setTop (mkF m 43 #[.val (.int k), .val (.long y), .second] [(.int (3 : Int32))])) (fun _ kk => XT.iconstV X0.here hx rfl (3 : Int32) (hb hby down_longs_42) (by decide) kk) ?_
        obtain ⟨T76, h77, cA78, X79, e80, E81, A82, st83⟩ := newP X0 hx hZ (own_w hw 8 rfl) e0 (g := (mkF m 43 #[.val (.int k), .val (.long y), .second] [(.int (3 : Int32))])) rfl (hb hby down_longs_43) rfl (by decide) (cap := 3) (by decide) (by decide) (by decide) (by decide)
        obtain ⟨a84, g85⟩ : ∃ z, z = h0.size := ⟨_, rfl⟩
        rw [← g85] at A82 st83
        have S86 : (newA cA78 .long (3 : Int32)).slots.size = 3 := (sz_new _ _ _).trans (by decide)
        refine own_st st83 ?_
        show own_Out _ _ _ _ (T76.setTop (mkF m 45 #[.val (.int k), .val (.long y), .second] [(.ref a84)]))
        replace A82 : Arr Z h77 a84 (newA cA78 .long (3 : Int32)) .long := A82
        have hz88 : h0.size ≤ a84 := by rw [g85]; exact K0.1
        have ge89 : n0 ≤ a84 := Nat.le_trans Z0 hz88
        have K87 := K0.ext E81
        refine own_st (G := T76.setTop (mkF m 46 #[.val (.int k), .val (.long y), .second] [(.ref a84), (.ref a84)])) (fun _ kk => XS.dup X79.here hx rfl (hb hby down_longs_45) rfl rfl kk) ?_
        refine own_st (G := T76.setTop (mkF m 47 #[.val (.int k), .val (.long y), .second] [(.int (0 : Int32)), (.ref a84), (.ref a84)])) (fun _ kk => XT.iconstV X79.here hx rfl (0 : Int32) (hb hby down_longs_46) (by decide) kk) ?_
        refine own_st (G := T76.setTop (mkF m 48 #[.val (.int k), .val (.long y), .second] [(.long y), (.int (0 : Int32)), (.ref a84), (.ref a84)])) (fun _ kk => XS.lloadN X79.here hx rfl (hb hby down_longs_47) rfl kk) ?_
        obtain ⟨T90, h91, X92, e93, W94, st95⟩ := stJ X79 hx hZ e80 A82 (j := (0 : Int32)) (by rw [S86]; decide) (g := (mkF m 48 #[.val (.int k), .val (.long y), .second] [(.long y), (.int (0 : Int32)), (.ref a84), (.ref a84)])) rfl rfl (hb hby down_longs_48)
        refine own_st st95 ?_
        show own_Out _ _ _ _ (T90.setTop (mkF m 49 #[.val (.int k), .val (.long y), .second] [(.ref a84)]))
        have A98 := A82.same W94
        have S99 := (sz_set _ (0 : Int32).toNatClampNeg (.long y)).trans S86
        have K96 := K87.wr W94 (Or.inr hz88)
        have N97 := Fr.snoc X92 N0 ge89
        refine own_st (G := T90.setTop (mkF m 50 #[.val (.int k), .val (.long y), .second] [(.ref a84), (.ref a84)])) (fun _ kk => XS.dup X92.here hx rfl (hb hby down_longs_49) rfl rfl kk) ?_
        refine own_st (G := T90.setTop (mkF m 51 #[.val (.int k), .val (.long y), .second] [(.int (1 : Int32)), (.ref a84), (.ref a84)])) (fun _ kk => XT.iconstV X92.here hx rfl (1 : Int32) (hb hby down_longs_50) (by decide) kk) ?_
        refine own_st (G := T90.setTop (mkF m 52 #[.val (.int k), .val (.long y), .second] [(.long y), (.int (1 : Int32)), (.ref a84), (.ref a84)])) (fun _ kk => XS.lloadN X92.here hx rfl (hb hby down_longs_51) rfl kk) ?_
        refine own_st (G := T90.setTop (mkF m 55 #[.val (.int k), .val (.long y), .second] [(.long (-1 : Int64)), (.long y), (.int (1 : Int32)), (.ref a84), (.ref a84)])) (fun _ kk => X92.ldc2Long hx hown (mvT hZ (own_w hw 9 rfl)) (g := (mkF m 52 #[.val (.int k), .val (.long y), .second] [(.long y), (.int (1 : Int32)), (.ref a84), (.ref a84)])) rfl (hb hby down_longs_52) _ kk) ?_
        refine own_st (G := T90.setTop (mkF m 56 #[.val (.int k), .val (.long y), .second] [(.long (y ^^^ (-1 : Int64))), (.int (1 : Int32)), (.ref a84), (.ref a84)])) (fun _ kk => XS.lxor X92.here hx rfl (hb hby down_longs_55) rfl kk) ?_
        obtain ⟨T100, h101, X102, e103, W104, st105⟩ := stJ X92 hx hZ e93 A98 (j := (1 : Int32)) (by rw [S99]; decide) (g := (mkF m 56 #[.val (.int k), .val (.long y), .second] [(.long (y ^^^ (-1 : Int64))), (.int (1 : Int32)), (.ref a84), (.ref a84)])) rfl rfl (hb hby down_longs_56)
        refine own_st st105 ?_
        show own_Out _ _ _ _ (T100.setTop (mkF m 57 #[.val (.int k), .val (.long y), .second] [(.ref a84)]))
        have A108 := A98.same W104
        have S109 := (sz_set _ (1 : Int32).toNatClampNeg (.long (y ^^^ (-1 : Int64)))).trans S99
        have K106 := K96.wr W104 (Or.inr hz88)
        have N107 := Fr.snoc X102 N97 ge89
        refine own_st (G := T100.setTop (mkF m 58 #[.val (.int k), .val (.long y), .second] [(.ref a84), (.ref a84)])) (fun _ kk => XS.dup X102.here hx rfl (hb hby down_longs_57) rfl rfl kk) ?_
        refine own_st (G := T100.setTop (mkF m 59 #[.val (.int k), .val (.long y), .second] [(.int (2 : Int32)), (.ref a84), (.ref a84)])) (fun _ kk => XT.iconstV X102.here hx rfl (2 : Int32) (hb hby down_longs_58) (by decide) kk) ?_
        refine own_st (G := T100.setTop (mkF m 60 #[.val (.int k), .val (.long y), .second] [(.long y), (.int (2 : Int32)), (.ref a84), (.ref a84)])) (fun _ kk => XS.lloadN X102.here hx rfl (hb hby down_longs_59) rfl kk) ?_
        refine own_st (G := T100.setTop (mkF m 61 #[.val (.int k), .val (.long y), .second] [(.long (1 : Int64)), (.long y), (.int (2 : Int32)), (.ref a84), (.ref a84)])) (fun _ kk => XT.lconstV X102.here hx rfl (1 : Int64) (hb hby down_longs_60) (by decide) kk) ?_
        refine own_st (G := T100.setTop (mkF m 62 #[.val (.int k), .val (.long y), .second] [(.long (y ^^^ (1 : Int64))), (.int (2 : Int32)), (.ref a84), (.ref a84)])) (fun _ kk => XS.lxor X102.here hx rfl (hb hby down_longs_61) rfl kk) ?_
        obtain ⟨T110, h111, X112, e113, W114, st115⟩ := stJ X102 hx hZ e103 A108 (j := (2 : Int32)) (by rw [S109]; decide) (g := (mkF m 62 #[.val (.int k), .val (.long y), .second] [(.long (y ^^^ (1 : Int64))), (.int (2 : Int32)), (.ref a84), (.ref a84)])) rfl rfl (hb hby down_longs_62)
        refine own_st st115 ?_
        show own_Out _ _ _ _ (T110.setTop (mkF m 63 #[.val (.int k), .val (.long y), .second] [(.ref a84)]))
        have A118 := A108.same W114
        have S119 := (sz_set _ (2 : Int32).toNatClampNeg (.long (y ^^^ (1 : Int64)))).trans S109
        have K116 := K106.wr W114 (Or.inr hz88)
        have N117 := Fr.snoc X112 N107 ge89
        have hkn : k = (3 : Int32) := (own_last3 k hr hc1 hc16 hc41)
        have hT := e113
        refine own_retA X112 hx hret rfl rfl hlk (hb hby down_longs_63) (by decide) (by decide) ?_
        rw [hT]
        exact ⟨_, rfl, N117, K116, hz88, _, A118, by rw [S119, hkn]; rfl⟩
theorem pn_own_bytes : plainName "com/example/seqd/seqd/store/FrameSizePinLaw" = true := by first | (simp [plainName, overriddenIn]; done) | decide +kernel
theorem down_bytes_0 : decode method_3_code 0 = .ok (.iload_n 1, 1) := by decide +kernel
theorem down_bytes_1 : decode method_3_code 1 = .ok (.i2b, 1) := by decide +kernel
theorem down_bytes_2 : decode method_3_code 2 = .ok (.istore_n 2, 1) := by decide +kernel
theorem down_bytes_3 : decode method_3_code 3 = .ok (.iload_n 1, 1) := by decide +kernel
theorem down_bytes_4 : decode method_3_code 4 = .ok (.bipush 8, 2) := by decide +kernel
theorem down_bytes_6 : decode method_3_code 6 = .ok (.ishr, 1) := by decide +kernel
theorem down_bytes_7 : decode method_3_code 7 = .ok (.i2b, 1) := by decide +kernel
theorem down_bytes_8 : decode method_3_code 8 = .ok (.istore_n 3, 1) := by decide +kernel
theorem down_bytes_9 : decode method_3_code 9 = .ok (.iload_n 0, 1) := by decide +kernel
theorem down_bytes_10 : decode method_3_code 10 = .ok (.ifCond .ne 7, 3) := by decide +kernel
theorem down_bytes_13 : decode method_3_code 13 = .ok (.iconst 0, 1) := by decide +kernel
theorem down_bytes_14 : decode method_3_code 14 = .ok (.newarray .byte, 2) := by decide +kernel
theorem down_bytes_16 : decode method_3_code 16 = .ok (.areturn, 1) := by decide +kernel
theorem down_bytes_17 : decode method_3_code 17 = .ok (.iload_n 0, 1) := by decide +kernel
theorem down_bytes_18 : decode method_3_code 18 = .ok (.iconst 1, 1) := by decide +kernel
theorem down_bytes_19 : decode method_3_code 19 = .ok (.if_icmp .ne 11, 3) := by decide +kernel
theorem down_bytes_22 : decode method_3_code 22 = .ok (.iconst 1, 1) := by decide +kernel
theorem down_bytes_23 : decode method_3_code 23 = .ok (.newarray .byte, 2) := by decide +kernel
theorem down_bytes_25 : decode method_3_code 25 = .ok (.dup, 1) := by decide +kernel
theorem down_bytes_26 : decode method_3_code 26 = .ok (.iconst 0, 1) := by decide +kernel
theorem down_bytes_27 : decode method_3_code 27 = .ok (.iload_n 2, 1) := by decide +kernel
theorem down_bytes_28 : decode method_3_code 28 = .ok (.bastore, 1) := by decide +kernel
theorem down_bytes_29 : decode method_3_code 29 = .ok (.areturn, 1) := by decide +kernel
theorem down_bytes_30 : decode method_3_code 30 = .ok (.iload_n 0, 1) := by decide +kernel
theorem down_bytes_31 : decode method_3_code 31 = .ok (.iconst 2, 1) := by decide +kernel
theorem down_bytes_32 : decode method_3_code 32 = .ok (.if_icmp .ne 15, 3) := by decide +kernel
theorem down_bytes_35 : decode method_3_code 35 = .ok (.iconst 2, 1) := by decide +kernel
theorem down_bytes_36 : decode method_3_code 36 = .ok (.newarray .byte, 2) := by decide +kernel
theorem down_bytes_38 : decode method_3_code 38 = .ok (.dup, 1) := by decide +kernel
theorem down_bytes_39 : decode method_3_code 39 = .ok (.iconst 0, 1) := by decide +kernel
theorem down_bytes_40 : decode method_3_code 40 = .ok (.iload_n 2, 1) := by decide +kernel
theorem down_bytes_41 : decode method_3_code 41 = .ok (.bastore, 1) := by decide +kernel
theorem down_bytes_42 : decode method_3_code 42 = .ok (.dup, 1) := by decide +kernel
theorem down_bytes_43 : decode method_3_code 43 = .ok (.iconst 1, 1) := by decide +kernel
theorem down_bytes_44 : decode method_3_code 44 = .ok (.iload_n 3, 1) := by decide +kernel
theorem down_bytes_45 : decode method_3_code 45 = .ok (.bastore, 1) := by decide +kernel
theorem down_bytes_46 : decode method_3_code 46 = .ok (.areturn, 1) := by decide +kernel
theorem down_bytes_47 : decode method_3_code 47 = .ok (.iload_n 0, 1) := by decide +kernel
theorem down_bytes_48 : decode method_3_code 48 = .ok (.iconst 3, 1) := by decide +kernel
theorem down_bytes_49 : decode method_3_code 49 = .ok (.if_icmp .ne 19, 3) := by decide +kernel
theorem down_bytes_52 : decode method_3_code 52 = .ok (.iconst 3, 1) := by decide +kernel
theorem down_bytes_53 : decode method_3_code 53 = .ok (.newarray .byte, 2) := by decide +kernel
theorem down_bytes_55 : decode method_3_code 55 = .ok (.dup, 1) := by decide +kernel
theorem down_bytes_56 : decode method_3_code 56 = .ok (.iconst 0, 1) := by decide +kernel
theorem down_bytes_57 : decode method_3_code 57 = .ok (.iload_n 2, 1) := by decide +kernel
theorem down_bytes_58 : decode method_3_code 58 = .ok (.bastore, 1) := by decide +kernel
theorem down_bytes_59 : decode method_3_code 59 = .ok (.dup, 1) := by decide +kernel
theorem down_bytes_60 : decode method_3_code 60 = .ok (.iconst 1, 1) := by decide +kernel
theorem down_bytes_61 : decode method_3_code 61 = .ok (.iload_n 3, 1) := by decide +kernel
theorem down_bytes_62 : decode method_3_code 62 = .ok (.bastore, 1) := by decide +kernel
theorem down_bytes_63 : decode method_3_code 63 = .ok (.dup, 1) := by decide +kernel
theorem down_bytes_64 : decode method_3_code 64 = .ok (.iconst 2, 1) := by decide +kernel
theorem down_bytes_65 : decode method_3_code 65 = .ok (.iload_n 2, 1) := by decide +kernel
theorem down_bytes_66 : decode method_3_code 66 = .ok (.bastore, 1) := by decide +kernel
theorem down_bytes_67 : decode method_3_code 67 = .ok (.areturn, 1) := by decide +kernel
theorem down_bytes_68 : decode method_3_code 68 = .ok (.iload_n 0, 1) := by decide +kernel
theorem down_bytes_69 : decode method_3_code 69 = .ok (.iconst 4, 1) := by decide +kernel
theorem down_bytes_70 : decode method_3_code 70 = .ok (.if_icmp .ne 23, 3) := by decide +kernel
theorem down_bytes_73 : decode method_3_code 73 = .ok (.iconst 4, 1) := by decide +kernel
theorem down_bytes_74 : decode method_3_code 74 = .ok (.newarray .byte, 2) := by decide +kernel
theorem down_bytes_76 : decode method_3_code 76 = .ok (.dup, 1) := by decide +kernel
theorem down_bytes_77 : decode method_3_code 77 = .ok (.iconst 0, 1) := by decide +kernel
theorem down_bytes_78 : decode method_3_code 78 = .ok (.iload_n 2, 1) := by decide +kernel
theorem down_bytes_79 : decode method_3_code 79 = .ok (.bastore, 1) := by decide +kernel
theorem down_bytes_80 : decode method_3_code 80 = .ok (.dup, 1) := by decide +kernel
theorem down_bytes_81 : decode method_3_code 81 = .ok (.iconst 1, 1) := by decide +kernel
theorem down_bytes_82 : decode method_3_code 82 = .ok (.iload_n 3, 1) := by decide +kernel
theorem down_bytes_83 : decode method_3_code 83 = .ok (.bastore, 1) := by decide +kernel
theorem down_bytes_84 : decode method_3_code 84 = .ok (.dup, 1) := by decide +kernel
theorem down_bytes_85 : decode method_3_code 85 = .ok (.iconst 2, 1) := by decide +kernel
theorem down_bytes_86 : decode method_3_code 86 = .ok (.iload_n 2, 1) := by decide +kernel
theorem down_bytes_87 : decode method_3_code 87 = .ok (.bastore, 1) := by decide +kernel
theorem down_bytes_88 : decode method_3_code 88 = .ok (.dup, 1) := by decide +kernel
theorem down_bytes_89 : decode method_3_code 89 = .ok (.iconst 3, 1) := by decide +kernel
theorem down_bytes_90 : decode method_3_code 90 = .ok (.iload_n 3, 1) := by decide +kernel
theorem down_bytes_91 : decode method_3_code 91 = .ok (.bastore, 1) := by decide +kernel
theorem down_bytes_92 : decode method_3_code 92 = .ok (.areturn, 1) := by decide +kernel
theorem down_bytes_93 : decode method_3_code 93 = .ok (.iconst 5, 1) := by decide +kernel
theorem down_bytes_94 : decode method_3_code 94 = .ok (.newarray .byte, 2) := by decide +kernel
theorem down_bytes_96 : decode method_3_code 96 = .ok (.dup, 1) := by decide +kernel
theorem down_bytes_97 : decode method_3_code 97 = .ok (.iconst 0, 1) := by decide +kernel
theorem down_bytes_98 : decode method_3_code 98 = .ok (.iload_n 2, 1) := by decide +kernel
theorem down_bytes_99 : decode method_3_code 99 = .ok (.bastore, 1) := by decide +kernel
theorem down_bytes_100 : decode method_3_code 100 = .ok (.dup, 1) := by decide +kernel
theorem down_bytes_101 : decode method_3_code 101 = .ok (.iconst 1, 1) := by decide +kernel
theorem down_bytes_102 : decode method_3_code 102 = .ok (.iload_n 3, 1) := by decide +kernel
theorem down_bytes_103 : decode method_3_code 103 = .ok (.bastore, 1) := by decide +kernel
theorem down_bytes_104 : decode method_3_code 104 = .ok (.dup, 1) := by decide +kernel
theorem down_bytes_105 : decode method_3_code 105 = .ok (.iconst 2, 1) := by decide +kernel
theorem down_bytes_106 : decode method_3_code 106 = .ok (.iload_n 2, 1) := by decide +kernel
theorem down_bytes_107 : decode method_3_code 107 = .ok (.bastore, 1) := by decide +kernel
theorem down_bytes_108 : decode method_3_code 108 = .ok (.dup, 1) := by decide +kernel
theorem down_bytes_109 : decode method_3_code 109 = .ok (.iconst 3, 1) := by decide +kernel
theorem down_bytes_110 : decode method_3_code 110 = .ok (.iload_n 3, 1) := by decide +kernel
theorem down_bytes_111 : decode method_3_code 111 = .ok (.bastore, 1) := by decide +kernel
theorem down_bytes_112 : decode method_3_code 112 = .ok (.dup, 1) := by decide +kernel
theorem down_bytes_113 : decode method_3_code 113 = .ok (.iconst 4, 1) := by decide +kernel
theorem down_bytes_114 : decode method_3_code 114 = .ok (.iload_n 2, 1) := by decide +kernel
theorem down_bytes_115 : decode method_3_code 115 = .ok (.bastore, 1) := by decide +kernel
theorem down_bytes_116 : decode method_3_code 116 = .ok (.areturn, 1) := by decide +kernel
def Q_own_bytes (Z : State) (k : Int32) (y : Int32)  (h0 : Heap) (n0 : Nat) (v : Option Value) (h : Heap) (L : List Loc) : Prop := ∃ r, v = some (.ref r) ∧ Fr n0 L ∧ Keep h0 h [] ∧ h0.size ≤ r ∧ own_Len Z h r .byte k
set_option maxRecDepth 65536 in
set_option maxHeartbeats 40000000 in
theorem own_bytes (l : Launch) (Z : State) (a0 : Array Value) (hw : ∀ d ∈ tables_1, d.before a0 Z = true) (ws : List Jvm.Cond) (k : Int32) (y : Int32)  (h0 : Heap) (n0 : Nat) (Z0 : n0 ≤ h0.size) (hr : 0 ≤ k.toInt ∧ k.toInt < 6) :
    MetFree l (⟨"com/example/seqd/seqd/store/FrameSizePinLaw", "bytes", "(II)[B"⟩ : MethodName) (head1 (Jvm.Cond.code (⟨"com/example/seqd/seqd/store/FrameSizePinLaw", "bytes", "(II)[B"⟩ : MethodName) method_3_code 4 (some (.array (.byte))) :: ws) ({ frames := 0, cells := 1, slots := 5, locals := 0 } : Room)) (fun aa U => aa = #[(.int k), (.int y)] ∧ Z.Warmed39 U.vm ∧ U.heap = h0) (fun _ _ _ _ _ => True) (fun _ U o U' => ∃ v L, o = .returned v ∧ Q_own_bytes Z k y h0 n0 v U'.heap L ∧ FrameEnd U o U' L ({ frames := 0, cells := 1, slots := 5, locals := 0 } : Room).cells ({ frames := 0, cells := 1, slots := 5, locals := 0 } : Room).slots) := by
  refine own_body (x := (⟨"com/example/seqd/seqd/store/FrameSizePinLaw", "bytes", "(II)[B"⟩ : MethodName)) (maxL := 4) (as' := #[(.int k), (.int y)]) (Q := Q_own_bytes Z k y h0 n0) pn_own_bytes #[.val (.int k), .val (.int y), .unset, .unset] (fun m => by first | (simp [entryFrame, mkF, argsToLocals, Value.category]; done) | rfl) ?_
  intro p e s m below meth c T0 X0 hx hby hml hret hlk hown hnm hZ e0
  replace hml : c.maxLocals = 4 := hml
  replace hown : s.vm.findClass "com/example/seqd/seqd/store/FrameSizePinLaw" = some m.cls := hown
  have N0 := Fr.nil n0
  have K0 := Keep.refl h0 []
  refine own_st (G := T0.setTop (mkF m 1 #[.val (.int k), .val (.int y), .unset, .unset] [(.int y)])) (fun _ kk => XS.iloadN X0.here hx rfl (hb hby down_bytes_0) rfl kk) ?_
  refine own_st (G := T0.setTop (mkF m 2 #[.val (.int k), .val (.int y), .unset, .unset] [(.int y.toInt8.toInt32)])) (fun _ kk => XS.i2b X0.here hx rfl (hb hby down_bytes_1) rfl kk) ?_
  refine own_st (G := T0.setTop (mkF m 3 #[.val (.int k), .val (.int y), .val (.int y.toInt8.toInt32), .unset] [])) (fun _ kk => XS.istoreN X0.here hx rfl (hb hby down_bytes_2) rfl (l' := #[.val (.int k), .val (.int y), .val (.int y.toInt8.toInt32), .unset]) rfl kk) ?_
  refine own_st (G := T0.setTop (mkF m 4 #[.val (.int k), .val (.int y), .val (.int y.toInt8.toInt32), .unset] [(.int y)])) (fun _ kk => XS.iloadN X0.here hx rfl (hb hby down_bytes_3) rfl kk) ?_
  refine own_st (G := T0.setTop (mkF m 6 #[.val (.int k), .val (.int y), .val (.int y.toInt8.toInt32), .unset] [(.int (8 : Int32)), (.int y)])) (fun _ kk => XT.bipushV X0.here hx rfl (8 : Int32) (hb hby down_bytes_4) (by decide) kk) ?_
  refine own_st (G := T0.setTop (mkF m 7 #[.val (.int k), .val (.int y), .val (.int y.toInt8.toInt32), .unset] [(.int (y >>> ((8 : Int32) &&& 31)))])) (fun _ kk => XT.ishr X0.here hx rfl (hb hby down_bytes_6) rfl kk) ?_
  refine own_st (G := T0.setTop (mkF m 8 #[.val (.int k), .val (.int y), .val (.int y.toInt8.toInt32), .unset] [(.int (y >>> ((8 : Int32) &&& 31)).toInt8.toInt32)])) (fun _ kk => XS.i2b X0.here hx rfl (hb hby down_bytes_7) rfl kk) ?_
  refine own_st (G := T0.setTop (mkF m 9 #[.val (.int k), .val (.int y), .val (.int y.toInt8.toInt32), .val (.int (y >>> ((8 : Int32) &&& 31)).toInt8.toInt32)] [])) (fun _ kk => XS.istoreN X0.here hx rfl (hb hby down_bytes_8) rfl (l' := #[.val (.int k), .val (.int y), .val (.int y.toInt8.toInt32), .val (.int (y >>> ((8 : Int32) &&& 31)).toInt8.toInt32)]) rfl kk) ?_
  refine own_st (G := T0.setTop (mkF m 10 #[.val (.int k), .val (.int y), .val (.int y.toInt8.toInt32), .val (.int (y >>> ((8 : Int32) &&& 31)).toInt8.toInt32)] [(.int k)])) (fun _ kk => XS.iloadN X0.here hx rfl (hb hby down_bytes_9) rfl kk) ?_
  by_cases hc1 : k = (0 : Int32)
  · skip
    refine own_st (G := T0.setTop (mkF m 13 #[.val (.int k), .val (.int y), .val (.int y.toInt8.toInt32), .val (.int (y >>> ((8 : Int32) &&& 31)).toInt8.toInt32)] [])) (fun _ kk => XS.ifNo X0.here hx rfl (hb hby down_bytes_10) rfl (XT.i0_ne_f hc1) kk) ?_
    refine own_st (G := T0.setTop (mkF m 14 #[.val (.int k), .val (.int y), .val (.int y.toInt8.toInt32), .val (.int (y >>> ((8 : Int32) &&& 31)).toInt8.toInt32)] [(.int (0 : Int32))])) (fun _ kk => XT.iconstV X0.here hx rfl (0 : Int32) (hb hby down_bytes_13) (by decide) kk) ?_
    obtain ⟨T2, h3, cA4, X5, e6, E7, A8, st9⟩ := newP X0 hx hZ (own_w hw 13 rfl) e0 (g := (mkF m 14 #[.val (.int k), .val (.int y), .val (.int y.toInt8.toInt32), .val (.int (y >>> ((8 : Int32) &&& 31)).toInt8.toInt32)] [(.int (0 : Int32))])) rfl (hb hby down_bytes_14) rfl (by decide) (cap := 0) (by decide) (by decide) (by decide) (by decide)
    obtain ⟨a10, g11⟩ : ∃ z, z = h0.size := ⟨_, rfl⟩
    rw [← g11] at A8 st9
    have S12 : (newA cA4 .byte (0 : Int32)).slots.size = 0 := (sz_new _ _ _).trans (by decide)
    refine own_st st9 ?_
    show own_Out _ _ _ _ (T2.setTop (mkF m 16 #[.val (.int k), .val (.int y), .val (.int y.toInt8.toInt32), .val (.int (y >>> ((8 : Int32) &&& 31)).toInt8.toInt32)] [(.ref a10)]))
    replace A8 : Arr Z h3 a10 (newA cA4 .byte (0 : Int32)) .byte := A8
    have hz14 : h0.size ≤ a10 := by rw [g11]; exact K0.1
    have ge15 : n0 ≤ a10 := Nat.le_trans Z0 hz14
    have K13 := K0.ext E7
    have hkn : k = (0 : Int32) := hc1
    have hT := e6
    refine own_retA X5 hx hret rfl rfl hlk (hb hby down_bytes_16) (by decide) (by decide) ?_
    rw [hT]
    exact ⟨_, rfl, N0, K13, hz14, _, A8, by rw [S12, hkn]; rfl⟩
  · skip
    refine own_st (G := T0.setTop (mkF m 17 #[.val (.int k), .val (.int y), .val (.int y.toInt8.toInt32), .val (.int (y >>> ((8 : Int32) &&& 31)).toInt8.toInt32)] [])) (fun _ kk => XS.ifYes X0.here hx rfl (pc0 := 10) (pc' := 17) rfl (hb hby down_bytes_10) rfl (XT.i0_ne_t hc1) (by decide) (by decide) kk) ?_
    refine own_st (G := T0.setTop (mkF m 18 #[.val (.int k), .val (.int y), .val (.int y.toInt8.toInt32), .val (.int (y >>> ((8 : Int32) &&& 31)).toInt8.toInt32)] [(.int k)])) (fun _ kk => XS.iloadN X0.here hx rfl (hb hby down_bytes_17) rfl kk) ?_
    refine own_st (G := T0.setTop (mkF m 19 #[.val (.int k), .val (.int y), .val (.int y.toInt8.toInt32), .val (.int (y >>> ((8 : Int32) &&& 31)).toInt8.toInt32)] [(.int (1 : Int32)), (.int k)])) (fun _ kk => XT.iconstV X0.here hx rfl (1 : Int32) (hb hby down_bytes_18) (by decide) kk) ?_
    by_cases hc16 : k = (1 : Int32)
    · skip
      refine own_st (G := T0.setTop (mkF m 22 #[.val (.int k), .val (.int y), .val (.int y.toInt8.toInt32), .val (.int (y >>> ((8 : Int32) &&& 31)).toInt8.toInt32)] [])) (fun _ kk => XS.icmpNo X0.here hx rfl (hb hby down_bytes_19) rfl (XT.ii_ne_f hc16) kk) ?_
      refine own_st (G := T0.setTop (mkF m 23 #[.val (.int k), .val (.int y), .val (.int y.toInt8.toInt32), .val (.int (y >>> ((8 : Int32) &&& 31)).toInt8.toInt32)] [(.int (1 : Int32))])) (fun _ kk => XT.iconstV X0.here hx rfl (1 : Int32) (hb hby down_bytes_22) (by decide) kk) ?_
      obtain ⟨T17, h18, cA19, X20, e21, E22, A23, st24⟩ := newP X0 hx hZ (own_w hw 13 rfl) e0 (g := (mkF m 23 #[.val (.int k), .val (.int y), .val (.int y.toInt8.toInt32), .val (.int (y >>> ((8 : Int32) &&& 31)).toInt8.toInt32)] [(.int (1 : Int32))])) rfl (hb hby down_bytes_23) rfl (by decide) (cap := 1) (by decide) (by decide) (by decide) (by decide)
      obtain ⟨a25, g26⟩ : ∃ z, z = h0.size := ⟨_, rfl⟩
      rw [← g26] at A23 st24
      have S27 : (newA cA19 .byte (1 : Int32)).slots.size = 1 := (sz_new _ _ _).trans (by decide)
      refine own_st st24 ?_
      show own_Out _ _ _ _ (T17.setTop (mkF m 25 #[.val (.int k), .val (.int y), .val (.int y.toInt8.toInt32), .val (.int (y >>> ((8 : Int32) &&& 31)).toInt8.toInt32)] [(.ref a25)]))
      replace A23 : Arr Z h18 a25 (newA cA19 .byte (1 : Int32)) .byte := A23
      have hz29 : h0.size ≤ a25 := by rw [g26]; exact K0.1
      have ge30 : n0 ≤ a25 := Nat.le_trans Z0 hz29
      have K28 := K0.ext E22
      refine own_st (G := T17.setTop (mkF m 26 #[.val (.int k), .val (.int y), .val (.int y.toInt8.toInt32), .val (.int (y >>> ((8 : Int32) &&& 31)).toInt8.toInt32)] [(.ref a25), (.ref a25)])) (fun _ kk => XS.dup X20.here hx rfl (hb hby down_bytes_25) rfl rfl kk) ?_
      refine own_st (G := T17.setTop (mkF m 27 #[.val (.int k), .val (.int y), .val (.int y.toInt8.toInt32), .val (.int (y >>> ((8 : Int32) &&& 31)).toInt8.toInt32)] [(.int (0 : Int32)), (.ref a25), (.ref a25)])) (fun _ kk => XT.iconstV X20.here hx rfl (0 : Int32) (hb hby down_bytes_26) (by decide) kk) ?_
      refine own_st (G := T17.setTop (mkF m 28 #[.val (.int k), .val (.int y), .val (.int y.toInt8.toInt32), .val (.int (y >>> ((8 : Int32) &&& 31)).toInt8.toInt32)] [(.int y.toInt8.toInt32), (.int (0 : Int32)), (.ref a25), (.ref a25)])) (fun _ kk => XS.iloadN X20.here hx rfl (hb hby down_bytes_27) rfl kk) ?_
      obtain ⟨T31, h32, X33, e34, W35, st36⟩ := stB X20 hx hZ e21 A23 (j := (0 : Int32)) (by rw [S27]; decide) (g := (mkF m 28 #[.val (.int k), .val (.int y), .val (.int y.toInt8.toInt32), .val (.int (y >>> ((8 : Int32) &&& 31)).toInt8.toInt32)] [(.int y.toInt8.toInt32), (.int (0 : Int32)), (.ref a25), (.ref a25)])) rfl rfl (hb hby down_bytes_28)
      refine own_st st36 ?_
      show own_Out _ _ _ _ (T31.setTop (mkF m 29 #[.val (.int k), .val (.int y), .val (.int y.toInt8.toInt32), .val (.int (y >>> ((8 : Int32) &&& 31)).toInt8.toInt32)] [(.ref a25)]))
      have A39 := A23.same W35
      have S40 := (sz_set _ (0 : Int32).toNatClampNeg (.int (nar .byte y.toInt8.toInt32))).trans S27
      have K37 := K28.wr W35 (Or.inr hz29)
      have N38 := Fr.snoc X33 N0 ge30
      have hkn : k = (1 : Int32) := hc16
      have hT := e34
      refine own_retA X33 hx hret rfl rfl hlk (hb hby down_bytes_29) (by decide) (by decide) ?_
      rw [hT]
      exact ⟨_, rfl, N38, K37, hz29, _, A39, by rw [S40, hkn]; rfl⟩
    · skip
      refine own_st (G := T0.setTop (mkF m 30 #[.val (.int k), .val (.int y), .val (.int y.toInt8.toInt32), .val (.int (y >>> ((8 : Int32) &&& 31)).toInt8.toInt32)] [])) (fun _ kk => XS.icmpYes X0.here hx rfl (pc0 := 19) (pc' := 30) rfl (hb hby down_bytes_19) rfl (XT.ii_ne_t hc16) (by decide) (by decide) kk) ?_
      refine own_st (G := T0.setTop (mkF m 31 #[.val (.int k), .val (.int y), .val (.int y.toInt8.toInt32), .val (.int (y >>> ((8 : Int32) &&& 31)).toInt8.toInt32)] [(.int k)])) (fun _ kk => XS.iloadN X0.here hx rfl (hb hby down_bytes_30) rfl kk) ?_
      refine own_st (G := T0.setTop (mkF m 32 #[.val (.int k), .val (.int y), .val (.int y.toInt8.toInt32), .val (.int (y >>> ((8 : Int32) &&& 31)).toInt8.toInt32)] [(.int (2 : Int32)), (.int k)])) (fun _ kk => XT.iconstV X0.here hx rfl (2 : Int32) (hb hby down_bytes_31) (by decide) kk) ?_
      by_cases hc41 : k = (2 : Int32)
      · skip
        refine own_st (G := T0.setTop (mkF m 35 #[.val (.int k), .val (.int y), .val (.int y.toInt8.toInt32), .val (.int (y >>> ((8 : Int32) &&& 31)).toInt8.toInt32)] [])) (fun _ kk => XS.icmpNo X0.here hx rfl (hb hby down_bytes_32) rfl (XT.ii_ne_f hc41) kk) ?_
        refine own_st (G := T0.setTop (mkF m 36 #[.val (.int k), .val (.int y), .val (.int y.toInt8.toInt32), .val (.int (y >>> ((8 : Int32) &&& 31)).toInt8.toInt32)] [(.int (2 : Int32))])) (fun _ kk => XT.iconstV X0.here hx rfl (2 : Int32) (hb hby down_bytes_35) (by decide) kk) ?_
        obtain ⟨T42, h43, cA44, X45, e46, E47, A48, st49⟩ := newP X0 hx hZ (own_w hw 13 rfl) e0 (g := (mkF m 36 #[.val (.int k), .val (.int y), .val (.int y.toInt8.toInt32), .val (.int (y >>> ((8 : Int32) &&& 31)).toInt8.toInt32)] [(.int (2 : Int32))])) rfl (hb hby down_bytes_36) rfl (by decide) (cap := 2) (by decide) (by decide) (by decide) (by decide)
        obtain ⟨a50, g51⟩ : ∃ z, z = h0.size := ⟨_, rfl⟩
        rw [← g51] at A48 st49
        have S52 : (newA cA44 .byte (2 : Int32)).slots.size = 2 := (sz_new _ _ _).trans (by decide)
        refine own_st st49 ?_
        show own_Out _ _ _ _ (T42.setTop (mkF m 38 #[.val (.int k), .val (.int y), .val (.int y.toInt8.toInt32), .val (.int (y >>> ((8 : Int32) &&& 31)).toInt8.toInt32)] [(.ref a50)]))
        replace A48 : Arr Z h43 a50 (newA cA44 .byte (2 : Int32)) .byte := A48
        have hz54 : h0.size ≤ a50 := by rw [g51]; exact K0.1
        have ge55 : n0 ≤ a50 := Nat.le_trans Z0 hz54
        have K53 := K0.ext E47
        refine own_st (G := T42.setTop (mkF m 39 #[.val (.int k), .val (.int y), .val (.int y.toInt8.toInt32), .val (.int (y >>> ((8 : Int32) &&& 31)).toInt8.toInt32)] [(.ref a50), (.ref a50)])) (fun _ kk => XS.dup X45.here hx rfl (hb hby down_bytes_38) rfl rfl kk) ?_
        refine own_st (G := T42.setTop (mkF m 40 #[.val (.int k), .val (.int y), .val (.int y.toInt8.toInt32), .val (.int (y >>> ((8 : Int32) &&& 31)).toInt8.toInt32)] [(.int (0 : Int32)), (.ref a50), (.ref a50)])) (fun _ kk => XT.iconstV X45.here hx rfl (0 : Int32) (hb hby down_bytes_39) (by decide) kk) ?_
        refine own_st (G := T42.setTop (mkF m 41 #[.val (.int k), .val (.int y), .val (.int y.toInt8.toInt32), .val (.int (y >>> ((8 : Int32) &&& 31)).toInt8.toInt32)] [(.int y.toInt8.toInt32), (.int (0 : Int32)), (.ref a50), (.ref a50)])) (fun _ kk => XS.iloadN X45.here hx rfl (hb hby down_bytes_40) rfl kk) ?_
        obtain ⟨T56, h57, X58, e59, W60, st61⟩ := stB X45 hx hZ e46 A48 (j := (0 : Int32)) (by rw [S52]; decide) (g := (mkF m 41 #[.val (.int k), .val (.int y), .val (.int y.toInt8.toInt32), .val (.int (y >>> ((8 : Int32) &&& 31)).toInt8.toInt32)] [(.int y.toInt8.toInt32), (.int (0 : Int32)), (.ref a50), (.ref a50)])) rfl rfl (hb hby down_bytes_41)
        refine own_st st61 ?_
        show own_Out _ _ _ _ (T56.setTop (mkF m 42 #[.val (.int k), .val (.int y), .val (.int y.toInt8.toInt32), .val (.int (y >>> ((8 : Int32) &&& 31)).toInt8.toInt32)] [(.ref a50)]))
        have A64 := A48.same W60
        have S65 := (sz_set _ (0 : Int32).toNatClampNeg (.int (nar .byte y.toInt8.toInt32))).trans S52
        have K62 := K53.wr W60 (Or.inr hz54)
        have N63 := Fr.snoc X58 N0 ge55
        refine own_st (G := T56.setTop (mkF m 43 #[.val (.int k), .val (.int y), .val (.int y.toInt8.toInt32), .val (.int (y >>> ((8 : Int32) &&& 31)).toInt8.toInt32)] [(.ref a50), (.ref a50)])) (fun _ kk => XS.dup X58.here hx rfl (hb hby down_bytes_42) rfl rfl kk) ?_
        refine own_st (G := T56.setTop (mkF m 44 #[.val (.int k), .val (.int y), .val (.int y.toInt8.toInt32), .val (.int (y >>> ((8 : Int32) &&& 31)).toInt8.toInt32)] [(.int (1 : Int32)), (.ref a50), (.ref a50)])) (fun _ kk => XT.iconstV X58.here hx rfl (1 : Int32) (hb hby down_bytes_43) (by decide) kk) ?_
        refine own_st (G := T56.setTop (mkF m 45 #[.val (.int k), .val (.int y), .val (.int y.toInt8.toInt32), .val (.int (y >>> ((8 : Int32) &&& 31)).toInt8.toInt32)] [(.int (y >>> ((8 : Int32) &&& 31)).toInt8.toInt32), (.int (1 : Int32)), (.ref a50), (.ref a50)])) (fun _ kk => XS.iloadN X58.here hx rfl (hb hby down_bytes_44) rfl kk) ?_
        obtain ⟨T66, h67, X68, e69, W70, st71⟩ := stB X58 hx hZ e59 A64 (j := (1 : Int32)) (by rw [S65]; decide) (g := (mkF m 45 #[.val (.int k), .val (.int y), .val (.int y.toInt8.toInt32), .val (.int (y >>> ((8 : Int32) &&& 31)).toInt8.toInt32)] [(.int (y >>> ((8 : Int32) &&& 31)).toInt8.toInt32), (.int (1 : Int32)), (.ref a50), (.ref a50)])) rfl rfl (hb hby down_bytes_45)
        refine own_st st71 ?_
        show own_Out _ _ _ _ (T66.setTop (mkF m 46 #[.val (.int k), .val (.int y), .val (.int y.toInt8.toInt32), .val (.int (y >>> ((8 : Int32) &&& 31)).toInt8.toInt32)] [(.ref a50)]))
        have A74 := A64.same W70
        have S75 := (sz_set _ (1 : Int32).toNatClampNeg (.int (nar .byte (y >>> ((8 : Int32) &&& 31)).toInt8.toInt32))).trans S65
        have K72 := K62.wr W70 (Or.inr hz54)
        have N73 := Fr.snoc X68 N63 ge55
        have hkn : k = (2 : Int32) := hc41
        have hT := e69
        refine own_retA X68 hx hret rfl rfl hlk (hb hby down_bytes_46) (by decide) (by decide) ?_
        rw [hT]
        exact ⟨_, rfl, N73, K72, hz54, _, A74, by rw [S75, hkn]; rfl⟩
      · skip
        refine own_st (G := T0.setTop (mkF m 47 #[.val (.int k), .val (.int y), .val (.int y.toInt8.toInt32), .val (.int (y >>> ((8 : Int32) &&& 31)).toInt8.toInt32)] [])) (fun _ kk => XS.icmpYes X0.here hx rfl (pc0 := 32) (pc' := 47) rfl (hb hby down_bytes_32) rfl (XT.ii_ne_t hc41) (by decide) (by decide) kk) ?_
        refine own_st (G := T0.setTop (mkF m 48 #[.val (.int k), .val (.int y), .val (.int y.toInt8.toInt32), .val (.int (y >>> ((8 : Int32) &&& 31)).toInt8.toInt32)] [(.int k)])) (fun _ kk => XS.iloadN X0.here hx rfl (hb hby down_bytes_47) rfl kk) ?_
        refine own_st (G := T0.setTop (mkF m 49 #[.val (.int k), .val (.int y), .val (.int y.toInt8.toInt32), .val (.int (y >>> ((8 : Int32) &&& 31)).toInt8.toInt32)] [(.int (3 : Int32)), (.int k)])) (fun _ kk => XT.iconstV X0.here hx rfl (3 : Int32) (hb hby down_bytes_48) (by decide) kk) ?_
        by_cases hc76 : k = (3 : Int32)
        · skip
          refine own_st (G := T0.setTop (mkF m 52 #[.val (.int k), .val (.int y), .val (.int y.toInt8.toInt32), .val (.int (y >>> ((8 : Int32) &&& 31)).toInt8.toInt32)] [])) (fun _ kk => XS.icmpNo X0.here hx rfl (hb hby down_bytes_49) rfl (XT.ii_ne_f hc76) kk) ?_
          refine own_st (G := T0.setTop (mkF m 53 #[.val (.int k), .val (.int y), .val (.int y.toInt8.toInt32), .val (.int (y >>> ((8 : Int32) &&& 31)).toInt8.toInt32)] [(.int (3 : Int32))])) (fun _ kk => XT.iconstV X0.here hx rfl (3 : Int32) (hb hby down_bytes_52) (by decide) kk) ?_
          obtain ⟨T77, h78, cA79, X80, e81, E82, A83, st84⟩ := newP X0 hx hZ (own_w hw 13 rfl) e0 (g := (mkF m 53 #[.val (.int k), .val (.int y), .val (.int y.toInt8.toInt32), .val (.int (y >>> ((8 : Int32) &&& 31)).toInt8.toInt32)] [(.int (3 : Int32))])) rfl (hb hby down_bytes_53) rfl (by decide) (cap := 3) (by decide) (by decide) (by decide) (by decide)
          obtain ⟨a85, g86⟩ : ∃ z, z = h0.size := ⟨_, rfl⟩
          rw [← g86] at A83 st84
          have S87 : (newA cA79 .byte (3 : Int32)).slots.size = 3 := (sz_new _ _ _).trans (by decide)
          refine own_st st84 ?_
          show own_Out _ _ _ _ (T77.setTop (mkF m 55 #[.val (.int k), .val (.int y), .val (.int y.toInt8.toInt32), .val (.int (y >>> ((8 : Int32) &&& 31)).toInt8.toInt32)] [(.ref a85)]))
          replace A83 : Arr Z h78 a85 (newA cA79 .byte (3 : Int32)) .byte := A83
          have hz89 : h0.size ≤ a85 := by rw [g86]; exact K0.1
          have ge90 : n0 ≤ a85 := Nat.le_trans Z0 hz89
          have K88 := K0.ext E82
          refine own_st (G := T77.setTop (mkF m 56 #[.val (.int k), .val (.int y), .val (.int y.toInt8.toInt32), .val (.int (y >>> ((8 : Int32) &&& 31)).toInt8.toInt32)] [(.ref a85), (.ref a85)])) (fun _ kk => XS.dup X80.here hx rfl (hb hby down_bytes_55) rfl rfl kk) ?_
          refine own_st (G := T77.setTop (mkF m 57 #[.val (.int k), .val (.int y), .val (.int y.toInt8.toInt32), .val (.int (y >>> ((8 : Int32) &&& 31)).toInt8.toInt32)] [(.int (0 : Int32)), (.ref a85), (.ref a85)])) (fun _ kk => XT.iconstV X80.here hx rfl (0 : Int32) (hb hby down_bytes_56) (by decide) kk) ?_
          refine own_st (G := T77.setTop (mkF m 58 #[.val (.int k), .val (.int y), .val (.int y.toInt8.toInt32), .val (.int (y >>> ((8 : Int32) &&& 31)).toInt8.toInt32)] [(.int y.toInt8.toInt32), (.int (0 : Int32)), (.ref a85), (.ref a85)])) (fun _ kk => XS.iloadN X80.here hx rfl (hb hby down_bytes_57) rfl kk) ?_
          obtain ⟨T91, h92, X93, e94, W95, st96⟩ := stB X80 hx hZ e81 A83 (j := (0 : Int32)) (by rw [S87]; decide) (g := (mkF m 58 #[.val (.int k), .val (.int y), .val (.int y.toInt8.toInt32), .val (.int (y >>> ((8 : Int32) &&& 31)).toInt8.toInt32)] [(.int y.toInt8.toInt32), (.int (0 : Int32)), (.ref a85), (.ref a85)])) rfl rfl (hb hby down_bytes_58)
          refine own_st st96 ?_
          show own_Out _ _ _ _ (T91.setTop (mkF m 59 #[.val (.int k), .val (.int y), .val (.int y.toInt8.toInt32), .val (.int (y >>> ((8 : Int32) &&& 31)).toInt8.toInt32)] [(.ref a85)]))
          have A99 := A83.same W95
          have S100 := (sz_set _ (0 : Int32).toNatClampNeg (.int (nar .byte y.toInt8.toInt32))).trans S87
          have K97 := K88.wr W95 (Or.inr hz89)
          have N98 := Fr.snoc X93 N0 ge90
          refine own_st (G := T91.setTop (mkF m 60 #[.val (.int k), .val (.int y), .val (.int y.toInt8.toInt32), .val (.int (y >>> ((8 : Int32) &&& 31)).toInt8.toInt32)] [(.ref a85), (.ref a85)])) (fun _ kk => XS.dup X93.here hx rfl (hb hby down_bytes_59) rfl rfl kk) ?_
          refine own_st (G := T91.setTop (mkF m 61 #[.val (.int k), .val (.int y), .val (.int y.toInt8.toInt32), .val (.int (y >>> ((8 : Int32) &&& 31)).toInt8.toInt32)] [(.int (1 : Int32)), (.ref a85), (.ref a85)])) (fun _ kk => XT.iconstV X93.here hx rfl (1 : Int32) (hb hby down_bytes_60) (by decide) kk) ?_
          refine own_st (G := T91.setTop (mkF m 62 #[.val (.int k), .val (.int y), .val (.int y.toInt8.toInt32), .val (.int (y >>> ((8 : Int32) &&& 31)).toInt8.toInt32)] [(.int (y >>> ((8 : Int32) &&& 31)).toInt8.toInt32), (.int (1 : Int32)), (.ref a85), (.ref a85)])) (fun _ kk => XS.iloadN X93.here hx rfl (hb hby down_bytes_61) rfl kk) ?_
          obtain ⟨T101, h102, X103, e104, W105, st106⟩ := stB X93 hx hZ e94 A99 (j := (1 : Int32)) (by rw [S100]; decide) (g := (mkF m 62 #[.val (.int k), .val (.int y), .val (.int y.toInt8.toInt32), .val (.int (y >>> ((8 : Int32) &&& 31)).toInt8.toInt32)] [(.int (y >>> ((8 : Int32) &&& 31)).toInt8.toInt32), (.int (1 : Int32)), (.ref a85), (.ref a85)])) rfl rfl (hb hby down_bytes_62)
          refine own_st st106 ?_
          show own_Out _ _ _ _ (T101.setTop (mkF m 63 #[.val (.int k), .val (.int y), .val (.int y.toInt8.toInt32), .val (.int (y >>> ((8 : Int32) &&& 31)).toInt8.toInt32)] [(.ref a85)]))
          have A109 := A99.same W105
          have S110 := (sz_set _ (1 : Int32).toNatClampNeg (.int (nar .byte (y >>> ((8 : Int32) &&& 31)).toInt8.toInt32))).trans S100
          have K107 := K97.wr W105 (Or.inr hz89)
          have N108 := Fr.snoc X103 N98 ge90
          refine own_st (G := T101.setTop (mkF m 64 #[.val (.int k), .val (.int y), .val (.int y.toInt8.toInt32), .val (.int (y >>> ((8 : Int32) &&& 31)).toInt8.toInt32)] [(.ref a85), (.ref a85)])) (fun _ kk => XS.dup X103.here hx rfl (hb hby down_bytes_63) rfl rfl kk) ?_
          refine own_st (G := T101.setTop (mkF m 65 #[.val (.int k), .val (.int y), .val (.int y.toInt8.toInt32), .val (.int (y >>> ((8 : Int32) &&& 31)).toInt8.toInt32)] [(.int (2 : Int32)), (.ref a85), (.ref a85)])) (fun _ kk => XT.iconstV X103.here hx rfl (2 : Int32) (hb hby down_bytes_64) (by decide) kk) ?_
          refine own_st (G := T101.setTop (mkF m 66 #[.val (.int k), .val (.int y), .val (.int y.toInt8.toInt32), .val (.int (y >>> ((8 : Int32) &&& 31)).toInt8.toInt32)] [(.int y.toInt8.toInt32), (.int (2 : Int32)), (.ref a85), (.ref a85)])) (fun _ kk => XS.iloadN X103.here hx rfl (hb hby down_bytes_65) rfl kk) ?_
          obtain ⟨T111, h112, X113, e114, W115, st116⟩ := stB X103 hx hZ e104 A109 (j := (2 : Int32)) (by rw [S110]; decide) (g := (mkF m 66 #[.val (.int k), .val (.int y), .val (.int y.toInt8.toInt32), .val (.int (y >>> ((8 : Int32) &&& 31)).toInt8.toInt32)] [(.int y.toInt8.toInt32), (.int (2 : Int32)), (.ref a85), (.ref a85)])) rfl rfl (hb hby down_bytes_66)
          refine own_st st116 ?_
          show own_Out _ _ _ _ (T111.setTop (mkF m 67 #[.val (.int k), .val (.int y), .val (.int y.toInt8.toInt32), .val (.int (y >>> ((8 : Int32) &&& 31)).toInt8.toInt32)] [(.ref a85)]))
          have A119 := A109.same W115
          have S120 := (sz_set _ (2 : Int32).toNatClampNeg (.int (nar .byte y.toInt8.toInt32))).trans S110
          have K117 := K107.wr W115 (Or.inr hz89)
          have N118 := Fr.snoc X113 N108 ge90
          have hkn : k = (3 : Int32) := hc76
          have hT := e114
          refine own_retA X113 hx hret rfl rfl hlk (hb hby down_bytes_67) (by decide) (by decide) ?_
          rw [hT]
          exact ⟨_, rfl, N118, K117, hz89, _, A119, by rw [S120, hkn]; rfl⟩
        · skip
          refine own_st (G := T0.setTop (mkF m 68 #[.val (.int k), .val (.int y), .val (.int y.toInt8.toInt32), .val (.int (y >>> ((8 : Int32) &&& 31)).toInt8.toInt32)] [])) (fun _ kk => XS.icmpYes X0.here hx rfl (pc0 := 49) (pc' := 68) rfl (hb hby down_bytes_49) rfl (XT.ii_ne_t hc76) (by decide) (by decide) kk) ?_
          refine own_st (G := T0.setTop (mkF m 69 #[.val (.int k), .val (.int y), .val (.int y.toInt8.toInt32), .val (.int (y >>> ((8 : Int32) &&& 31)).toInt8.toInt32)] [(.int k)])) (fun _ kk => XS.iloadN X0.here hx rfl (hb hby down_bytes_68) rfl kk) ?_
          refine own_st (G := T0.setTop (mkF m 70 #[.val (.int k), .val (.int y), .val (.int y.toInt8.toInt32), .val (.int (y >>> ((8 : Int32) &&& 31)).toInt8.toInt32)] [(.int (4 : Int32)), (.int k)])) (fun _ kk => XT.iconstV X0.here hx rfl (4 : Int32) (hb hby down_bytes_69) (by decide) kk) ?_
          by_cases hc121 : k = (4 : Int32)
          · skip
            refine own_st (G := T0.setTop (mkF m 73 #[.val (.int k), .val (.int y), .val (.int y.toInt8.toInt32), .val (.int (y >>> ((8 : Int32) &&& 31)).toInt8.toInt32)] [])) (fun _ kk => XS.icmpNo X0.here hx rfl (hb hby down_bytes_70) rfl (XT.ii_ne_f hc121) kk) ?_
            refine own_st (G := T0.setTop (mkF m 74 #[.val (.int k), .val (.int y), .val (.int y.toInt8.toInt32), .val (.int (y >>> ((8 : Int32) &&& 31)).toInt8.toInt32)] [(.int (4 : Int32))])) (fun _ kk => XT.iconstV X0.here hx rfl (4 : Int32) (hb hby down_bytes_73) (by decide) kk) ?_
            obtain ⟨T122, h123, cA124, X125, e126, E127, A128, st129⟩ := newP X0 hx hZ (own_w hw 13 rfl) e0 (g := (mkF m 74 #[.val (.int k), .val (.int y), .val (.int y.toInt8.toInt32), .val (.int (y >>> ((8 : Int32) &&& 31)).toInt8.toInt32)] [(.int (4 : Int32))])) rfl (hb hby down_bytes_74) rfl (by decide) (cap := 4) (by decide) (by decide) (by decide) (by decide)
            obtain ⟨a130, g131⟩ : ∃ z, z = h0.size := ⟨_, rfl⟩
            rw [← g131] at A128 st129
            have S132 : (newA cA124 .byte (4 : Int32)).slots.size = 4 := (sz_new _ _ _).trans (by decide)
            refine own_st st129 ?_
            show own_Out _ _ _ _ (T122.setTop (mkF m 76 #[.val (.int k), .val (.int y), .val (.int y.toInt8.toInt32), .val (.int (y >>> ((8 : Int32) &&& 31)).toInt8.toInt32)] [(.ref a130)]))
            replace A128 : Arr Z h123 a130 (newA cA124 .byte (4 : Int32)) .byte := A128
            have hz134 : h0.size ≤ a130 := by rw [g131]; exact K0.1
            have ge135 : n0 ≤ a130 := Nat.le_trans Z0 hz134
            have K133 := K0.ext E127
            refine own_st (G := T122.setTop (mkF m 77 #[.val (.int k), .val (.int y), .val (.int y.toInt8.toInt32), .val (.int (y >>> ((8 : Int32) &&& 31)).toInt8.toInt32)] [(.ref a130), (.ref a130)])) (fun _ kk => XS.dup X125.here hx rfl (hb hby down_bytes_76) rfl rfl kk) ?_
            refine own_st (G := T122.setTop (mkF m 78 #[.val (.int k), .val (.int y), .val (.int y.toInt8.toInt32), .val (.int (y >>> ((8 : Int32) &&& 31)).toInt8.toInt32)] [(.int (0 : Int32)), (.ref a130), (.ref a130)])) (fun _ kk => XT.iconstV X125.here hx rfl (0 : Int32) (hb hby down_bytes_77) (by decide) kk) ?_
            refine own_st (G := T122.setTop (mkF m 79 #[.val (.int k), .val (.int y), .val (.int y.toInt8.toInt32), .val (.int (y >>> ((8 : Int32) &&& 31)).toInt8.toInt32)] [(.int y.toInt8.toInt32), (.int (0 : Int32)), (.ref a130), (.ref a130)])) (fun _ kk => XS.iloadN X125.here hx rfl (hb hby down_bytes_78) rfl kk) ?_
            obtain ⟨T136, h137, X138, e139, W140, st141⟩ := stB X125 hx hZ e126 A128 (j := (0 : Int32)) (by rw [S132]; decide) (g := (mkF m 79 #[.val (.int k), .val (.int y), .val (.int y.toInt8.toInt32), .val (.int (y >>> ((8 : Int32) &&& 31)).toInt8.toInt32)] [(.int y.toInt8.toInt32), (.int (0 : Int32)), (.ref a130), (.ref a130)])) rfl rfl (hb hby down_bytes_79)
            refine own_st st141 ?_
            show own_Out _ _ _ _ (T136.setTop (mkF m 80 #[.val (.int k), .val (.int y), .val (.int y.toInt8.toInt32), .val (.int (y >>> ((8 : Int32) &&& 31)).toInt8.toInt32)] [(.ref a130)]))
            have A144 := A128.same W140
            have S145 := (sz_set _ (0 : Int32).toNatClampNeg (.int (nar .byte y.toInt8.toInt32))).trans S132
            have K142 := K133.wr W140 (Or.inr hz134)
            have N143 := Fr.snoc X138 N0 ge135
            refine own_st (G := T136.setTop (mkF m 81 #[.val (.int k), .val (.int y), .val (.int y.toInt8.toInt32), .val (.int (y >>> ((8 : Int32) &&& 31)).toInt8.toInt32)] [(.ref a130), (.ref a130)])) (fun _ kk => XS.dup X138.here hx rfl (hb hby down_bytes_80) rfl rfl kk) ?_
            refine own_st (G := T136.setTop (mkF m 82 #[.val (.int k), .val (.int y), .val (.int y.toInt8.toInt32), .val (.int (y >>> ((8 : Int32) &&& 31)).toInt8.toInt32)] [(.int (1 : Int32)), (.ref a130), (.ref a130)])) (fun _ kk => XT.iconstV X138.here hx rfl (1 : Int32) (hb hby down_bytes_81) (by decide) kk) ?_
            refine own_st (G := T136.setTop (mkF m 83 #[.val (.int k), .val (.int y), .val (.int y.toInt8.toInt32), .val (.int (y >>> ((8 : Int32) &&& 31)).toInt8.toInt32)] [(.int (y >>> ((8 : Int32) &&& 31)).toInt8.toInt32), (.int (1 : Int32)), (.ref a130), (.ref a130)])) (fun _ kk => XS.iloadN X138.here hx rfl (hb hby down_bytes_82) rfl kk) ?_
            obtain ⟨T146, h147, X148, e149, W150, st151⟩ := stB X138 hx hZ e139 A144 (j := (1 : Int32)) (by rw [S145]; decide) (g := (mkF m 83 #[.val (.int k), .val (.int y), .val (.int y.toInt8.toInt32), .val (.int (y >>> ((8 : Int32) &&& 31)).toInt8.toInt32)] [(.int (y >>> ((8 : Int32) &&& 31)).toInt8.toInt32), (.int (1 : Int32)), (.ref a130), (.ref a130)])) rfl rfl (hb hby down_bytes_83)
            refine own_st st151 ?_
            show own_Out _ _ _ _ (T146.setTop (mkF m 84 #[.val (.int k), .val (.int y), .val (.int y.toInt8.toInt32), .val (.int (y >>> ((8 : Int32) &&& 31)).toInt8.toInt32)] [(.ref a130)]))
            have A154 := A144.same W150
            have S155 := (sz_set _ (1 : Int32).toNatClampNeg (.int (nar .byte (y >>> ((8 : Int32) &&& 31)).toInt8.toInt32))).trans S145
            have K152 := K142.wr W150 (Or.inr hz134)
            have N153 := Fr.snoc X148 N143 ge135
            refine own_st (G := T146.setTop (mkF m 85 #[.val (.int k), .val (.int y), .val (.int y.toInt8.toInt32), .val (.int (y >>> ((8 : Int32) &&& 31)).toInt8.toInt32)] [(.ref a130), (.ref a130)])) (fun _ kk => XS.dup X148.here hx rfl (hb hby down_bytes_84) rfl rfl kk) ?_
            refine own_st (G := T146.setTop (mkF m 86 #[.val (.int k), .val (.int y), .val (.int y.toInt8.toInt32), .val (.int (y >>> ((8 : Int32) &&& 31)).toInt8.toInt32)] [(.int (2 : Int32)), (.ref a130), (.ref a130)])) (fun _ kk => XT.iconstV X148.here hx rfl (2 : Int32) (hb hby down_bytes_85) (by decide) kk) ?_
            refine own_st (G := T146.setTop (mkF m 87 #[.val (.int k), .val (.int y), .val (.int y.toInt8.toInt32), .val (.int (y >>> ((8 : Int32) &&& 31)).toInt8.toInt32)] [(.int y.toInt8.toInt32), (.int (2 : Int32)), (.ref a130), (.ref a130)])) (fun _ kk => XS.iloadN X148.here hx rfl (hb hby down_bytes_86) rfl kk) ?_
            obtain ⟨T156, h157, X158, e159, W160, st161⟩ := stB X148 hx hZ e149 A154 (j := (2 : Int32)) (by rw [S155]; decide) (g := (mkF m 87 #[.val (.int k), .val (.int y), .val (.int y.toInt8.toInt32), .val (.int (y >>> ((8 : Int32) &&& 31)).toInt8.toInt32)] [(.int y.toInt8.toInt32), (.int (2 : Int32)), (.ref a130), (.ref a130)])) rfl rfl (hb hby down_bytes_87)
            refine own_st st161 ?_
            show own_Out _ _ _ _ (T156.setTop (mkF m 88 #[.val (.int k), .val (.int y), .val (.int y.toInt8.toInt32), .val (.int (y >>> ((8 : Int32) &&& 31)).toInt8.toInt32)] [(.ref a130)]))
            have A164 := A154.same W160
            have S165 := (sz_set _ (2 : Int32).toNatClampNeg (.int (nar .byte y.toInt8.toInt32))).trans S155
            have K162 := K152.wr W160 (Or.inr hz134)
            have N163 := Fr.snoc X158 N153 ge135
            refine own_st (G := T156.setTop (mkF m 89 #[.val (.int k), .val (.int y), .val (.int y.toInt8.toInt32), .val (.int (y >>> ((8 : Int32) &&& 31)).toInt8.toInt32)] [(.ref a130), (.ref a130)])) (fun _ kk => XS.dup X158.here hx rfl (hb hby down_bytes_88) rfl rfl kk) ?_
            refine own_st (G := T156.setTop (mkF m 90 #[.val (.int k), .val (.int y), .val (.int y.toInt8.toInt32), .val (.int (y >>> ((8 : Int32) &&& 31)).toInt8.toInt32)] [(.int (3 : Int32)), (.ref a130), (.ref a130)])) (fun _ kk => XT.iconstV X158.here hx rfl (3 : Int32) (hb hby down_bytes_89) (by decide) kk) ?_
            refine own_st (G := T156.setTop (mkF m 91 #[.val (.int k), .val (.int y), .val (.int y.toInt8.toInt32), .val (.int (y >>> ((8 : Int32) &&& 31)).toInt8.toInt32)] [(.int (y >>> ((8 : Int32) &&& 31)).toInt8.toInt32), (.int (3 : Int32)), (.ref a130), (.ref a130)])) (fun _ kk => XS.iloadN X158.here hx rfl (hb hby down_bytes_90) rfl kk) ?_
            obtain ⟨T166, h167, X168, e169, W170, st171⟩ := stB X158 hx hZ e159 A164 (j := (3 : Int32)) (by rw [S165]; decide) (g := (mkF m 91 #[.val (.int k), .val (.int y), .val (.int y.toInt8.toInt32), .val (.int (y >>> ((8 : Int32) &&& 31)).toInt8.toInt32)] [(.int (y >>> ((8 : Int32) &&& 31)).toInt8.toInt32), (.int (3 : Int32)), (.ref a130), (.ref a130)])) rfl rfl (hb hby down_bytes_91)
            refine own_st st171 ?_
            show own_Out _ _ _ _ (T166.setTop (mkF m 92 #[.val (.int k), .val (.int y), .val (.int y.toInt8.toInt32), .val (.int (y >>> ((8 : Int32) &&& 31)).toInt8.toInt32)] [(.ref a130)]))
            have A174 := A164.same W170
            have S175 := (sz_set _ (3 : Int32).toNatClampNeg (.int (nar .byte (y >>> ((8 : Int32) &&& 31)).toInt8.toInt32))).trans S165
            have K172 := K162.wr W170 (Or.inr hz134)
            have N173 := Fr.snoc X168 N163 ge135
            have hkn : k = (4 : Int32) := hc121
            have hT := e169
            refine own_retA X168 hx hret rfl rfl hlk (hb hby down_bytes_92) (by decide) (by decide) ?_
            rw [hT]
            exact ⟨_, rfl, N173, K172, hz134, _, A174, by rw [S175, hkn]; rfl⟩
          · skip
            refine own_st (G := T0.setTop (mkF m 93 #[.val (.int k), .val (.int y), .val (.int y.toInt8.toInt32), .val (.int (y >>> ((8 : Int32) &&& 31)).toInt8.toInt32)] [])) (fun _ kk => XS.icmpYes X0.here hx rfl (pc0 := 70) (pc' := 93) rfl (hb hby down_bytes_70) rfl (XT.ii_ne_t hc121) (by decide) (by decide) kk) ?_
            refine own_st (G := T0.setTop (mkF m 94 #[.val (.int k), .val (.int y), .val (.int y.toInt8.toInt32), .val (.int (y >>> ((8 : Int32) &&& 31)).toInt8.toInt32)] [(.int (5 : Int32))])) (fun _ kk => XT.iconstV X0.here hx rfl (5 : Int32) (hb hby down_bytes_93) (by decide) kk) ?_
            obtain ⟨T176, h177, cA178, X179, e180, E181, A182, st183⟩ := newP X0 hx hZ (own_w hw 13 rfl) e0 (g := (mkF m 94 #[.val (.int k), .val (.int y), .val (.int y.toInt8.toInt32), .val (.int (y >>> ((8 : Int32) &&& 31)).toInt8.toInt32)] [(.int (5 : Int32))])) rfl (hb hby down_bytes_94) rfl (by decide) (cap := 5) (by decide) (by decide) (by decide) (by decide)
            obtain ⟨a184, g185⟩ : ∃ z, z = h0.size := ⟨_, rfl⟩
            rw [← g185] at A182 st183
            have S186 : (newA cA178 .byte (5 : Int32)).slots.size = 5 := (sz_new _ _ _).trans (by decide)
            refine own_st st183 ?_
            show own_Out _ _ _ _ (T176.setTop (mkF m 96 #[.val (.int k), .val (.int y), .val (.int y.toInt8.toInt32), .val (.int (y >>> ((8 : Int32) &&& 31)).toInt8.toInt32)] [(.ref a184)]))
            replace A182 : Arr Z h177 a184 (newA cA178 .byte (5 : Int32)) .byte := A182
            have hz188 : h0.size ≤ a184 := by rw [g185]; exact K0.1
            have ge189 : n0 ≤ a184 := Nat.le_trans Z0 hz188
            have K187 := K0.ext E181
            refine own_st (G := T176.setTop (mkF m 97 #[.val (.int k), .val (.int y), .val (.int y.toInt8.toInt32), .val (.int (y >>> ((8 : Int32) &&& 31)).toInt8.toInt32)] [(.ref a184), (.ref a184)])) (fun _ kk => XS.dup X179.here hx rfl (hb hby down_bytes_96) rfl rfl kk) ?_
            refine own_st (G := T176.setTop (mkF m 98 #[.val (.int k), .val (.int y), .val (.int y.toInt8.toInt32), .val (.int (y >>> ((8 : Int32) &&& 31)).toInt8.toInt32)] [(.int (0 : Int32)), (.ref a184), (.ref a184)])) (fun _ kk => XT.iconstV X179.here hx rfl (0 : Int32) (hb hby down_bytes_97) (by decide) kk) ?_
            refine own_st (G := T176.setTop (mkF m 99 #[.val (.int k), .val (.int y), .val (.int y.toInt8.toInt32), .val (.int (y >>> ((8 : Int32) &&& 31)).toInt8.toInt32)] [(.int y.toInt8.toInt32), (.int (0 : Int32)), (.ref a184), (.ref a184)])) (fun _ kk => XS.iloadN X179.here hx rfl (hb hby down_bytes_98) rfl kk) ?_
            obtain ⟨T190, h191, X192, e193, W194, st195⟩ := stB X179 hx hZ e180 A182 (j := (0 : Int32)) (by rw [S186]; decide) (g := (mkF m 99 #[.val (.int k), .val (.int y), .val (.int y.toInt8.toInt32), .val (.int (y >>> ((8 : Int32) &&& 31)).toInt8.toInt32)] [(.int y.toInt8.toInt32), (.int (0 : Int32)), (.ref a184), (.ref a184)])) rfl rfl (hb hby down_bytes_99)
            refine own_st st195 ?_
            show own_Out _ _ _ _ (T190.setTop (mkF m 100 #[.val (.int k), .val (.int y), .val (.int y.toInt8.toInt32), .val (.int (y >>> ((8 : Int32) &&& 31)).toInt8.toInt32)] [(.ref a184)]))
            have A198 := A182.same W194
            have S199 := (sz_set _ (0 : Int32).toNatClampNeg (.int (nar .byte y.toInt8.toInt32))).trans S186
            have K196 := K187.wr W194 (Or.inr hz188)
            have N197 := Fr.snoc X192 N0 ge189
            refine own_st (G := T190.setTop (mkF m 101 #[.val (.int k), .val (.int y), .val (.int y.toInt8.toInt32), .val (.int (y >>> ((8 : Int32) &&& 31)).toInt8.toInt32)] [(.ref a184), (.ref a184)])) (fun _ kk => XS.dup X192.here hx rfl (hb hby down_bytes_100) rfl rfl kk) ?_
            refine own_st (G := T190.setTop (mkF m 102 #[.val (.int k), .val (.int y), .val (.int y.toInt8.toInt32), .val (.int (y >>> ((8 : Int32) &&& 31)).toInt8.toInt32)] [(.int (1 : Int32)), (.ref a184), (.ref a184)])) (fun _ kk => XT.iconstV X192.here hx rfl (1 : Int32) (hb hby down_bytes_101) (by decide) kk) ?_
            refine own_st (G := T190.setTop (mkF m 103 #[.val (.int k), .val (.int y), .val (.int y.toInt8.toInt32), .val (.int (y >>> ((8 : Int32) &&& 31)).toInt8.toInt32)] [(.int (y >>> ((8 : Int32) &&& 31)).toInt8.toInt32), (.int (1 : Int32)), (.ref a184), (.ref a184)])) (fun _ kk => XS.iloadN X192.here hx rfl (hb hby down_bytes_102) rfl kk) ?_
            obtain ⟨T200, h201, X202, e203, W204, st205⟩ := stB X192 hx hZ e193 A198 (j := (1 : Int32)) (by rw [S199]; decide) (g := (mkF m 103 #[.val (.int k), .val (.int y), .val (.int y.toInt8.toInt32), .val (.int (y >>> ((8 : Int32) &&& 31)).toInt8.toInt32)] [(.int (y >>> ((8 : Int32) &&& 31)).toInt8.toInt32), (.int (1 : Int32)), (.ref a184), (.ref a184)])) rfl rfl (hb hby down_bytes_103)
            refine own_st st205 ?_
            show own_Out _ _ _ _ (T200.setTop (mkF m 104 #[.val (.int k), .val (.int y), .val (.int y.toInt8.toInt32), .val (.int (y >>> ((8 : Int32) &&& 31)).toInt8.toInt32)] [(.ref a184)]))
            have A208 := A198.same W204
            have S209 := (sz_set _ (1 : Int32).toNatClampNeg (.int (nar .byte (y >>> ((8 : Int32) &&& 31)).toInt8.toInt32))).trans S199
            have K206 := K196.wr W204 (Or.inr hz188)
            have N207 := Fr.snoc X202 N197 ge189
            refine own_st (G := T200.setTop (mkF m 105 #[.val (.int k), .val (.int y), .val (.int y.toInt8.toInt32), .val (.int (y >>> ((8 : Int32) &&& 31)).toInt8.toInt32)] [(.ref a184), (.ref a184)])) (fun _ kk => XS.dup X202.here hx rfl (hb hby down_bytes_104) rfl rfl kk) ?_
            refine own_st (G := T200.setTop (mkF m 106 #[.val (.int k), .val (.int y), .val (.int y.toInt8.toInt32), .val (.int (y >>> ((8 : Int32) &&& 31)).toInt8.toInt32)] [(.int (2 : Int32)), (.ref a184), (.ref a184)])) (fun _ kk => XT.iconstV X202.here hx rfl (2 : Int32) (hb hby down_bytes_105) (by decide) kk) ?_
            refine own_st (G := T200.setTop (mkF m 107 #[.val (.int k), .val (.int y), .val (.int y.toInt8.toInt32), .val (.int (y >>> ((8 : Int32) &&& 31)).toInt8.toInt32)] [(.int y.toInt8.toInt32), (.int (2 : Int32)), (.ref a184), (.ref a184)])) (fun _ kk => XS.iloadN X202.here hx rfl (hb hby down_bytes_106) rfl kk) ?_
            obtain ⟨T210, h211, X212, e213, W214, st215⟩ := stB X202 hx hZ e203 A208 (j := (2 : Int32)) (by rw [S209]; decide) (g := (mkF m 107 #[.val (.int k), .val (.int y), .val (.int y.toInt8.toInt32), .val (.int (y >>> ((8 : Int32) &&& 31)).toInt8.toInt32)] [(.int y.toInt8.toInt32), (.int (2 : Int32)), (.ref a184), (.ref a184)])) rfl rfl (hb hby down_bytes_107)
            refine own_st st215 ?_
            show own_Out _ _ _ _ (T210.setTop (mkF m 108 #[.val (.int k), .val (.int y), .val (.int y.toInt8.toInt32), .val (.int (y >>> ((8 : Int32) &&& 31)).toInt8.toInt32)] [(.ref a184)]))
            have A218 := A208.same W214
            have S219 := (sz_set _ (2 : Int32).toNatClampNeg (.int (nar .byte y.toInt8.toInt32))).trans S209
            have K216 := K206.wr W214 (Or.inr hz188)
            have N217 := Fr.snoc X212 N207 ge189
            refine own_st (G := T210.setTop (mkF m 109 #[.val (.int k), .val (.int y), .val (.int y.toInt8.toInt32), .val (.int (y >>> ((8 : Int32) &&& 31)).toInt8.toInt32)] [(.ref a184), (.ref a184)])) (fun _ kk => XS.dup X212.here hx rfl (hb hby down_bytes_108) rfl rfl kk) ?_
            refine own_st (G := T210.setTop (mkF m 110 #[.val (.int k), .val (.int y), .val (.int y.toInt8.toInt32), .val (.int (y >>> ((8 : Int32) &&& 31)).toInt8.toInt32)] [(.int (3 : Int32)), (.ref a184), (.ref a184)])) (fun _ kk => XT.iconstV X212.here hx rfl (3 : Int32) (hb hby down_bytes_109) (by decide) kk) ?_
            refine own_st (G := T210.setTop (mkF m 111 #[.val (.int k), .val (.int y), .val (.int y.toInt8.toInt32), .val (.int (y >>> ((8 : Int32) &&& 31)).toInt8.toInt32)] [(.int (y >>> ((8 : Int32) &&& 31)).toInt8.toInt32), (.int (3 : Int32)), (.ref a184), (.ref a184)])) (fun _ kk => XS.iloadN X212.here hx rfl (hb hby down_bytes_110) rfl kk) ?_
            obtain ⟨T220, h221, X222, e223, W224, st225⟩ := stB X212 hx hZ e213 A218 (j := (3 : Int32)) (by rw [S219]; decide) (g := (mkF m 111 #[.val (.int k), .val (.int y), .val (.int y.toInt8.toInt32), .val (.int (y >>> ((8 : Int32) &&& 31)).toInt8.toInt32)] [(.int (y >>> ((8 : Int32) &&& 31)).toInt8.toInt32), (.int (3 : Int32)), (.ref a184), (.ref a184)])) rfl rfl (hb hby down_bytes_111)
            refine own_st st225 ?_
            show own_Out _ _ _ _ (T220.setTop (mkF m 112 #[.val (.int k), .val (.int y), .val (.int y.toInt8.toInt32), .val (.int (y >>> ((8 : Int32) &&& 31)).toInt8.toInt32)] [(.ref a184)]))
            have A228 := A218.same W224
            have S229 := (sz_set _ (3 : Int32).toNatClampNeg (.int (nar .byte (y >>> ((8 : Int32) &&& 31)).toInt8.toInt32))).trans S219
            have K226 := K216.wr W224 (Or.inr hz188)
            have N227 := Fr.snoc X222 N217 ge189
            refine own_st (G := T220.setTop (mkF m 113 #[.val (.int k), .val (.int y), .val (.int y.toInt8.toInt32), .val (.int (y >>> ((8 : Int32) &&& 31)).toInt8.toInt32)] [(.ref a184), (.ref a184)])) (fun _ kk => XS.dup X222.here hx rfl (hb hby down_bytes_112) rfl rfl kk) ?_
            refine own_st (G := T220.setTop (mkF m 114 #[.val (.int k), .val (.int y), .val (.int y.toInt8.toInt32), .val (.int (y >>> ((8 : Int32) &&& 31)).toInt8.toInt32)] [(.int (4 : Int32)), (.ref a184), (.ref a184)])) (fun _ kk => XT.iconstV X222.here hx rfl (4 : Int32) (hb hby down_bytes_113) (by decide) kk) ?_
            refine own_st (G := T220.setTop (mkF m 115 #[.val (.int k), .val (.int y), .val (.int y.toInt8.toInt32), .val (.int (y >>> ((8 : Int32) &&& 31)).toInt8.toInt32)] [(.int y.toInt8.toInt32), (.int (4 : Int32)), (.ref a184), (.ref a184)])) (fun _ kk => XS.iloadN X222.here hx rfl (hb hby down_bytes_114) rfl kk) ?_
            obtain ⟨T230, h231, X232, e233, W234, st235⟩ := stB X222 hx hZ e223 A228 (j := (4 : Int32)) (by rw [S229]; decide) (g := (mkF m 115 #[.val (.int k), .val (.int y), .val (.int y.toInt8.toInt32), .val (.int (y >>> ((8 : Int32) &&& 31)).toInt8.toInt32)] [(.int y.toInt8.toInt32), (.int (4 : Int32)), (.ref a184), (.ref a184)])) rfl rfl (hb hby down_bytes_115)
            refine own_st st235 ?_
            show own_Out _ _ _ _ (T230.setTop (mkF m 116 #[.val (.int k), .val (.int y), .val (.int y.toInt8.toInt32), .val (.int (y >>> ((8 : Int32) &&& 31)).toInt8.toInt32)] [(.ref a184)]))
            have A238 := A228.same W234
            have S239 := (sz_set _ (4 : Int32).toNatClampNeg (.int (nar .byte y.toInt8.toInt32))).trans S229
            have K236 := K226.wr W234 (Or.inr hz188)
            have N237 := Fr.snoc X232 N227 ge189
            have hkn : k = (5 : Int32) := (own_last5 k hr hc1 hc16 hc41 hc76 hc121)
            have hT := e233
            refine own_retA X232 hx hret rfl rfl hlk (hb hby down_bytes_116) (by decide) (by decide) ?_
            rw [hT]
            exact ⟨_, rfl, N237, K236, hz188, _, A238, by rw [S239, hkn]; rfl⟩
theorem pn_own_rec : plainName "java/lang/Record" = true := by first | (simp [plainName, overriddenIn]; done) | decide +kernel
theorem down_rec_0 : decode jdk_30_method_1_code 0 = .ok (.aload_n 0, 1) := by decide +kernel
theorem down_rec_1 : decode jdk_30_method_1_code 1 = .ok (.invokespecial 1, 3) := by decide +kernel
theorem down_rec_4 : decode jdk_30_method_1_code 4 = .ok (.return_, 1) := by decide +kernel
def Q_own_rec (Z : State)  (a : Addr) (h0 : Heap) (n0 : Nat) (v : Option Value) (h : Heap) (L : List Loc) : Prop := v = none ∧ L = [] ∧ h = h0
set_option maxRecDepth 65536 in
set_option maxHeartbeats 40000000 in
theorem own_rec (l : Launch) (Z : State) (a0 : Array Value) (hw : ∀ d ∈ tables_1, d.before a0 Z = true) (ws : List Jvm.Cond)  (a : Addr) (h0 : Heap) (n0 : Nat)  :
    MetFree l (⟨"java/lang/Record", "<init>", "()V"⟩ : MethodName) (head1 (Jvm.Cond.code (⟨"java/lang/Record", "<init>", "()V"⟩ : MethodName) jdk_30_method_1_code 1 none :: ws) ({ frames := 1, cells := 0, slots := 0, locals := 12 } : Room)) (fun aa U => aa = #[(.ref a)] ∧ Z.Warmed39 U.vm ∧ U.heap = h0) (fun _ _ _ _ _ => True) (fun _ U o U' => ∃ v L, o = .returned v ∧ Q_own_rec Z a h0 n0 v U'.heap L ∧ FrameEnd U o U' L ({ frames := 1, cells := 0, slots := 0, locals := 12 } : Room).cells ({ frames := 1, cells := 0, slots := 0, locals := 12 } : Room).slots) := by
  refine own_body (x := (⟨"java/lang/Record", "<init>", "()V"⟩ : MethodName)) (maxL := 1) (as' := #[(.ref a)]) (Q := Q_own_rec Z a h0 n0) pn_own_rec #[.val (.ref a)] (fun m => by first | (simp [entryFrame, mkF, argsToLocals, Value.category]; done) | rfl) ?_
  intro p e s m below meth c T0 X0 hx hby hml hret hlk hown hnm hZ e0
  replace hml : c.maxLocals = 1 := hml
  replace hown : s.vm.findClass "java/lang/Record" = some m.cls := hown
  have N0 := Fr.nil n0
  refine own_st (G := T0.setTop (mkF m 1 #[.val (.ref a)] [(.ref a)])) (fun _ kk => XS.aloadN X0.here hx rfl (hb hby down_rec_0) rfl rfl kk) ?_
  obtain ⟨T1, X2, e3, st4⟩ := initO X0 hx hZ hown (own_w hw 22 rfl) (own_w hw 23 rfl) (own_w hw 24 rfl) e0 (g := (mkF m 1 #[.val (.ref a)] [(.ref a)])) rfl (by rw [hml]; rfl) rfl (hb hby down_rec_1) (by decide) (W := 0) (by show 2 * 0 + _ ≤ _; exact Nat.le_of_eq rfl) (by decide)
  refine own_st st4 ?_
  show own_Out _ _ _ _ (T1.setTop (mkF m 4 #[.val (.ref a)] []))
  refine own_ret0 X2 hx hret hlk (hb hby down_rec_4) (by decide) (by decide) ?_
  exact ⟨rfl, rfl, e3⟩
theorem pn_own_init : plainName "com/example/seqd/seqd/store/Frame" = true := by first | (simp [plainName, overriddenIn]; done) | decide +kernel
theorem down_init_0 : decode prog_20_method_1_code 0 = .ok (.aload_n 0, 1) := by decide +kernel
theorem down_init_1 : decode prog_20_method_1_code 1 = .ok (.invokespecial 5, 3) := by decide +kernel
theorem down_init_4 : decode prog_20_method_1_code 4 = .ok (.aload_n 0, 1) := by decide +kernel
theorem down_init_5 : decode prog_20_method_1_code 5 = .ok (.lload_n 1, 1) := by decide +kernel
theorem down_init_6 : decode prog_20_method_1_code 6 = .ok (.putfield 11, 3) := by decide +kernel
theorem down_init_9 : decode prog_20_method_1_code 9 = .ok (.aload_n 0, 1) := by decide +kernel
theorem down_init_10 : decode prog_20_method_1_code 10 = .ok (.aload_n 3, 1) := by decide +kernel
theorem down_init_11 : decode prog_20_method_1_code 11 = .ok (.putfield 17, 3) := by decide +kernel
theorem down_init_14 : decode prog_20_method_1_code 14 = .ok (.aload_n 0, 1) := by decide +kernel
theorem down_init_15 : decode prog_20_method_1_code 15 = .ok (.aload 4, 2) := by decide +kernel
theorem down_init_17 : decode prog_20_method_1_code 17 = .ok (.putfield 21, 3) := by decide +kernel
theorem down_init_20 : decode prog_20_method_1_code 20 = .ok (.return_, 1) := by decide +kernel
def Q_own_init (Z : State) (x : Int64) (a : Addr) (f0 : Int64) (f1 : Value) (f2 : Value) (r1 r2 : Addr) (h0 : Heap) (n0 : Nat) (v : Option Value) (h : Heap) (L : List Loc) : Prop := v = none ∧ Fr n0 L ∧ own_F Z h a x (.ref r1) (.ref r2) ∧ Keep h0 h [a]
set_option maxRecDepth 65536 in
set_option maxHeartbeats 40000000 in
theorem own_init (l : Launch) (Z : State) (a0 : Array Value) (hw : ∀ d ∈ tables_1, d.before a0 Z = true) (ws : List Jvm.Cond) (x : Int64) (a : Addr) (f0 : Int64) (f1 : Value) (f2 : Value) (r1 r2 : Addr) (h0 : Heap) (n0 : Nat) (ga : n0 ≤ a) (O : own_F Z h0 a f0 f1 f2)  :
    MetFree l (⟨"com/example/seqd/seqd/store/Frame", "<init>", "(J[J[B)V"⟩ : MethodName) (head1 (Jvm.Cond.code (⟨"com/example/seqd/seqd/store/Frame", "<init>", "(J[J[B)V"⟩ : MethodName) prog_20_method_1_code 5 none :: ws) ({ frames := 2, cells := 0, slots := 0, locals := 24 } : Room)) (fun aa U => aa = #[(.ref a), (.long x), (.ref r1), (.ref r2)] ∧ Z.Warmed39 U.vm ∧ U.heap = h0) (fun _ _ _ _ _ => True) (fun _ U o U' => ∃ v L, o = .returned v ∧ Q_own_init Z x a f0 f1 f2 r1 r2 h0 n0 v U'.heap L ∧ FrameEnd U o U' L ({ frames := 2, cells := 0, slots := 0, locals := 24 } : Room).cells ({ frames := 2, cells := 0, slots := 0, locals := 24 } : Room).slots) := by
  refine own_body (x := (⟨"com/example/seqd/seqd/store/Frame", "<init>", "(J[J[B)V"⟩ : MethodName)) (maxL := 5) (as' := #[(.ref a), (.long x), (.ref r1), (.ref r2)]) (Q := Q_own_init Z x a f0 f1 f2 r1 r2 h0 n0) pn_own_init #[.val (.ref a), .val (.long x), .second, .val (.ref r1), .val (.ref r2)] (fun m => by first | (simp [entryFrame, mkF, argsToLocals, Value.category]; done) | rfl) ?_
  intro p e s m below meth c T0 X0 hx hby hml hret hlk hown hnm hZ e0
  replace hml : c.maxLocals = 5 := hml
  replace hown : s.vm.findClass "com/example/seqd/seqd/store/Frame" = some m.cls := hown
  have N0 := Fr.nil n0
  have K0 := Keep.refl h0 [a]
  refine own_st (G := T0.setTop (mkF m 1 #[.val (.ref a), .val (.long x), .second, .val (.ref r1), .val (.ref r2)] [(.ref a)])) (fun _ kk => XS.aloadN X0.here hx rfl (hb hby down_init_0) rfl rfl kk) ?_
  refine own_callI X0 hx hZ (y := (⟨"java/lang/Record", "<init>", "()V"⟩ : MethodName)) (b := a) (as' := []) rfl hown (own_w hw 17 rfl) (own_w hw 18 rfl) (own_w hw 21 rfl) (own_w hw 20 rfl) (by decide) (own_rec l Z a0 hw [] a h0 n0) 0 (by decide) (by decide) (by decide) (by decide) (rest := []) (by rw [hml]; rfl) (lenOf (by decide : parseMethodDescriptor "()V" = some ⟨[], none⟩) rfl) rfl (Nat.le_of_eq rfl) (hb hby down_init_1) e0 ?_
  intro T3 L4 v6 X5 hQ
  obtain ⟨rfl, rfl, eq1⟩ := hQ
  show own_Out _ _ _ _ (T3.setTop (mkF m 4 #[.val (.ref a), .val (.long x), .second, .val (.ref r1), .val (.ref r2)] []))
  have N2 := Fr.app N0 (Fr.nil n0)
  refine own_st (G := T3.setTop (mkF m 5 #[.val (.ref a), .val (.long x), .second, .val (.ref r1), .val (.ref r2)] [(.ref a)])) (fun _ kk => XS.aloadN X5.here hx rfl (hb hby down_init_4) rfl rfl kk) ?_
  refine own_st (G := T3.setTop (mkF m 6 #[.val (.ref a), .val (.long x), .second, .val (.ref r1), .val (.ref r2)] [(.long x), (.ref a)])) (fun _ kk => XS.lloadN X5.here hx rfl (hb hby down_init_5) rfl kk) ?_
  obtain ⟨T7, h8, X9, e10, W11, st12⟩ := putF X5 hx hZ hown (host := "") (Or.inl (own_w hw 25 rfl)) Via.refl eq1 (O).2.1 (O).1 (Or.inr ⟨(own_w hw 26 rfl), rfl, hnm⟩) (own_w hw 2 rfl) (ty := .long) (by decide) rfl rfl (g := (mkF m 6 #[.val (.ref a), .val (.long x), .second, .val (.ref r1), .val (.ref r2)] [(.long x), (.ref a)])) rfl rfl (hb hby down_init_6)
  refine own_st st12 ?_
  show own_Out _ _ _ _ (T7.setTop (mkF m 9 #[.val (.ref a), .val (.long x), .second, .val (.ref r1), .val (.ref r2)] []))
  have O13 : own_F Z h8 a x f1 f2 := own_F_id hw W11 O
  have N14 := Fr.snoc X9 N2 ga
  have K15 := K0.wr W11 (Or.inl (List.mem_singleton.mpr rfl))
  refine own_st (G := T7.setTop (mkF m 10 #[.val (.ref a), .val (.long x), .second, .val (.ref r1), .val (.ref r2)] [(.ref a)])) (fun _ kk => XS.aloadN X9.here hx rfl (hb hby down_init_9) rfl rfl kk) ?_
  refine own_st (G := T7.setTop (mkF m 11 #[.val (.ref a), .val (.long x), .second, .val (.ref r1), .val (.ref r2)] [(.ref r1), (.ref a)])) (fun _ kk => XS.aloadN X9.here hx rfl (hb hby down_init_10) rfl rfl kk) ?_
  obtain ⟨T16, h17, X18, e19, W20, st21⟩ := putF X9 hx hZ hown (host := "") (Or.inl (own_w hw 27 rfl)) Via.refl e10 (O13).2.2.1 (O13).1 (Or.inr ⟨(own_w hw 28 rfl), rfl, hnm⟩) (own_w hw 2 rfl) (ty := .array (.long)) (by decide) rfl rfl (g := (mkF m 11 #[.val (.ref a), .val (.long x), .second, .val (.ref r1), .val (.ref r2)] [(.ref r1), (.ref a)])) rfl rfl (hb hby down_init_11)
  refine own_st st21 ?_
  show own_Out _ _ _ _ (T16.setTop (mkF m 14 #[.val (.ref a), .val (.long x), .second, .val (.ref r1), .val (.ref r2)] []))
  have O22 : own_F Z h17 a x (.ref r1) f2 := own_F_ended hw W20 O13
  have N23 := Fr.snoc X18 N14 ga
  have K24 := K15.wr W20 (Or.inl (List.mem_singleton.mpr rfl))
  refine own_st (G := T16.setTop (mkF m 15 #[.val (.ref a), .val (.long x), .second, .val (.ref r1), .val (.ref r2)] [(.ref a)])) (fun _ kk => XS.aloadN X18.here hx rfl (hb hby down_init_14) rfl rfl kk) ?_
  refine own_st (G := T16.setTop (mkF m 17 #[.val (.ref a), .val (.long x), .second, .val (.ref r1), .val (.ref r2)] [(.ref r2), (.ref a)])) (fun _ kk => XS.aload X18.here hx rfl (hb hby down_init_15) rfl rfl kk) ?_
  obtain ⟨T25, h26, X27, e28, W29, st30⟩ := putF X18 hx hZ hown (host := "") (Or.inl (own_w hw 29 rfl)) Via.refl e19 (O22).2.2.2 (O22).1 (Or.inr ⟨(own_w hw 30 rfl), rfl, hnm⟩) (own_w hw 2 rfl) (ty := .array (.byte)) (by decide) rfl rfl (g := (mkF m 17 #[.val (.ref a), .val (.long x), .second, .val (.ref r1), .val (.ref r2)] [(.ref r2), (.ref a)])) rfl rfl (hb hby down_init_17)
  refine own_st st30 ?_
  show own_Out _ _ _ _ (T25.setTop (mkF m 20 #[.val (.ref a), .val (.long x), .second, .val (.ref r1), .val (.ref r2)] []))
  have O31 : own_F Z h26 a x (.ref r1) (.ref r2) := own_F_data hw W29 O22
  have N32 := Fr.snoc X27 N23 ga
  have K33 := K24.wr W29 (Or.inl (List.mem_singleton.mpr rfl))
  refine own_ret0 X27 hx hret hlk (hb hby down_init_20) (by decide) (by decide) ?_
  rw [e28]
  exact ⟨rfl, N32, O31, K33⟩
theorem pn_own_size : plainName "com/example/seqd/seqd/store/Frame" = true := by first | (simp [plainName, overriddenIn]; done) | decide +kernel
theorem down_size_0 : decode prog_20_method_4_code 0 = .ok (.bipush 20, 2) := by decide +kernel
theorem down_size_2 : decode prog_20_method_4_code 2 = .ok (.bipush 8, 2) := by decide +kernel
theorem down_size_4 : decode prog_20_method_4_code 4 = .ok (.aload_n 0, 1) := by decide +kernel
theorem down_size_5 : decode prog_20_method_4_code 5 = .ok (.getfield 17, 3) := by decide +kernel
theorem down_size_8 : decode prog_20_method_4_code 8 = .ok (.arraylength, 1) := by decide +kernel
theorem down_size_9 : decode prog_20_method_4_code 9 = .ok (.imul, 1) := by decide +kernel
theorem down_size_10 : decode prog_20_method_4_code 10 = .ok (.iadd, 1) := by decide +kernel
theorem down_size_11 : decode prog_20_method_4_code 11 = .ok (.aload_n 0, 1) := by decide +kernel
theorem down_size_12 : decode prog_20_method_4_code 12 = .ok (.getfield 21, 3) := by decide +kernel
theorem down_size_15 : decode prog_20_method_4_code 15 = .ok (.arraylength, 1) := by decide +kernel
theorem down_size_16 : decode prog_20_method_4_code 16 = .ok (.iadd, 1) := by decide +kernel
theorem down_size_17 : decode prog_20_method_4_code 17 = .ok (.ireturn, 1) := by decide +kernel
def Q_own_size (Z : State)  (a r1 r2 : Addr) (i : Int64) (n1 n2 : Int32) (h0 : Heap) (n0 : Nat) (v : Option Value) (h : Heap) (L : List Loc) : Prop := v = some (.int (((20 : Int32) + ((8 : Int32) * n1)) + n2)) ∧ L = [] ∧ h = h0
set_option maxRecDepth 65536 in
set_option maxHeartbeats 40000000 in
theorem own_size (l : Launch) (Z : State) (a0 : Array Value) (hw : ∀ d ∈ tables_1, d.before a0 Z = true) (ws : List Jvm.Cond)  (a r1 r2 : Addr) (i : Int64) (n1 n2 : Int32) (h0 : Heap) (n0 : Nat) (O : own_F Z h0 a i (.ref r1) (.ref r2)) (A1 : own_Len Z h0 r1 .long n1) (A2 : own_Len Z h0 r2 .byte n2) :
    MetFree l (⟨"com/example/seqd/seqd/store/Frame", "size", "()I"⟩ : MethodName) (head1 (Jvm.Cond.code (⟨"com/example/seqd/seqd/store/Frame", "size", "()I"⟩ : MethodName) prog_20_method_4_code 1 (some (.int)) :: ws) ({ frames := 0, cells := 0, slots := 0, locals := 0 } : Room)) (fun aa U => aa = #[(.ref a)] ∧ Z.Warmed39 U.vm ∧ U.heap = h0) (fun _ _ _ _ _ => True) (fun _ U o U' => ∃ v L, o = .returned v ∧ Q_own_size Z a r1 r2 i n1 n2 h0 n0 v U'.heap L ∧ FrameEnd U o U' L ({ frames := 0, cells := 0, slots := 0, locals := 0 } : Room).cells ({ frames := 0, cells := 0, slots := 0, locals := 0 } : Room).slots) := by
  refine own_body (x := (⟨"com/example/seqd/seqd/store/Frame", "size", "()I"⟩ : MethodName)) (maxL := 1) (as' := #[(.ref a)]) (Q := Q_own_size Z a r1 r2 i n1 n2 h0 n0) pn_own_size #[.val (.ref a)] (fun m => by first | (simp [entryFrame, mkF, argsToLocals, Value.category]; done) | rfl) ?_
  intro p e s m below meth c T0 X0 hx hby hml hret hlk hown hnm hZ e0
  replace hml : c.maxLocals = 1 := hml
  replace hown : s.vm.findClass "com/example/seqd/seqd/store/Frame" = some m.cls := hown
  have N0 := Fr.nil n0
  obtain ⟨c1, B1, s1⟩ := A1
  obtain ⟨c2, B2, s2⟩ := A2
  refine own_st (G := T0.setTop (mkF m 2 #[.val (.ref a)] [(.int (20 : Int32))])) (fun _ kk => XT.bipushV X0.here hx rfl (20 : Int32) (hb hby down_size_0) (by decide) kk) ?_
  refine own_st (G := T0.setTop (mkF m 4 #[.val (.ref a)] [(.int (8 : Int32)), (.int (20 : Int32))])) (fun _ kk => XT.bipushV X0.here hx rfl (8 : Int32) (hb hby down_size_2) (by decide) kk) ?_
  refine own_st (G := T0.setTop (mkF m 5 #[.val (.ref a)] [(.ref a), (.int (8 : Int32)), (.int (20 : Int32))])) (fun _ kk => XS.aloadN X0.here hx rfl (hb hby down_size_4) rfl rfl kk) ?_
  obtain ⟨T1, X2, e3, st4⟩ := getF X0 hx hZ hown (host := "") (Or.inl (own_w hw 27 rfl)) Via.refl e0 (O).2.2.1 (g := (mkF m 5 #[.val (.ref a)] [(.ref a), (.int (8 : Int32)), (.int (20 : Int32))])) rfl rfl (hb hby down_size_5)
  refine own_st st4 ?_
  show own_Out _ _ _ _ (T1.setTop (mkF m 8 #[.val (.ref a)] [(.ref r1), (.int (8 : Int32)), (.int (20 : Int32))]))
  refine own_st (G := T1.setTop (mkF m 9 #[.val (.ref a)] [(.int n1), (.int (8 : Int32)), (.int (20 : Int32))])) (fun _ kk => X2.arraylength hx (by rw [e3]; exact B1.1) (State.isArrayOf_alike hZ.alike B1.2.1) (g := (mkF m 8 #[.val (.ref a)] [(.ref r1), (.int (8 : Int32)), (.int (20 : Int32))])) rfl rfl (hb hby down_size_8) _ (by rw [s1]; exact kk)) ?_
  refine own_st (G := T1.setTop (mkF m 10 #[.val (.ref a)] [(.int ((8 : Int32) * n1)), (.int (20 : Int32))])) (fun _ kk => XS.imul X2.here hx rfl (hb hby down_size_9) rfl kk) ?_
  refine own_st (G := T1.setTop (mkF m 11 #[.val (.ref a)] [(.int ((20 : Int32) + ((8 : Int32) * n1)))])) (fun _ kk => XS.iadd X2.here hx rfl (hb hby down_size_10) rfl kk) ?_
  refine own_st (G := T1.setTop (mkF m 12 #[.val (.ref a)] [(.ref a), (.int ((20 : Int32) + ((8 : Int32) * n1)))])) (fun _ kk => XS.aloadN X2.here hx rfl (hb hby down_size_11) rfl rfl kk) ?_
  obtain ⟨T5, X6, e7, st8⟩ := getF X2 hx hZ hown (host := "") (Or.inl (own_w hw 29 rfl)) Via.refl e3 (O).2.2.2 (g := (mkF m 12 #[.val (.ref a)] [(.ref a), (.int ((20 : Int32) + ((8 : Int32) * n1)))])) rfl rfl (hb hby down_size_12)
  refine own_st st8 ?_
  show own_Out _ _ _ _ (T5.setTop (mkF m 15 #[.val (.ref a)] [(.ref r2), (.int ((20 : Int32) + ((8 : Int32) * n1)))]))
  refine own_st (G := T5.setTop (mkF m 16 #[.val (.ref a)] [(.int n2), (.int ((20 : Int32) + ((8 : Int32) * n1)))])) (fun _ kk => X6.arraylength hx (by rw [e7]; exact B2.1) (State.isArrayOf_alike hZ.alike B2.2.1) (g := (mkF m 15 #[.val (.ref a)] [(.ref r2), (.int ((20 : Int32) + ((8 : Int32) * n1)))])) rfl rfl (hb hby down_size_15) _ (by rw [s2]; exact kk)) ?_
  refine own_st (G := T5.setTop (mkF m 17 #[.val (.ref a)] [(.int (((20 : Int32) + ((8 : Int32) * n1)) + n2))])) (fun _ kk => XS.iadd X6.here hx rfl (hb hby down_size_16) rfl kk) ?_
  refine own_retI X6 hx hret hlk (hb hby down_size_17) (by decide) (by decide) ?_
  exact ⟨rfl, rfl, e7⟩
theorem pn_own_law : plainName "com/example/seqd/seqd/store/FrameSizePinLaw" = true := by first | (simp [plainName, overriddenIn]; done) | decide +kernel
def Q_own_law (Z : State) (p0 : Int64) (p1 : Int32) (p2 : Int32) (p3 : Int64) (p4 : Int32)  (h0 : Heap) (n0 : Nat) (v : Option Value) (h : Heap) (L : List Loc) : Prop := v = some (.int 1) ∧ Fr n0 L
set_option maxRecDepth 65536 in
set_option maxHeartbeats 40000000 in
theorem own_law (l : Launch) (Z : State) (a0 : Array Value) (hw : ∀ d ∈ tables_1, d.before a0 Z = true) (ws : List Jvm.Cond) (p0 : Int64) (p1 : Int32) (p2 : Int32) (p3 : Int64) (p4 : Int32)  (h0 : Heap) (n0 : Nat) (Z0 : n0 ≤ h0.size) :
    MetFree l x (head1 (Jvm.Cond.code x code maxLocals ret :: ws) room_1) (fun aa U => aa = #[(.long p0), (.int p1), (.int p2), (.long p3), (.int p4)] ∧ Z.Warmed39 U.vm ∧ U.heap = h0) (fun _ _ _ _ _ => True) (fun _ U o U' => ∃ v L, o = .returned v ∧ Q_own_law Z p0 p1 p2 p3 p4 h0 n0 v U'.heap L ∧ FrameEnd U o U' L room_1.cells room_1.slots) := by
  refine own_body (x := x) (maxL := maxLocals) (as' := #[(.long p0), (.int p1), (.int p2), (.long p3), (.int p4)]) (Q := Q_own_law Z p0 p1 p2 p3 p4 h0 n0) pn_own_law #[.val (.long p0), .second, .val (.int p1), .val (.int p2), .val (.long p3), .second, .val (.int p4), .unset, .unset, .unset, .unset] (fun m => by first | (simp [entryFrame, mkF, argsToLocals, Value.category, maxLocals]; done) | rfl) ?_
  intro p e s m below meth c T0 X0 hx hby hml hret hlk hown hnm hZ e0
  replace hml : c.maxLocals = 11 := hml
  replace hown : s.vm.findClass "com/example/seqd/seqd/store/FrameSizePinLaw" = some m.cls := hown
  have N0 := Fr.nil n0
  refine own_st (G := T0.setTop (mkF m 1 #[.val (.long p0), .second, .val (.int p1), .val (.int p2), .val (.long p3), .second, .val (.int p4), .unset, .unset, .unset, .unset] [(.int p1)])) (fun _ kk => XS.iloadN X0.here hx rfl (hb hby at_0) rfl kk) ?_
  refine own_st (G := T0.setTop (mkF m 2 #[.val (.long p0), .second, .val (.int p1), .val (.int p2), .val (.long p3), .second, .val (.int p4), .unset, .unset, .unset, .unset] [(.int (3 : Int32)), (.int p1)])) (fun _ kk => XT.iconstV X0.here hx rfl (3 : Int32) (hb hby at_1) (by decide) kk) ?_
  refine own_st (G := T0.setTop (mkF m 3 #[.val (.long p0), .second, .val (.int p1), .val (.int p2), .val (.long p3), .second, .val (.int p4), .unset, .unset, .unset, .unset] [(.int (p1 &&& (3 : Int32)))])) (fun _ kk => XS.iand X0.here hx rfl (hb hby at_2) rfl kk) ?_
  generalize hv3 : (p1 &&& (3 : Int32)) = v3
  refine own_st (G := T0.setTop (mkF m 5 #[.val (.long p0), .second, .val (.int p1), .val (.int p2), .val (.long p3), .second, .val (.int p4), .val (.int v3), .unset, .unset, .unset] [])) (fun _ kk => XS.istore X0.here hx rfl (hb hby at_3) rfl (l' := #[.val (.long p0), .second, .val (.int p1), .val (.int p2), .val (.long p3), .second, .val (.int p4), .val (.int v3), .unset, .unset, .unset]) rfl kk) ?_
  refine own_st (G := T0.setTop (mkF m 6 #[.val (.long p0), .second, .val (.int p1), .val (.int p2), .val (.long p3), .second, .val (.int p4), .val (.int v3), .unset, .unset, .unset] [(.int p2)])) (fun _ kk => XS.iloadN X0.here hx rfl (hb hby at_5) rfl kk) ?_
  refine own_st (G := T0.setTop (mkF m 8 #[.val (.long p0), .second, .val (.int p1), .val (.int p2), .val (.long p3), .second, .val (.int p4), .val (.int v3), .unset, .unset, .unset] [(.int (2147483647 : Int32)), (.int p2)])) (fun _ kk => X0.ldcInt hx hown (mvT hZ (own_w hw 0 rfl)) (g := (mkF m 6 #[.val (.long p0), .second, .val (.int p1), .val (.int p2), .val (.long p3), .second, .val (.int p4), .val (.int v3), .unset, .unset, .unset] [(.int p2)])) rfl (hb hby at_6) _ kk) ?_
  refine own_st (G := T0.setTop (mkF m 9 #[.val (.long p0), .second, .val (.int p1), .val (.int p2), .val (.long p3), .second, .val (.int p4), .val (.int v3), .unset, .unset, .unset] [(.int (p2 &&& (2147483647 : Int32)))])) (fun _ kk => XS.iand X0.here hx rfl (hb hby at_8) rfl kk) ?_
  refine own_st (G := T0.setTop (mkF m 11 #[.val (.long p0), .second, .val (.int p1), .val (.int p2), .val (.long p3), .second, .val (.int p4), .val (.int v3), .unset, .unset, .unset] [(.int (6 : Int32)), (.int (p2 &&& (2147483647 : Int32)))])) (fun _ kk => XT.bipushV X0.here hx rfl (6 : Int32) (hb hby at_9) (by decide) kk) ?_
  refine own_st (G := T0.setTop (mkF m 12 #[.val (.long p0), .second, .val (.int p1), .val (.int p2), .val (.long p3), .second, .val (.int p4), .val (.int v3), .unset, .unset, .unset] [(.int ((p2 &&& (2147483647 : Int32)) % (6 : Int32)))])) (fun _ kk => iremM X0 hx rfl (hb hby at_11) rfl (by decide) kk) ?_
  generalize hv12 : ((p2 &&& (2147483647 : Int32)) % (6 : Int32)) = v12
  refine own_st (G := T0.setTop (mkF m 14 #[.val (.long p0), .second, .val (.int p1), .val (.int p2), .val (.long p3), .second, .val (.int p4), .val (.int v3), .val (.int v12), .unset, .unset] [])) (fun _ kk => XS.istore X0.here hx rfl (hb hby at_12) rfl (l' := #[.val (.long p0), .second, .val (.int p1), .val (.int p2), .val (.long p3), .second, .val (.int p4), .val (.int v3), .val (.int v12), .unset, .unset]) rfl kk) ?_
  obtain ⟨T1, h2, X3, e4, E5, A6, D7, -, st8⟩ := newO X0 hx hZ hown (own_w hw 1 rfl) (own_w hw 2 rfl) (own_w hw 3 rfl) e0 (g := (mkF m 14 #[.val (.long p0), .second, .val (.int p1), .val (.int p2), .val (.long p3), .second, .val (.int p4), .val (.int v3), .val (.int v12), .unset, .unset] [])) rfl (hb hby at_14) (by decide) (by decide)
  obtain ⟨a9, g10⟩ : ∃ z, z = h0.size := ⟨_, rfl⟩
  rw [← g10] at A6 D7 st8
  refine own_st st8 ?_
  show own_Out _ _ _ _ (T1.setTop (mkF m 17 #[.val (.long p0), .second, .val (.int p1), .val (.int p2), .val (.long p3), .second, .val (.int p4), .val (.int v3), .val (.int v12), .unset, .unset] [(.ref a9)]))
  have O11 : own_F Z h2 a9 (0 : Int64) .null .null := ⟨A6, D7 (Or.inr (own_w hw 26 rfl)) (ty := .long) (by decide), D7 (Or.inr (own_w hw 28 rfl)) (ty := .array (.long)) (by decide), D7 (Or.inr (own_w hw 30 rfl)) (ty := .array (.byte)) (by decide)⟩
  have ga12 : n0 ≤ a9 := Nat.le_trans Z0 (Nat.le_of_eq g10.symm)
  have Z13 : n0 ≤ h2.size := Nat.le_trans Z0 E5.1
  refine own_st (G := T1.setTop (mkF m 18 #[.val (.long p0), .second, .val (.int p1), .val (.int p2), .val (.long p3), .second, .val (.int p4), .val (.int v3), .val (.int v12), .unset, .unset] [(.ref a9), (.ref a9)])) (fun _ kk => XS.dup X3.here hx rfl (hb hby at_17) rfl rfl kk) ?_
  refine own_st (G := T1.setTop (mkF m 19 #[.val (.long p0), .second, .val (.int p1), .val (.int p2), .val (.long p3), .second, .val (.int p4), .val (.int v3), .val (.int v12), .unset, .unset] [(.long p0), (.ref a9), (.ref a9)])) (fun _ kk => XS.lloadN X3.here hx rfl (hb hby at_18) rfl kk) ?_
  refine own_st (G := T1.setTop (mkF m 21 #[.val (.long p0), .second, .val (.int p1), .val (.int p2), .val (.long p3), .second, .val (.int p4), .val (.int v3), .val (.int v12), .unset, .unset] [(.int v3), (.long p0), (.ref a9), (.ref a9)])) (fun _ kk => XS.iload X3.here hx rfl (hb hby at_19) rfl kk) ?_
  refine own_st (G := T1.setTop (mkF m 23 #[.val (.long p0), .second, .val (.int p1), .val (.int p2), .val (.long p3), .second, .val (.int p4), .val (.int v3), .val (.int v12), .unset, .unset] [(.long p3), (.int v3), (.long p0), (.ref a9), (.ref a9)])) (fun _ kk => XS.lload X3.here hx rfl (hb hby at_21) rfl kk) ?_
  refine own_callS X3 hx hZ (y := (⟨"com/example/seqd/seqd/store/FrameSizePinLaw", "longs", "(IJ)[J"⟩ : MethodName)) (as' := [(.int v3), (.long p3)]) hown (own_w hw 4 rfl) (own_w hw 5 rfl) (own_w hw 6 rfl) (own_w hw 7 rfl) (by decide) (own_longs l Z a0 hw [] v3 p3 h2 n0 Z13 (own_r4 p1 v3 hv3)) 4 (by decide) (by decide) (by decide) (by decide) (rest := [(.long p0), (.ref a9), (.ref a9)]) (by rw [hml]; rfl) (lenOf (by decide : parseMethodDescriptor "(IJ)[J" = some ⟨[.int, .long], some (.array (.long))⟩) rfl) rfl (Nat.le_of_eq rfl) (hb hby at_23) e4 ?_
  intro T22 L23 v25 X24 hQ
  obtain ⟨r14, rfl, N15', K16, hz17, Ln18⟩ := hQ
  show own_Out _ _ _ _ (T22.setTop (mkF m 26 #[.val (.long p0), .second, .val (.int p1), .val (.int p2), .val (.long p3), .second, .val (.int p4), .val (.int v3), .val (.int v12), .unset, .unset] [(.ref r14), (.long p0), (.ref a9), (.ref a9)]))
  have N15 := Fr.app N0 N15'
  have O19 : own_F Z T22.heap a9 (0 : Int64) .null .null := ⟨O11.1.keep K16, (O11).2.1.keep K16 (by simp), (O11).2.2.1.keep K16 (by simp), (O11).2.2.2.keep K16 (by simp)⟩
  have Z20 : n0 ≤ T22.heap.size := Nat.le_trans Z13 K16.1
  have ne21 : a9 ≠ r14 := Nat.ne_of_lt (Nat.lt_of_lt_of_le O11.1.lt hz17)
  refine own_st (G := T22.setTop (mkF m 28 #[.val (.long p0), .second, .val (.int p1), .val (.int p2), .val (.long p3), .second, .val (.int p4), .val (.int v3), .val (.int v12), .unset, .unset] [(.int v12), (.ref r14), (.long p0), (.ref a9), (.ref a9)])) (fun _ kk => XS.iload X24.here hx rfl (hb hby at_26) rfl kk) ?_
  refine own_st (G := T22.setTop (mkF m 30 #[.val (.long p0), .second, .val (.int p1), .val (.int p2), .val (.long p3), .second, .val (.int p4), .val (.int v3), .val (.int v12), .unset, .unset] [(.int p4), (.int v12), (.ref r14), (.long p0), (.ref a9), (.ref a9)])) (fun _ kk => XS.iload X24.here hx rfl (hb hby at_28) rfl kk) ?_
  refine own_callS X24 hx hZ (y := (⟨"com/example/seqd/seqd/store/FrameSizePinLaw", "bytes", "(II)[B"⟩ : MethodName)) (as' := [(.int v12), (.int p4)]) hown (own_w hw 10 rfl) (own_w hw 11 rfl) (own_w hw 6 rfl) (own_w hw 12 rfl) (by decide) (own_bytes l Z a0 hw [] v12 p4 T22.heap n0 Z20 (own_r6 p2 v12 hv12)) 5 (by decide) (by decide) (by decide) (by decide) (rest := [(.ref r14), (.long p0), (.ref a9), (.ref a9)]) (by rw [hml]; rfl) (lenOf (by decide : parseMethodDescriptor "(II)[B" = some ⟨[.int, .int], some (.array (.byte))⟩) rfl) rfl (Nat.le_of_eq rfl) (hb hby at_30) rfl ?_
  intro T34 L35 v37 X36 hQ
  obtain ⟨r26, rfl, N27', K28, hz29, Ln30⟩ := hQ
  show own_Out _ _ _ _ (T34.setTop (mkF m 33 #[.val (.long p0), .second, .val (.int p1), .val (.int p2), .val (.long p3), .second, .val (.int p4), .val (.int v3), .val (.int v12), .unset, .unset] [(.ref r26), (.ref r14), (.long p0), (.ref a9), (.ref a9)]))
  have N27 := Fr.app N15 N27'
  have O31 : own_F Z T34.heap a9 (0 : Int64) .null .null := ⟨O19.1.keep K28, (O19).2.1.keep K28 (by simp), (O19).2.2.1.keep K28 (by simp), (O19).2.2.2.keep K28 (by simp)⟩
  have Z32 : n0 ≤ T34.heap.size := Nat.le_trans Z20 K28.1
  have ne33 : a9 ≠ r26 := Nat.ne_of_lt (Nat.lt_of_lt_of_le O19.1.lt hz29)
  have Ln38 := Ln18.keep K28 (by simp)
  refine own_callI X36 hx hZ (y := (⟨"com/example/seqd/seqd/store/Frame", "<init>", "(J[J[B)V"⟩ : MethodName)) (b := a9) (as' := [(.long p0), (.ref r14), (.ref r26)]) rfl hown (own_w hw 14 rfl) (own_w hw 15 rfl) (own_w hw 16 rfl) (own_w hw 3 rfl) (by decide) (own_init l Z a0 hw [] p0 a9 (0 : Int64) .null .null r14 r26 T34.heap n0 ga12 O31) 1 (by decide) (by decide) (by decide) (by decide) (rest := [(.ref a9)]) (by rw [hml]; rfl) (lenOf (by decide : parseMethodDescriptor "(J[J[B)V" = some ⟨[.long, .array (.long), .array (.byte)], none⟩) rfl) rfl (Nat.le_of_eq rfl) (hb hby at_33) rfl ?_
  intro T42 L43 v45 X44 hQ
  obtain ⟨rfl, N39', O41, K40⟩ := hQ
  show own_Out _ _ _ _ (T42.setTop (mkF m 36 #[.val (.long p0), .second, .val (.int p1), .val (.int p2), .val (.long p3), .second, .val (.int p4), .val (.int v3), .val (.int v12), .unset, .unset] [(.ref a9)]))
  have N39 := Fr.app N27 N39'
  have Ln46 := Ln38.keep K40 (fun q => ne21 (List.mem_singleton.mp q).symm)
  have Ln47 := Ln30.keep K40 (fun q => ne33 (List.mem_singleton.mp q).symm)
  refine own_st (G := T42.setTop (mkF m 38 #[.val (.long p0), .second, .val (.int p1), .val (.int p2), .val (.long p3), .second, .val (.int p4), .val (.int v3), .val (.int v12), .val (.ref a9), .unset] [])) (fun _ kk => XS.astore X44.here hx rfl (hb hby at_36) rfl rfl (l' := #[.val (.long p0), .second, .val (.int p1), .val (.int p2), .val (.long p3), .second, .val (.int p4), .val (.int v3), .val (.int v12), .val (.ref a9), .unset]) rfl kk) ?_
  refine own_st (G := T42.setTop (mkF m 40 #[.val (.long p0), .second, .val (.int p1), .val (.int p2), .val (.long p3), .second, .val (.int p4), .val (.int v3), .val (.int v12), .val (.ref a9), .unset] [(.int (20 : Int32))])) (fun _ kk => XT.bipushV X44.here hx rfl (20 : Int32) (hb hby at_38) (by decide) kk) ?_
  refine own_st (G := T42.setTop (mkF m 42 #[.val (.long p0), .second, .val (.int p1), .val (.int p2), .val (.long p3), .second, .val (.int p4), .val (.int v3), .val (.int v12), .val (.ref a9), .unset] [(.int (8 : Int32)), (.int (20 : Int32))])) (fun _ kk => XT.bipushV X44.here hx rfl (8 : Int32) (hb hby at_40) (by decide) kk) ?_
  refine own_st (G := T42.setTop (mkF m 44 #[.val (.long p0), .second, .val (.int p1), .val (.int p2), .val (.long p3), .second, .val (.int p4), .val (.int v3), .val (.int v12), .val (.ref a9), .unset] [(.int v3), (.int (8 : Int32)), (.int (20 : Int32))])) (fun _ kk => XS.iload X44.here hx rfl (hb hby at_42) rfl kk) ?_
  refine own_st (G := T42.setTop (mkF m 45 #[.val (.long p0), .second, .val (.int p1), .val (.int p2), .val (.long p3), .second, .val (.int p4), .val (.int v3), .val (.int v12), .val (.ref a9), .unset] [(.int ((8 : Int32) * v3)), (.int (20 : Int32))])) (fun _ kk => XS.imul X44.here hx rfl (hb hby at_44) rfl kk) ?_
  refine own_st (G := T42.setTop (mkF m 46 #[.val (.long p0), .second, .val (.int p1), .val (.int p2), .val (.long p3), .second, .val (.int p4), .val (.int v3), .val (.int v12), .val (.ref a9), .unset] [(.int ((20 : Int32) + ((8 : Int32) * v3)))])) (fun _ kk => XS.iadd X44.here hx rfl (hb hby at_45) rfl kk) ?_
  refine own_st (G := T42.setTop (mkF m 48 #[.val (.long p0), .second, .val (.int p1), .val (.int p2), .val (.long p3), .second, .val (.int p4), .val (.int v3), .val (.int v12), .val (.ref a9), .unset] [(.int v12), (.int ((20 : Int32) + ((8 : Int32) * v3)))])) (fun _ kk => XS.iload X44.here hx rfl (hb hby at_46) rfl kk) ?_
  refine own_st (G := T42.setTop (mkF m 49 #[.val (.long p0), .second, .val (.int p1), .val (.int p2), .val (.long p3), .second, .val (.int p4), .val (.int v3), .val (.int v12), .val (.ref a9), .unset] [(.int (((20 : Int32) + ((8 : Int32) * v3)) + v12))])) (fun _ kk => XS.iadd X44.here hx rfl (hb hby at_48) rfl kk) ?_
  refine own_st (G := T42.setTop (mkF m 51 #[.val (.long p0), .second, .val (.int p1), .val (.int p2), .val (.long p3), .second, .val (.int p4), .val (.int v3), .val (.int v12), .val (.ref a9), .val (.int (((20 : Int32) + ((8 : Int32) * v3)) + v12))] [])) (fun _ kk => XS.istore X44.here hx rfl (hb hby at_49) rfl (l' := #[.val (.long p0), .second, .val (.int p1), .val (.int p2), .val (.long p3), .second, .val (.int p4), .val (.int v3), .val (.int v12), .val (.ref a9), .val (.int (((20 : Int32) + ((8 : Int32) * v3)) + v12))]) rfl kk) ?_
  refine own_st (G := T42.setTop (mkF m 53 #[.val (.long p0), .second, .val (.int p1), .val (.int p2), .val (.long p3), .second, .val (.int p4), .val (.int v3), .val (.int v12), .val (.ref a9), .val (.int (((20 : Int32) + ((8 : Int32) * v3)) + v12))] [(.ref a9)])) (fun _ kk => XS.aload X44.here hx rfl (hb hby at_51) rfl rfl kk) ?_
  refine own_callV X44 hx hZ (y := (⟨"com/example/seqd/seqd/store/Frame", "size", "()I"⟩ : MethodName)) (b := a9) (as' := []) hown (own_w hw 31 rfl) (own_w hw 32 rfl) (own_w hw 34 rfl) (own_w hw 33 rfl) (own_w hw 35 rfl) (own_w hw 3 rfl) (by decide) (own_size l Z a0 hw [] a9 r14 r26 p0 v3 v12 T42.heap n0 O41 Ln46 Ln47) (O41).1 0 (by decide) (by decide) (by decide) (by decide) (rest := []) (by rw [hml]; rfl) (lenOf (by decide : parseMethodDescriptor "()I" = some ⟨[], some (.int)⟩) rfl) rfl (Nat.le_of_eq rfl) (hb hby at_53) rfl ?_
  intro T50 L51 v53 X52 hQ
  obtain ⟨rfl, rfl, eq48⟩ := hQ
  show own_Out _ _ _ _ (T50.setTop (mkF m 56 #[.val (.long p0), .second, .val (.int p1), .val (.int p2), .val (.long p3), .second, .val (.int p4), .val (.int v3), .val (.int v12), .val (.ref a9), .val (.int (((20 : Int32) + ((8 : Int32) * v3)) + v12))] [(.int (((20 : Int32) + ((8 : Int32) * v3)) + v12))]))
  have N49 := Fr.app N39 (Fr.nil n0)
  refine own_st (G := T50.setTop (mkF m 58 #[.val (.long p0), .second, .val (.int p1), .val (.int p2), .val (.long p3), .second, .val (.int p4), .val (.int v3), .val (.int v12), .val (.ref a9), .val (.int (((20 : Int32) + ((8 : Int32) * v3)) + v12))] [(.int (((20 : Int32) + ((8 : Int32) * v3)) + v12)), (.int (((20 : Int32) + ((8 : Int32) * v3)) + v12))])) (fun _ kk => XS.iload X52.here hx rfl (hb hby at_56) rfl kk) ?_
  have hk54 : ((((20 : Int32) + ((8 : Int32) * v3)) + v12) = (((20 : Int32) + ((8 : Int32) * v3)) + v12)) := rfl
  refine own_st (G := T50.setTop (mkF m 61 #[.val (.long p0), .second, .val (.int p1), .val (.int p2), .val (.long p3), .second, .val (.int p4), .val (.int v3), .val (.int v12), .val (.ref a9), .val (.int (((20 : Int32) + ((8 : Int32) * v3)) + v12))] [])) (fun _ kk => XS.icmpNo X52.here hx rfl (hb hby at_58) rfl (XT.ii_ne_f hk54) kk) ?_
  refine own_st (G := T50.setTop (mkF m 62 #[.val (.long p0), .second, .val (.int p1), .val (.int p2), .val (.long p3), .second, .val (.int p4), .val (.int v3), .val (.int v12), .val (.ref a9), .val (.int (((20 : Int32) + ((8 : Int32) * v3)) + v12))] [(.int (1 : Int32))])) (fun _ kk => XT.iconstV X52.here hx rfl (1 : Int32) (hb hby at_61) (by decide) kk) ?_
  refine own_st (G := T50.setTop (mkF m 66 #[.val (.long p0), .second, .val (.int p1), .val (.int p2), .val (.long p3), .second, .val (.int p4), .val (.int v3), .val (.int v12), .val (.ref a9), .val (.int (((20 : Int32) + ((8 : Int32) * v3)) + v12))] [(.int (1 : Int32))])) (fun _ kk => XS.goto X52.here hx rfl (pc0 := 62) (pc' := 66) rfl (hb hby at_62) (by decide) (by decide) kk) ?_
  refine own_retB X52 hx hret (by simp) hlk (hb hby at_66) (by decide) (by decide) ?_
  rw [eq48]
  exact ⟨rfl, N49⟩
set_option maxRecDepth 65536 in
set_option maxHeartbeats 40000000 in
theorem comes_1 {Post : Tables → Env → Array Value → State → Outcome → State → Prop} (hpost : ∀ tb e args s v u, (limb_1_1.after args s (.returned v) u = true ∧ limb_1_2.after args s (.returned v) u = true ∧ True) → FrameEnd s (.returned v) u (Jvm.fieldLocs frame_1_writes args s ++ Jvm.arrayLocs frame_1_arrays args s ++ Jvm.staticLocs frame_1_statics s) 16 128 → Post tb e args s (.returned v) u) :
    ArmFor flags0 classFile x code maxLocals ret World_1 tables_1 room_1 Calls_1 rest_1 Pre_1 Post := by
  intro l hfl _ _ p e ha hc hk s m args below hf hA hF happ hP
  obtain ⟨hcalls, hrest, hpre⟩ := hP
  obtain ⟨-, -, -, hnamed, -, -, -, hat⟩ := (Spec.applies_iff hf).mp happ
  obtain ⟨hg, hn⟩ := and_e (Cond.before_iff.mp (show (Jvm.Cond.and given_1 narrow_1).before args s = true from hpre))
  obtain ⟨hct, hk0⟩ := and_e hg
  obtain ⟨ha0, hk1⟩ := and_e hk0
  obtain ⟨ha1, hk2⟩ := and_e hk1
  obtain ⟨ha2, hk3⟩ := and_e hk2
  obtain ⟨ha3, hk4⟩ := and_e hk3
  have ha4 := hk4
  obtain ⟨w0, w1, w2, w3, w4, rfl⟩ : ∃ w0 w1 w2 w3 w4 : Value, args = #[w0, w1, w2, w3, w4] := by
    have hs : args.size = 5 := by simpa [Cond.value, given_1] using hct
    obtain ⟨L⟩ := args
    match L, hs with
    | [w0, w1, w2, w3, w4], _ => exact ⟨w0, w1, w2, w3, w4, rfl⟩
  have hw := fun d (hd : d ∈ tables_1) => atoms_spec (ws := Jvm.Cond.code x code maxLocals ret :: tables_1) hat d (List.mem_cons_of_mem _ hd)
  obtain ⟨i0, e0⟩ := isL_v ha0
  obtain rfl : w0 = (.long i0) := Option.some.inj e0
  obtain ⟨i1, e1⟩ := is_v ha1
  obtain rfl : w1 = (.int i1) := Option.some.inj e1
  obtain ⟨i2, e2⟩ := is_v ha2
  obtain rfl : w2 = (.int i2) := Option.some.inj e2
  obtain ⟨i3, e3⟩ := isL_v ha3
  obtain rfl : w3 = (.long i3) := Option.some.inj e3
  obtain ⟨i4, e4⟩ := is_v ha4
  obtain rfl : w4 = (.int i4) := Option.some.inj e4
  obtain ⟨n, o, h1, h2, h3, _, L, rfl, ⟨rfl, N⟩, hq⟩ := own_law l s _ hw tables_1 i0 i1 i2 i3 i4 s.heap s.heap.size (Nat.le_refl _) p e ha hc hk s m _ below hf ((Spec.applies_iff_loose hf).mp happ).1 ⟨rfl, State.Warmed39.refl s, rfl⟩ trivial
  refine ⟨n, _, h1, h2, h3, hpost _ _ _ _ _ _ ⟨Cond.after_iff.mpr rfl, Cond.after_iff.mpr (eq_i res_at (Term.int_eval (1)) rfl), trivial⟩ ⟨hq.1, hq.2.1, (hq.2.2.sift fun y hy => Or.inr (N y hy)).mono (by decide) (by decide)⟩⟩
theorem main_1_1 : Claimed_1_1 := comes_1 fun _ _ _ _ _ _ h hF => ⟨h.1, hF⟩
theorem main_1_2 : Claimed_1_2 := comes_1 fun _ _ _ _ _ _ h hF => ⟨h.2.1, hF⟩
end Jvm.Pilot.@@N@@
namespace Jvm.Pilot.@@N@@
open Jvm Jvm.ClassFile Sem Op Lib Jvm.Free Jvm.Stand Jvm.Pilot.@@N@@.Jvm.D
/-! MADE BY PROGRAM (witnessworld.py) out of the Statement's table words and the real class files: 12 classes; the members and pool entries that the words name. The judged class is class 1, her method 3. -/
namespace start1
open Jvm.ClassFile
def u (s : String) : CpInfo := .utf8 (stringToUtf16 s)
/-- a pool by its gaps: so many unusable entries, then the entry; so many at the end -/
def gap : Nat → List CpInfo → List CpInfo
  | 0, r => r
  | n + 1, r => .unusable :: gap n r
def poolList (es : List (Nat × CpInfo)) (last : Nat) : List CpInfo := es.foldr (fun e r => gap e.1 (e.2 :: r)) (gap last [])
def pool (es : List (Nat × CpInfo)) (last : Nat) : Array CpInfo := ⟨poolList es last⟩
def fileOf (pool : Array CpInfo) (this : Nat) (attrs : Array Attribute := #[]) (ms : Array MethodInfo := #[]) (fl : Nat := 33) (sup : Nat := 0) (ifs : Array Nat := #[]) (fds : Array FieldInfo := #[]) : ClassFile where
  minorVersion := 0
  majorVersion := 65
  constantPool := pool
  accessFlags := fl
  thisClass := this
  superClass := sup
  interfaces := ifs
  fields := fds
  methods := ms
  attributes := attrs
def plain (name : String) (sup : Option ClassId) : Class where
  name := name
  kind := .ordinary
  loader := none
  accessFlags := 33
  super := sup
  interfaces := #[]
  cf := none
  fields := #[]
  methods := #[]
  instanceTypes := #[]
  staticTypes := #[]
  resolved := #[]
  callSites := []
  init := .initialized
  statics := none
  mirror := none

def pool0 : Array CpInfo := pool [(5, u "<init>"), (0, u "()V"), (1, .class_ 10), (1, u "java/lang/Object")] 113

def k0c0 : Code := { maxStack := 0, maxLocals := 1, code := object_method_1_code, exceptionTable := #[], attributes := #[] }
def k0m0 : Method := { name := "<init>", desc := "()V", sig := { parameters := [], returnType := none }, accessFlags := 1, code := some k0c0 }
/-- java/lang/Object -/
def k0 : Class := { plain "java/lang/Object" none with
  accessFlags := 33
  interfaces := #[]
  cf := some (fileOf pool0 8 #[] #[{ accessFlags := 1, nameIndex := 5, descriptorIndex := 6, attributes := #[] }] 33 0 #[] #[])
  fields := #[]
  methods := #[k0m0]
  instanceTypes := #[]
  staticTypes := #[]
  resolved := Array.replicate 124 none
  statics := none }

def pool1 : Array CpInfo := pool [(2, .class_ 4), (1, u "java/lang/Object"), (0, u "<init>"), (0, u "()V"), (0, .long 18446744073709551615), (1, .integer 2147483647), (0, .class_ 11), (0, u "com/example/seqd/seqd/store/Frame"), (0, .methodref 13 14), (0, .class_ 15), (0, .nameAndType 16 17), (0, u "com/example/seqd/seqd/store/FrameSizePinLaw"), (0, u "longs"), (0, u "(IJ)[J"), (0, .methodref 13 19), (0, .nameAndType 20 21), (0, u "bytes"), (0, u "(II)[B"), (0, .methodref 10 23), (0, .nameAndType 5 24), (0, u "(J[J[B)V"), (0, .methodref 10 26), (0, .nameAndType 27 28), (0, u "size"), (0, u "()I"), (3, u "law"), (0, u "(JIIJI)Z")] 2

def k1m0 : Method := { name := "<init>", desc := "()V", sig := { parameters := [], returnType := none }, accessFlags := 2, code := none }
def k1c1 : Code := { maxStack := 7, maxLocals := 3, code := method_2_code, exceptionTable := #[], attributes := #[] }
def k1m1 : Method := { name := "longs", desc := "(IJ)[J", sig := { parameters := [.int, .long], returnType := some (.array .long) }, accessFlags := 10, code := some k1c1 }
def k1c2 : Code := { maxStack := 4, maxLocals := 4, code := method_3_code, exceptionTable := #[], attributes := #[] }
def k1m2 : Method := { name := "bytes", desc := "(II)[B", sig := { parameters := [.int, .int], returnType := some (.array .byte) }, accessFlags := 10, code := some k1c2 }
def k1c3 : Code := { maxStack := 7, maxLocals := 11, code := code, exceptionTable := #[], attributes := #[] }
def k1m3 : Method := { name := "law", desc := "(JIIJI)Z", sig := { parameters := [.long, .int, .int, .long, .int], returnType := some .boolean }, accessFlags := 9, code := some k1c3 }
/-- com/example/seqd/seqd/store/FrameSizePinLaw -/
def k1 : Class := { plain "com/example/seqd/seqd/store/FrameSizePinLaw" (some 0) with
  accessFlags := 49
  interfaces := #[]
  cf := some (fileOf pool1 13 #[] #[{ accessFlags := 2, nameIndex := 5, descriptorIndex := 6, attributes := #[] }, { accessFlags := 10, nameIndex := 16, descriptorIndex := 17, attributes := #[] }, { accessFlags := 10, nameIndex := 20, descriptorIndex := 21, attributes := #[] }, { accessFlags := 9, nameIndex := 32, descriptorIndex := 33, attributes := #[] }] 49 2 #[] #[])
  fields := #[]
  methods := #[k1m0, k1m1, k1m2, k1m3]
  instanceTypes := #[]
  staticTypes := #[]
  resolved := Array.replicate 36 none
  statics := none }

def pool2 : Array CpInfo := pool [(1, .methodref 2 3), (0, .class_ 4), (0, .nameAndType 5 6), (0, u "java/lang/Object"), (0, u "<init>"), (0, u "()V"), (0, .class_ 8), (0, u "java/lang/Record")] 13

def k2c0 : Code := { maxStack := 1, maxLocals := 1, code := jdk_30_method_1_code, exceptionTable := #[], attributes := #[] }
def k2m0 : Method := { name := "<init>", desc := "()V", sig := { parameters := [], returnType := none }, accessFlags := 4, code := some k2c0 }
/-- java/lang/Record -/
def k2 : Class := { plain "java/lang/Record" (some 0) with
  accessFlags := 1057
  interfaces := #[]
  cf := some (fileOf pool2 7 #[] #[{ accessFlags := 4, nameIndex := 5, descriptorIndex := 6, attributes := #[] }] 1057 2 #[] #[])
  fields := #[]
  methods := #[k2m0]
  instanceTypes := #[]
  staticTypes := #[]
  resolved := Array.replicate 22 none
  statics := none }

def pool3 : Array CpInfo := pool [(5, .methodref 6 7), (0, .class_ 8), (0, .nameAndType 9 10), (0, u "java/lang/Record"), (0, u "<init>"), (0, u "()V"), (0, .fieldref 12 13), (0, .class_ 14), (0, .nameAndType 15 16), (0, u "com/example/seqd/seqd/store/Frame"), (0, u "id"), (0, u "J"), (0, .fieldref 12 18), (0, .nameAndType 19 20), (0, u "ended"), (0, u "[J"), (0, .fieldref 12 22), (0, .nameAndType 23 24), (0, u "data"), (0, u "[B"), (15, u "(J[J[B)V"), (7, u "()I"), (2, u "size"), (66, u "PREFIX_SIZE"), (0, u "I"), (2, u "BODY_HEADER_SIZE")] 42

def k3c0 : Code := { maxStack := 3, maxLocals := 5, code := prog_20_method_1_code, exceptionTable := #[], attributes := #[] }
def k3m0 : Method := { name := "<init>", desc := "(J[J[B)V", sig := { parameters := [.long, (.array .long), (.array .byte)], returnType := none }, accessFlags := 0, code := some k3c0 }
def k3c1 : Code := { maxStack := 3, maxLocals := 1, code := prog_20_method_4_code, exceptionTable := #[], attributes := #[] }
def k3m1 : Method := { name := "size", desc := "()I", sig := { parameters := [], returnType := some .int }, accessFlags := 0, code := some k3c1 }
/-- com/example/seqd/seqd/store/Frame -/
def k3 : Class := { plain "com/example/seqd/seqd/store/Frame" (some 2) with
  accessFlags := 48
  interfaces := #[]
  cf := some (fileOf pool3 12 #[] #[{ accessFlags := 0, nameIndex := 9, descriptorIndex := 40, attributes := #[] }, { accessFlags := 0, nameIndex := 51, descriptorIndex := 48, attributes := #[] }] 48 6 #[] #[{ accessFlags := 18, nameIndex := 15, descriptorIndex := 16, attributes := #[] }, { accessFlags := 18, nameIndex := 19, descriptorIndex := 20, attributes := #[] }, { accessFlags := 18, nameIndex := 23, descriptorIndex := 24, attributes := #[] }, { accessFlags := 24, nameIndex := 118, descriptorIndex := 119, attributes := #[] }, { accessFlags := 26, nameIndex := 122, descriptorIndex := 119, attributes := #[] }])
  fields := #[{ name := "id", type := .long, accessFlags := 18, slot := 0, constantValue := 0 }, { name := "ended", type := (.array .long), accessFlags := 18, slot := 1, constantValue := 0 }, { name := "data", type := (.array .byte), accessFlags := 18, slot := 2, constantValue := 0 }, { name := "PREFIX_SIZE", type := .int, accessFlags := 24, slot := 0, constantValue := 0 }, { name := "BODY_HEADER_SIZE", type := .int, accessFlags := 26, slot := 1, constantValue := 0 }]
  methods := #[k3m0, k3m1]
  instanceTypes := #[.long, (.array .long), (.array .byte)]
  staticTypes := #[.int, .int]
  resolved := Array.replicate 165 none
  statics := none }

def pool4 : Array CpInfo := pool [(1, u "java/lang/Cloneable"), (0, .class_ 1), (0, u "java/lang/Object"), (0, .class_ 3)] 3

/-- java/lang/Cloneable -/
def k4 : Class := { plain "java/lang/Cloneable" (some 0) with
  accessFlags := 1537
  interfaces := #[]
  cf := some (fileOf pool4 2 #[] #[] 1537 4 #[] #[])
  fields := #[]
  methods := #[]
  instanceTypes := #[]
  staticTypes := #[]
  resolved := Array.replicate 8 none
  statics := none }

def pool5 : Array CpInfo := pool [(1, u "java/io/Serializable"), (0, .class_ 1), (0, u "java/lang/Object"), (0, .class_ 3)] 3

/-- java/io/Serializable -/
def k5 : Class := { plain "java/io/Serializable" (some 0) with
  accessFlags := 1537
  interfaces := #[]
  cf := some (fileOf pool5 2 #[] #[] 1537 4 #[] #[])
  fields := #[]
  methods := #[]
  instanceTypes := #[]
  staticTypes := #[]
  resolved := Array.replicate 8 none
  statics := none }

/-- the primitive byte -/
def k6 : Class := { plain "byte" none with kind := .primitive 'B', accessFlags := 0x411 }
/-- [B -/
def k7 : Class := { plain "[B" (some 0) with kind := .array 6 .byte, interfaces := #[4, 5], accessFlags := 1041 }

/-- the primitive int -/
def k8 : Class := { plain "int" none with kind := .primitive 'I', accessFlags := 0x411 }
/-- [I -/
def k9 : Class := { plain "[I" (some 0) with kind := .array 8 .int, interfaces := #[4, 5], accessFlags := 1041 }

/-- the primitive long -/
def k10 : Class := { plain "long" none with kind := .primitive 'J', accessFlags := 0x411 }
/-- [J -/
def k11 : Class := { plain "[J" (some 0) with kind := .array 10 .long, interfaces := #[4, 5], accessFlags := 1041 }

def heap : Heap := #[]
def classes : Array Class := #[k0, k1, k2, k3, k4, k5, k6, k7, k8, k9, k10, k11]
def interned : List (Array UInt16 × Addr) := []
def slotsUsed : Nat := 0
def theMethod : MethodId := ⟨1, 3⟩
def args0 : Array Value := #[.long 5, .int 6, .int 7, .long 8, .int 1]
def aboutOver (below : List Frame) : State where
  vm := { classes := classes, interned := interned.toArray }
  heap := heap
  slotsUsed := slotsUsed
  threads := #[{ frames := .invoking theMethod args0 :: below }]
def below0 : List Frame := [.native { method := ⟨0, 0⟩, args := #[] }]
def about1 : State := aboutOver below0
def p0 : Program := .bare "" "" ""
def e0 : Env := launch0.env 0 0 0
theorem w_frames : about1.frames = Frame.invoking theMethod args0 :: below0 := rfl
set_option maxRecDepth 65536 in
theorem w_args : argsFit about1.vm theMethod args0 = true := by decide +kernel
set_option maxRecDepth 65536 in
theorem w_heap : heapFits about1 = true := by decide +kernel
set_option maxRecDepth 65536 in
theorem w_runnable : about1.curStatus? = some .runnable := by decide +kernel
set_option maxRecDepth 65536 in
theorem w_alone : about1.alone = true := by decide +kernel
set_option maxRecDepth 65536 in
theorem w_named : about1.methodNamed? x = some theMethod := by decide +kernel
set_option maxRecDepth 65536 in
theorem w_hears : about1.hears theMethod below0 = true := by decide +kernel
set_option maxRecDepth 65536 in
theorem w_ripe : about1.ripe theMethod args0 below0 = true := by decide +kernel
theorem w_running : about1.status = .running := rfl
set_option maxRecDepth 65536 in
theorem w_room : about1.hasRoom e0.platform room_1 = true :=
  launch0.hasRoom_least _ room_1 (by decide +kernel) (by decide +kernel) (by decide +kernel) (by decide +kernel) (by decide +kernel) (by decide +kernel)
theorem allAtoms_all (ts : List Jvm.Cond) (a : Array Jvm.Value) (st : Jvm.State) : (allAtoms ts).before a st = ts.all (fun c => c.before a st) := by
  induction ts with
  | nil => rfl
  | cons c t ih =>
    show (Jvm.Cond.and c (allAtoms t)).before a st = _
    rw [Jvm.Cond.before_and, ih, List.all_cons]
def words1 : List Jvm.Cond := Jvm.Cond.code x code maxLocals ret :: tables_1
/-- a 'code' word, met by the world's own term for the bytes: nothing is compared byte by byte -/
theorem code_word {y : MethodName} {bytes : ByteArray} {mx : Nat} {rt : Option FieldType} {a : Array Value} {s : State} {m : MethodId} {meth : Method} {c : Code} (h1 : s.methodNamed? y = some m) (h2 : s.vm.method? m = some meth) (h3 : meth.code = some c) (h4 : c.code = bytes)
    (h5 : (c.maxLocals == mx && c.exceptionTable.isEmpty && decide (c.maxStack ≤ mostOperands) && decide (meth.sig.returnType = rt) && !meth.locks && decide (parseMethodDescriptor y.desc = some meth.sig)) = true) : (Jvm.Cond.code y bytes mx rt).before a s = true := by
  simp only [Bool.and_eq_true, beq_iff_eq, Bool.not_eq_true', decide_eq_true_eq] at h5
  obtain ⟨⟨⟨⟨⟨g1, g2⟩, g3⟩, g4⟩, g5⟩, g6⟩ := h5
  simp [Cond.before, Cond.holds, Cond.value, h1, h2, h3, h4, g1, g2, g3, g4, g5, g6]
def isCode : Jvm.Cond → Bool
  | .code _ _ _ _ => true
  | _ => false
theorem all_split {L : List Jvm.Cond} {P : Jvm.Cond → Bool} (h1 : L.all (fun c => isCode c || P c) = true) (h2 : ∀ c ∈ L.filter isCode, P c = true) : L.all P = true := by
  refine List.all_eq_true.mpr fun c hc => ?_
  have h := List.all_eq_true.mp h1 c hc
  rcases Bool.eq_false_or_eq_true (isCode c) with hi | hi
  · exact h2 c (List.mem_filter.mpr ⟨hc, hi⟩)
  · simpa [hi] using h
set_option maxRecDepth 65536 in
theorem w_c0 : (Jvm.Cond.code x code maxLocals ret).before args0 about1 = true := code_word (m := ⟨1, 3⟩) (meth := k1m3) (c := k1c3) (by decide +kernel) rfl rfl rfl (by decide +kernel)
set_option maxRecDepth 65536 in
theorem w_c1 : (Jvm.Cond.code ({ cls := "com/example/seqd/seqd/store/FrameSizePinLaw", name := "longs", desc := "(IJ)[J" } : Jvm.MethodName) method_2_code (3 : Nat) (Option.some (Jvm.ClassFile.FieldType.array Jvm.ClassFile.FieldType.long))).before args0 about1 = true := code_word (m := ⟨1, 1⟩) (meth := k1m1) (c := k1c1) (by decide +kernel) rfl rfl rfl (by decide +kernel)
set_option maxRecDepth 65536 in
theorem w_c2 : (Jvm.Cond.code ({ cls := "com/example/seqd/seqd/store/FrameSizePinLaw", name := "bytes", desc := "(II)[B" } : Jvm.MethodName) method_3_code (4 : Nat) (Option.some (Jvm.ClassFile.FieldType.array Jvm.ClassFile.FieldType.byte))).before args0 about1 = true := code_word (m := ⟨1, 2⟩) (meth := k1m2) (c := k1c2) (by decide +kernel) rfl rfl rfl (by decide +kernel)
set_option maxRecDepth 65536 in
theorem w_c3 : (Jvm.Cond.code ({ cls := "com/example/seqd/seqd/store/Frame", name := "<init>", desc := "(J[J[B)V" } : Jvm.MethodName) prog_20_method_1_code (5 : Nat) (Option.none : Option Jvm.ClassFile.FieldType)).before args0 about1 = true := code_word (m := ⟨3, 0⟩) (meth := k3m0) (c := k3c0) (by decide +kernel) rfl rfl rfl (by decide +kernel)
set_option maxRecDepth 65536 in
theorem w_c4 : (Jvm.Cond.code ({ cls := "java/lang/Record", name := "<init>", desc := "()V" } : Jvm.MethodName) jdk_30_method_1_code (1 : Nat) (Option.none : Option Jvm.ClassFile.FieldType)).before args0 about1 = true := code_word (m := ⟨2, 0⟩) (meth := k2m0) (c := k2c0) (by decide +kernel) rfl rfl rfl (by decide +kernel)
set_option maxRecDepth 65536 in
theorem w_c5 : (Jvm.Cond.code ({ cls := "java/lang/Object", name := "<init>", desc := "()V" } : Jvm.MethodName) object_method_1_code (1 : Nat) (Option.none : Option Jvm.ClassFile.FieldType)).before args0 about1 = true := code_word (m := ⟨0, 0⟩) (meth := k0m0) (c := k0c0) (by decide +kernel) rfl rfl rfl (by decide +kernel)
set_option maxRecDepth 65536 in
theorem w_c6 : (Jvm.Cond.code ({ cls := "com/example/seqd/seqd/store/Frame", name := "size", desc := "()I" } : Jvm.MethodName) prog_20_method_4_code (1 : Nat) (Option.some Jvm.ClassFile.FieldType.int)).before args0 about1 = true := code_word (m := ⟨3, 1⟩) (meth := k3m1) (c := k3c1) (by decide +kernel) rfl rfl rfl (by decide +kernel)
def codes1 : List Jvm.Cond := [Jvm.Cond.code x code maxLocals ret, Jvm.Cond.code ({ cls := "com/example/seqd/seqd/store/FrameSizePinLaw", name := "longs", desc := "(IJ)[J" } : Jvm.MethodName) method_2_code (3 : Nat) (Option.some (Jvm.ClassFile.FieldType.array Jvm.ClassFile.FieldType.long)), Jvm.Cond.code ({ cls := "com/example/seqd/seqd/store/FrameSizePinLaw", name := "bytes", desc := "(II)[B" } : Jvm.MethodName) method_3_code (4 : Nat) (Option.some (Jvm.ClassFile.FieldType.array Jvm.ClassFile.FieldType.byte)), Jvm.Cond.code ({ cls := "com/example/seqd/seqd/store/Frame", name := "<init>", desc := "(J[J[B)V" } : Jvm.MethodName) prog_20_method_1_code (5 : Nat) (Option.none : Option Jvm.ClassFile.FieldType), Jvm.Cond.code ({ cls := "java/lang/Record", name := "<init>", desc := "()V" } : Jvm.MethodName) jdk_30_method_1_code (1 : Nat) (Option.none : Option Jvm.ClassFile.FieldType), Jvm.Cond.code ({ cls := "java/lang/Object", name := "<init>", desc := "()V" } : Jvm.MethodName) object_method_1_code (1 : Nat) (Option.none : Option Jvm.ClassFile.FieldType), Jvm.Cond.code ({ cls := "com/example/seqd/seqd/store/Frame", name := "size", desc := "()I" } : Jvm.MethodName) prog_20_method_4_code (1 : Nat) (Option.some Jvm.ClassFile.FieldType.int)]
set_option maxRecDepth 65536 in
theorem codes_eq : words1.filter isCode = codes1 := rfl
theorem w_codes : ∀ c ∈ words1.filter isCode, c.before args0 about1 = true := by
  rw [codes_eq]
  intro c hc
  simp only [codes1, List.mem_cons, List.not_mem_nil, or_false] at hc
  rcases hc with rfl | rfl | rfl | rfl | rfl | rfl | rfl
  · exact w_c0
  · exact w_c1
  · exact w_c2
  · exact w_c3
  · exact w_c4
  · exact w_c5
  · exact w_c6
set_option maxRecDepth 65536 in
theorem w_t1 : (words1.take 24).all (fun c => isCode c || c.before args0 about1) = true := by decide +kernel
set_option maxRecDepth 65536 in
theorem w_t2 : (words1.drop 24).all (fun c => isCode c || c.before args0 about1) = true := by decide +kernel
theorem w_tables : (allAtoms (Jvm.Cond.code x code maxLocals ret :: tables_1)).before args0 about1 = true := by
  rw [allAtoms_all]
  show words1.all (fun c => c.before args0 about1) = true
  refine all_split ?_ w_codes
  rw [← List.take_append_drop 24 words1, List.all_append, w_t1, w_t2]
  rfl
set_option maxRecDepth 65536 in
theorem w_case : (Jvm.Cond.and given_1 narrow_1).before args0 about1 = true := by decide +kernel
theorem w_applies : (headSpec (Jvm.Cond.code x code maxLocals ret :: tables_1) room_1).applies x e0.platform about1 = true :=
  (Spec.applies_iff w_frames).mpr ⟨w_running, w_runnable, w_alone, w_named, w_hears, w_ripe, w_room, w_tables⟩
theorem atStart : AtStart classFile x code maxLocals ret World_1 tables_1 room_1 Calls_1 rest_1 Pre_1 launch0 p0 e0 about1 theMethod args0 below0 :=
  ⟨lists_1, trivial, launch0.admits_env _ _ _, launch0.least_env, fairChoices_fair.cas, fairChoices_fair.clock, w_frames, w_args, w_heap, w_applies, trivial, trivial, w_case⟩
end start1
theorem witness_1 : WitnessClaimed_1 := ⟨start1.p0, start1.e0, start1.about1, start1.theMethod, start1.args0, start1.below0, start1.atStart⟩
end Jvm.Pilot.@@N@@
