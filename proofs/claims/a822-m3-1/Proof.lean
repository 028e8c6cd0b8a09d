import JvmDerived
import JvmDerived.Pilot.@@N@@Statement
import JvmDerived.Pilot.@@N@@Code
set_option linter.unusedVariables false
set_option linter.unusedSimpArgs false
@@BLOCK:NumsL.lean.txt@@
namespace Jvm.RoadKit
open Sem ClassFile Op Lib Jvm.Stand Jvm.Free Jvm.LawKit
section Own
variable {p : Program} {l : Launch} {e : Env} {R : Room} {s : State} {m : MethodId} {args : Array Value} {below : List Frame} {meth : Method} {c : Code} {T : State} {locs : List Loc} {cells slots : Nat} {Z : State} {a0 : Array Value} {h : Heap}
/-- from the state F the walked method comes to its end, and Q holds there -/
def own_Out (p : Program) (e : Env) (below : List Frame) (Q : Outcome → State → Prop) (F : State) : Prop :=
  ∃ s₂ o, Steps p.tables e below F s₂ ∧ s₂.status = .running ∧ Ended s₂ below o ∧ Q o s₂
/-- what a contract says of the end, out of a statement on the value, the heap and the written places -/
def own_Q (Q : Option Value → Heap → List Loc → Prop) (s : State) (k n : Nat) : Outcome → State → Prop :=
  fun o U => ∃ v L, o = .returned v ∧ Q v U.heap L ∧ FrameEnd s o U L k n
theorem own_st {Q : Outcome → State → Prop} {F G : State} (h : ∀ t, Steps p.tables e below G t → Steps p.tables e below F t) (k : own_Out p e below Q G) : own_Out p e below Q F := by
  obtain ⟨s2, o, h1, h2⟩ := k
  exact ⟨s2, o, h _ h1, h2⟩
theorem own_tr {Q : Outcome → State → Prop} {F G : State} (h : Steps p.tables e below F G) (k : own_Out p e below Q G) : own_Out p e below Q F :=
  own_st (fun _ q => h.trans q) k
theorem own_retB (X : Stand p l e R s m args below meth c T locs cells slots) (hx : p.tables.exec = Jvm.exec) {Q : Option Value → Heap → List Loc → Prop} {k n : Nat} {pc : Nat} {Ls : Array Slot} {z : Int32} {t : FieldType} {rest : List Value}
    (hret : meth.sig.returnType = some t) (ht : t = .boolean ∨ t = .byte ∨ t = .char ∨ t = .short) (hlk : meth.locks = false) (hd : decode c.code pc = .ok (.ireturn, 1)) (hc : cells ≤ k) (hs : slots ≤ n)
    (hq : Q (some (.int (nar t z))) T.heap locs) : own_Out p e below (own_Q Q s k n) (T.setTop (mkF m pc Ls (.int z :: rest))) := by
  obtain ⟨fs, hr, hrun, hended, hW, hsame⟩ := X.leave (v := some (.int (nar t z))) (fun h => by rw [hret] at h; cases h) hlk
  exact ⟨_, _, retN X hx (t := t) hret ht hd hr, hrun, hended, _, _, rfl, hq, ⟨_, rfl⟩, hW, hsame.mono hc hs⟩
theorem own_retV (X : Stand p l e R s m args below meth c T locs cells slots) (hx : p.tables.exec = Jvm.exec) {Q : Option Value → Heap → List Loc → Prop} {k n : Nat} {pc : Nat} {Ls : Array Slot} {w : Value} {t : FieldType} {i : Instr} {rest : List Value}
    (hret : meth.sig.returnType = some t) (hn : narrow t w = w)
    (hi : (i = .ireturn ∧ (t = .int ∨ t = .boolean ∨ t = .byte ∨ t = .char ∨ t = .short) ∧ ∃ z, w = .int z) ∨ (i = .lreturn ∧ t = .long ∧ ∃ z, w = .long z) ∨ (i = .dreturn ∧ t = .double ∧ ∃ z, w = .double z) ∨ (i = .freturn ∧ t = .float ∧ ∃ z, w = .float z) ∨ (i = .areturn ∧ t.isReference = true ∧ w.isRef = true))
    (hlk : meth.locks = false) (hd : decode c.code pc = .ok (i, 1)) (hc : cells ≤ k) (hs : slots ≤ n)
    (hq : Q (some w) T.heap locs) : own_Out p e below (own_Q Q s k n) (T.setTop (mkF m pc Ls (w :: rest))) := by
  obtain ⟨fs, hr, hrun, hended, hW, hsame⟩ := X.leave (v := some w) (fun h => by rw [hret] at h; cases h) hlk
  exact ⟨_, _, retOut X hx hret hn hi hd hr, hrun, hended, _, _, rfl, hq, ⟨_, rfl⟩, hW, hsame.mono hc hs⟩
theorem own_retI (X : Stand p l e R s m args below meth c T locs cells slots) (hx : p.tables.exec = Jvm.exec) {Q : Option Value → Heap → List Loc → Prop} {k n : Nat} {pc : Nat} {Ls : Array Slot} {z : Int32} {rest : List Value}
    (hret : meth.sig.returnType = some .int) (hlk : meth.locks = false) (hd : decode c.code pc = .ok (.ireturn, 1)) (hc : cells ≤ k) (hs : slots ≤ n)
    (hq : Q (some (.int z)) T.heap locs) : own_Out p e below (own_Q Q s k n) (T.setTop (mkF m pc Ls (.int z :: rest))) :=
  own_retV X hx hret rfl (Or.inl ⟨rfl, Or.inl rfl, _, rfl⟩) hlk hd hc hs hq
theorem own_retJ (X : Stand p l e R s m args below meth c T locs cells slots) (hx : p.tables.exec = Jvm.exec) {Q : Option Value → Heap → List Loc → Prop} {k n : Nat} {pc : Nat} {Ls : Array Slot} {z : Int64} {rest : List Value}
    (hret : meth.sig.returnType = some .long) (hlk : meth.locks = false) (hd : decode c.code pc = .ok (.lreturn, 1)) (hc : cells ≤ k) (hs : slots ≤ n)
    (hq : Q (some (.long z)) T.heap locs) : own_Out p e below (own_Q Q s k n) (T.setTop (mkF m pc Ls (.long z :: rest))) :=
  own_retV X hx hret rfl (Or.inr (Or.inl ⟨rfl, rfl, _, rfl⟩)) hlk hd hc hs hq
theorem own_retA (X : Stand p l e R s m args below meth c T locs cells slots) (hx : p.tables.exec = Jvm.exec) {Q : Option Value → Heap → List Loc → Prop} {k n : Nat} {pc : Nat} {Ls : Array Slot} {w : Value} {t : FieldType} {rest : List Value}
    (hret : meth.sig.returnType = some t) (ht : t.isReference = true) (hw : w.isRef = true) (hlk : meth.locks = false) (hd : decode c.code pc = .ok (.areturn, 1)) (hc : cells ≤ k) (hs : slots ≤ n)
    (hq : Q (some w) T.heap locs) : own_Out p e below (own_Q Q s k n) (T.setTop (mkF m pc Ls (w :: rest))) :=
  own_retV X hx hret (by cases t <;> first | (cases ht; done) | rfl | (cases w <;> rfl)) (Or.inr (Or.inr (Or.inr (Or.inr ⟨rfl, ht, hw⟩)))) hlk hd hc hs hq
theorem own_ret0 (X : Stand p l e R s m args below meth c T locs cells slots) (hx : p.tables.exec = Jvm.exec) {Q : Option Value → Heap → List Loc → Prop} {k n : Nat} {pc : Nat} {Ls : Array Slot}
    (hret : meth.sig.returnType = none) (hlk : meth.locks = false) (hd : decode c.code pc = .ok (.return_, 1)) (hc : cells ≤ k) (hs : slots ≤ n)
    (hq : Q none T.heap locs) : own_Out p e below (own_Q Q s k n) (T.setTop (mkF m pc Ls [])) := by
  obtain ⟨fs, hr, hrun, hended, hW, hsame⟩ := X.leave (v := none) (fun _ => rfl) hlk
  exact ⟨_, _, X.returnOut hx hret hd hr, hrun, hended, _, _, rfl, hq, ⟨_, rfl⟩, hW, hsame.mono hc hs⟩
/-- the head of every body's walk -/
theorem own_body {x : MethodName} {code : ByteArray} {maxL : Nat} {ret : Option FieldType} {ws : List Jvm.Cond} {rm : Room} {as' : Array Value} {Q : Option Value → Heap → List Loc → Prop} (hpn : plainFor x = true) (Lf : Array Slot)
    (hent : ∀ m, entryFrame m as' maxL = mkF m 0 Lf [])
    (body : ∀ p e s m below meth c T, Stand p l e rm s m as' below meth c T [] 0 0 → p.tables.exec = Jvm.exec → c.code = code → c.maxLocals = maxL → meth.sig.returnType = ret → meth.locks = false →
      s.vm.findClass x.cls = some m.cls → meth.name = x.name → Z.Warmed39 s.vm → T.heap = h → own_Out p e below (own_Q Q s rm.cells rm.slots) (T.setTop (mkF m 0 Lf []))) :
    MetFree l x (head1 (Jvm.Cond.code x code maxL ret :: ws) rm) (fun a U => a = as' ∧ Z.Warmed39 U.vm ∧ U.heap = h) (fun _ _ _ _ _ => True)
      (fun _ U o U' => ∃ v L, o = .returned v ∧ Q v U'.heap L ∧ FrameEnd U o U' L rm.cells rm.slots) := by
  refine MetFree.of_bodySF hpn hisR ?_
  intro p e s m args below meth c s₁ Bd hml0 hP hK
  obtain ⟨rfl, hZ, hh⟩ := hP
  have e0 : s₁.heap = h := by rw [← hh, Bd.state]; rfl
  obtain ⟨s2, o, h1, h2⟩ := body p e s m below meth c s₁ (Stand.of_body Bd) Bd.exec Bd.bytes hml0 Bd.returns (BodyLoose.notSynchronized Bd) (findClass_of_methodNamed Bd.named) (name_of_methodNamed Bd.named Bd.method).1 hZ e0
  exact ⟨s2, o, castTop (hent m) h1, h2⟩
/-- a static call by the callee's own contract -/
theorem own_callS (X : Stand p l e R s m args below meth c T locs cells slots) (hx : p.tables.exec = Jvm.exec) (hZ : Z.Warmed39 s.vm) {own : String} {index : Nat} {y : MethodName} {bytes : ByteArray} {maxL : Nat} {ret : Option FieldType} {rm : Room} {as' : List Value} {Q : Option Value → Heap → List Loc → Prop} {Qf : Outcome → State → Prop}
    (hown : s.vm.findClass own = some m.cls) (w1 : (Jvm.Cond.methodLink own index y).before a0 Z = true) (w2 : (Jvm.Cond.static y).before a0 Z = true) (w3 : (Jvm.Cond.initialized y.cls).before a0 Z = true) (w4 : (Jvm.Cond.code y bytes maxL ret).before a0 Z = true)
    (hy : y.cls ≠ "java/lang/invoke/MethodHandle" ∧ y.cls ≠ "java/lang/invoke/VarHandle")
    (hM : MetFree l y (head1 [Jvm.Cond.code y bytes maxL ret] rm) (fun a U => a = as'.toArray ∧ Z.Warmed39 U.vm ∧ U.heap = h) (fun _ _ _ _ _ => True) (fun _ U o U' => ∃ v L, o = .returned v ∧ Q v U'.heap L ∧ FrameEnd U o U' L rm.cells rm.slots))
    (W : Nat) (hf : rm.frames + 1 ≤ R.frames) (hl : W + (maxL + 11) + rm.locals ≤ R.locals) (hc : cells + rm.cells ≤ R.cells) (hs : slots + rm.slots ≤ R.slots)
    {pc : Nat} {Ls : Array Slot} {stk rest : List Value} (hsize : Ls.size = c.maxLocals) (hlen : ∀ sig, parseMethodDescriptor y.desc = some sig → as'.length = sig.parameters.length) (hstack : stk = as'.reverse ++ rest) (hW : (rest.map fun v => v.category).sum ≤ W) (hd : decode c.code pc = .ok (.invokestatic index, 3)) (eT : T.heap = h)
    (k : ∀ T' L v, Stand p l e R s m args below meth c T' (locs ++ L) (cells + rm.cells) (slots + rm.slots) → Q v T'.heap L → own_Out p e below Qf (T'.setTop (mkF m (pc + 3) Ls (v.toList ++ rest)))) :
    own_Out p e below Qf (T.setTop (mkF m pc Ls stk)) := by
  obtain ⟨v, _, ⟨T', L', k', n'⟩, -, X', ⟨Lc, hQ, hl', hy', hz'⟩, st⟩ := Jvm.LawKit.callS X hx (y := y) hown (mvT hZ w1) (mvT hZ w2) (mvT hZ w3) (mvT hZ w4) hy (backOf (W := W) hM hZ w4 w3 hf hl) (g := mkF m pc Ls stk) rfl hsize (argsL := as') (rest := rest) hlen hstack (by show 2 * 0 + _ ≤ _; omega) hd (fun _ _ => ⟨rfl, eT, hc, hs⟩)
  dsimp only [Pt.U, Pt.locs, Pt.cells, Pt.slots] at X' hl' hy' hz' st hQ
  subst hl' hy' hz'
  exact own_st st (k _ _ _ X' hQ)
/-- an instance method by its own contract -/
theorem own_callV (X : Stand p l e R s m args below meth c T locs cells slots) (hx : p.tables.exec = Jvm.exec) (hZ : Z.Warmed39 s.vm) {own C : String} {index : Nat} {y : MethodName} {bytes : ByteArray} {maxL : Nat} {ret : Option FieldType} {rm : Room} {b : Addr} {as' : List Value} {Q : Option Value → Heap → List Loc → Prop} {Qf : Outcome → State → Prop}
    (hown : s.vm.findClass own = some m.cls) (w1 : (Jvm.Cond.methodLink own index y).before a0 Z = true) (w2 : (Jvm.Cond.declares y).before a0 Z = true) (w5 : (Jvm.Cond.selects C y y).before a0 Z = true) (w6 : (Jvm.Cond.instanceMethod y).before a0 Z = true) (w4 : (Jvm.Cond.code y bytes maxL ret).before a0 Z = true) (w3 : (Jvm.Cond.initialized y.cls).before a0 Z = true)
    (hy : y.cls ≠ "java/lang/invoke/MethodHandle" ∧ y.cls ≠ "java/lang/invoke/VarHandle")
    (hM : MetFree l y (head1 [Jvm.Cond.code y bytes maxL ret] rm) (fun a U => a = (.ref b :: as').toArray ∧ Z.Warmed39 U.vm ∧ U.heap = h) (fun _ _ _ _ _ => True) (fun _ U o U' => ∃ v L, o = .returned v ∧ Q v U'.heap L ∧ FrameEnd U o U' L rm.cells rm.slots))
    (E : Exa Z h b C)
    (W : Nat) (hf : rm.frames + 1 ≤ R.frames) (hl : W + (maxL + 11) + rm.locals ≤ R.locals) (hc : cells + rm.cells ≤ R.cells) (hs : slots + rm.slots ≤ R.slots)
    {pc : Nat} {Ls : Array Slot} {stk rest : List Value} (hsize : Ls.size = c.maxLocals) (hlen : ∀ sig, parseMethodDescriptor y.desc = some sig → as'.length = sig.parameters.length) (hstack : stk = as'.reverse ++ .ref b :: rest) (hW : (rest.map fun v => v.category).sum ≤ W) (hd : decode c.code pc = .ok (.invokevirtual index, 3)) (eT : T.heap = h)
    (k : ∀ T' L v, Stand p l e R s m args below meth c T' (locs ++ L) (cells + rm.cells) (slots + rm.slots) → Q v T'.heap L → own_Out p e below Qf (T'.setTop (mkF m (pc + 3) Ls (v.toList ++ rest)))) :
    own_Out p e below Qf (T.setTop (mkF m pc Ls stk)) := by
  obtain ⟨cq, kq, qa, qb, qc⟩ := isOf hZ eT E
  obtain ⟨v, _, ⟨T', L', k', n'⟩, -, X', ⟨Lc, hQ, hl', hy', hz'⟩, st⟩ := X.virtualBack hx (y := y) (z := y) hown (mvT hZ w1) (mvT hZ w2) (notFace_of_selects (args := #[]) (mvT hZ w5)) (mvT hZ w5) (mvT hZ w6) hy (backOf (W := W) hM hZ w4 w3 hf hl) qa qc (g := mkF m pc Ls stk) rfl hsize (Steps.refl _) (argsL := as') (rest := rest) hlen hstack (by show 2 * 0 + _ ≤ _; omega) hd (fun _ _ => ⟨rfl, eT, hc, hs⟩)
  dsimp only [Pt.U, Pt.locs, Pt.cells, Pt.slots] at X' hl' hy' hz' st hQ
  subst hl' hy' hz'
  exact own_tr st (k _ _ _ X' hQ)
/-- a constructor by its own contract -/
theorem own_callI (X : Stand p l e R s m args below meth c T locs cells slots) (hx : p.tables.exec = Jvm.exec) (hZ : Z.Warmed39 s.vm) {own : String} {index : Nat} {y : MethodName} {bytes : ByteArray} {maxL : Nat} {rm : Room} {b : Addr} {as' : List Value} {Q : Option Value → Heap → List Loc → Prop} {Qf : Outcome → State → Prop} (hy1 : y.name = "<init>")
    (hown : s.vm.findClass own = some m.cls) (w1 : (Jvm.Cond.methodLink own index y).before a0 Z = true) (w6 : (Jvm.Cond.instanceMethod y).before a0 Z = true) (w4 : (Jvm.Cond.code y bytes maxL none).before a0 Z = true) (w3 : (Jvm.Cond.initialized y.cls).before a0 Z = true)
    (hy : y.cls ≠ "java/lang/invoke/MethodHandle" ∧ y.cls ≠ "java/lang/invoke/VarHandle")
    (hM : MetFree l y (head1 [Jvm.Cond.code y bytes maxL none] rm) (fun a U => a = (.ref b :: as').toArray ∧ Z.Warmed39 U.vm ∧ U.heap = h) (fun _ _ _ _ _ => True) (fun _ U o U' => ∃ v L, o = .returned v ∧ Q v U'.heap L ∧ FrameEnd U o U' L rm.cells rm.slots))
    (W : Nat) (hf : rm.frames + 1 ≤ R.frames) (hl : W + (maxL + 11) + rm.locals ≤ R.locals) (hc : cells + rm.cells ≤ R.cells) (hs : slots + rm.slots ≤ R.slots)
    {pc : Nat} {Ls : Array Slot} {stk rest : List Value} (hsize : Ls.size = c.maxLocals) (hlen : ∀ sig, parseMethodDescriptor y.desc = some sig → as'.length = sig.parameters.length) (hstack : stk = as'.reverse ++ .ref b :: rest) (hW : (rest.map fun v => v.category).sum ≤ W) (hd : decode c.code pc = .ok (.invokespecial index, 3)) (eT : T.heap = h)
    (k : ∀ T' L v, Stand p l e R s m args below meth c T' (locs ++ L) (cells + rm.cells) (slots + rm.slots) → Q v T'.heap L → own_Out p e below Qf (T'.setTop (mkF m (pc + 3) Ls (v.toList ++ rest)))) :
    own_Out p e below Qf (T.setTop (mkF m pc Ls stk)) := by
  obtain ⟨v, _, ⟨T', L', k', n'⟩, -, X', ⟨Lc, hQ, hl', hy', hz'⟩, st⟩ := X.specialBack hx (y := y) hy1 hown (mvT hZ w1) (mvT hZ w6) (mvT hZ w4) hy (backOf (W := W) hM hZ w4 w3 hf hl) (g := mkF m pc Ls stk) rfl hsize (Steps.refl _) (a := b) (argsL := as') (rest := rest) hlen hstack (by show 2 * 0 + _ ≤ _; omega) hd (fun _ _ => ⟨rfl, eT, hc, hs⟩)
  dsimp only [Pt.U, Pt.locs, Pt.cells, Pt.slots] at X' hl' hy' hz' st hQ
  subst hl' hy' hz'
  exact own_tr st (k _ _ _ X' hQ)
theorem own_fits {C : String} {v : Value} (h : v.isRef = true) : fits (.object C) v = true := by cases v <;> first | rfl | cases h
theorem own_narO {C : String} {v : Value} (h : v.isRef = true) : narrow (.object C) v = v := by cases v <;> first | rfl | cases h
theorem own_nf {y y' : MethodName} (hc : y'.cls = y.cls) (h : NotFace s y) (hi : (Jvm.Cond.instanceMethod y).before a0 s = true) : NotFace s y' := fun r0 h0 => by
  obtain ⟨mk, methM, hnamed, -⟩ := Cond.instanceMethod_spec hi
  have h1 := findClass_of_methodNamed hnamed
  have h2 := findClass_of_methodNamed h0
  rw [hc, h1] at h2
  have h3 := Option.some.inj h2
  rw [← h3]
  exact h mk hnamed
/-- a private method (invokevirtual) by its own contract -/
theorem own_callP (X : Stand p l e R s m args below meth c T locs cells slots) (hx : p.tables.exec = Jvm.exec) (hZ : Z.Warmed39 s.vm) {own C : String} {index : Nat} {y : MethodName} {bytes : ByteArray} {maxL : Nat} {ret : Option FieldType} {rm : Room} {b : Addr} {as' : List Value} {Q : Option Value → Heap → List Loc → Prop} {Qf : Outcome → State → Prop}
    (hown : s.vm.findClass own = some m.cls) (w1 : (Jvm.Cond.methodLink own index y).before a0 Z = true) (w6 : (Jvm.Cond.instanceMethod y).before a0 Z = true) (w8 : (Jvm.Cond.privateMethod y).before a0 Z = true) (w4 : (Jvm.Cond.code y bytes maxL ret).before a0 Z = true) (w3 : (Jvm.Cond.initialized y.cls).before a0 Z = true) (hnf : NotFace s y)
    (hy : y.cls ≠ "java/lang/invoke/MethodHandle" ∧ y.cls ≠ "java/lang/invoke/VarHandle")
    (hM : MetFree l y (head1 [Jvm.Cond.code y bytes maxL ret] rm) (fun a U => a = (.ref b :: as').toArray ∧ Z.Warmed39 U.vm ∧ U.heap = h) (fun _ _ _ _ _ => True) (fun _ U o U' => ∃ v L, o = .returned v ∧ Q v U'.heap L ∧ FrameEnd U o U' L rm.cells rm.slots))
    (E : Exa Z h b C)
    (W : Nat) (hf : rm.frames + 1 ≤ R.frames) (hl : W + (maxL + 11) + rm.locals ≤ R.locals) (hc : cells + rm.cells ≤ R.cells) (hs : slots + rm.slots ≤ R.slots)
    {pc : Nat} {Ls : Array Slot} {stk rest : List Value} (hsize : Ls.size = c.maxLocals) (hlen : ∀ sig, parseMethodDescriptor y.desc = some sig → as'.length = sig.parameters.length) (hstack : stk = as'.reverse ++ .ref b :: rest) (hW : (rest.map fun v => v.category).sum ≤ W) (hd : decode c.code pc = .ok (.invokevirtual index, 3)) (eT : T.heap = h)
    (k : ∀ T' L v, Stand p l e R s m args below meth c T' (locs ++ L) (cells + rm.cells) (slots + rm.slots) → Q v T'.heap L → own_Out p e below Qf (T'.setTop (mkF m (pc + 3) Ls (v.toList ++ rest)))) :
    own_Out p e below Qf (T.setTop (mkF m pc Ls stk)) := by
  obtain ⟨mk, methM, hnamed, hmethM, hstM, habM⟩ := Cond.instanceMethod_spec (mvT (args := args) hZ w6)
  obtain ⟨methM', cM, hmethM', -, -, -, -, -, -, hsigM⟩ := Cond.code_spec hnamed (mvT (args := args) hZ w4)
  cases hmethM.symm.trans hmethM'
  obtain ⟨kP, hkP, hkPi⟩ := hnf mk hnamed
  obtain ⟨cell, hcell, hobj⟩ := E.cell
  have hselP : selectMethod e.platform s.vm cell.cls mk = .method mk := selectMethod_private hmethM (Cond.privateMethod_at (mvP hZ w8 (args := #[])) mk methM hnamed hmethM)
  obtain ⟨vm₁, X₁, hstep₁⟩ := X.invokevirtual hx hown (mvT hZ w1) hnamed hmethM hstM hkP hkPi hy (a := b) (cell := cell) (by rw [eT]; exact hcell) hobj hselP hmethM habM hkP hkPi (g := mkF m pc Ls stk) rfl (argsL := as') (rest := rest) (hlen _ hsigM) hstack hd
  obtain ⟨v, ⟨T', L', k', n'⟩, X', ⟨Lc, hQ, hl', hy', hz'⟩, st⟩ := backOf (W := W) hM hZ w4 w3 hf hl m meth c ⟨T.setVm vm₁, locs, cells, slots⟩ { mkF m pc Ls stk with stack := rest } (.invokevirtual index) mk (.ref b :: as').toArray X₁ rfl hsize hd (by show 2 * 0 + (rest.map fun v => v.category).sum ≤ W; omega) (X₁.named hnamed) ⟨rfl, eT, hc, hs⟩
  dsimp only [Pt.U, Pt.locs, Pt.cells, Pt.slots] at X' hl' hy' hz' st hQ
  subst hl' hy' hz'
  exact own_st (fun target q => hstep₁ _ fun acts => by rw [doInvoke_state]; exact st.trans q) (k _ _ _ X' hQ)
end Own
end Jvm.RoadKit
namespace Jvm.RoadKit
open Sem ClassFile Op Lib Jvm.Stand Jvm.Free Jvm.LawKit
section OwnW
variable {p : Program} {l : Launch} {e : Env} {R : Room} {s : State} {m : MethodId} {args : Array Value} {below : List Frame} {meth : Method} {c : Code} {T : State} {locs : List Loc} {cells slots : Nat} {Z : State} {a0 : Array Value} {h : Heap}
/-- as own_Q, where a String constant may have come to be interned -/
def own_QW (Q : Option Value → Heap → List Loc → Prop) (s : State) (k n : Nat) : Outcome → State → Prop :=
  fun o U => ∃ v L, o = .returned v ∧ Q v U.heap L ∧ ((∃ w : Option Value, o = .returned w) ∧ s.Warmed39 U.vm ∧ s.Booked U.vm U.heap.size ∧ s.sameButNew ({ U with vm := s.vm } : State) L k n)
theorem own_retBW {vm1 : Vm} (X : Stand p l e R (s.setVm vm1) m args below meth c T locs cells slots) (hx : p.tables.exec = Jvm.exec) {n1 : Nat} (hS : s.Since vm1 n1) (hn : n1 ≤ T.heap.size) {Q : Option Value → Heap → List Loc → Prop} {k n : Nat} {pc : Nat} {Ls : Array Slot} {z : Int32} {t : FieldType} {rest : List Value}
    (hret : meth.sig.returnType = some t) (ht : t = .boolean ∨ t = .byte ∨ t = .char ∨ t = .short) (hlk : meth.locks = false) (hd : decode c.code pc = .ok (.ireturn, 1)) (hc : cells ≤ k) (hs : slots ≤ n)
    (hq : Q (some (.int (nar t z))) T.heap locs) : own_Out p e below (own_QW Q s k n) (T.setTop (mkF m pc Ls (.int z :: rest))) := by
  obtain ⟨fs, hr, hrun, hended, hv, hW, hB, hsame⟩ := X.leaveW hS hn (v := some (.int (nar t z))) (fun h => by rw [hret] at h; cases h) hlk
  exact ⟨_, _, retN X hx (t := t) hret ht hd hr, hrun, hended, _, _, rfl, hq, hv, hW, hB, hsame.mono hc hs⟩
/-- the head of a law's walk that loads a String constant: it starts at Z itself -/
theorem own_bodyW {x : MethodName} {code : ByteArray} {maxL : Nat} {ret : Option FieldType} {ws : List Jvm.Cond} {rm : Room} {as' : Array Value} {Q : Option Value → Heap → List Loc → Prop} (hpn : plainFor x = true) (Lf : Array Slot)
    (hent : ∀ m, entryFrame m as' maxL = mkF m 0 Lf [])
    (body : ∀ p e m below meth c T, Stand p l e rm Z m as' below meth c T [] 0 0 → p.tables.exec = Jvm.exec → c.code = code → c.maxLocals = maxL → meth.sig.returnType = ret → meth.locks = false →
      Z.vm.findClass x.cls = some m.cls → meth.name = x.name → Z.Warmed39 Z.vm → T.heap = Z.heap → own_Out p e below (own_QW Q Z rm.cells rm.slots) (T.setTop (mkF m 0 Lf []))) :
    MetFree l x (head1 (Jvm.Cond.code x code maxL ret :: ws) rm) (fun a U => a = as' ∧ U = Z) (fun _ _ _ _ _ => True)
      (fun _ U o U' => own_QW Q U rm.cells rm.slots o U') := by
  refine MetFree.of_bodySF hpn hisR ?_
  intro p e s m args below meth c s₁ Bd hml0 hP hK
  obtain ⟨rfl, rfl⟩ := hP
  have e0 : s₁.heap = s.heap := by rw [Bd.state]; rfl
  obtain ⟨s2, o, h1, h2⟩ := body p e m below meth c s₁ (Stand.of_body Bd) Bd.exec Bd.bytes hml0 Bd.returns (BodyLoose.notSynchronized Bd) (findClass_of_methodNamed Bd.named) (name_of_methodNamed Bd.named Bd.method).1 (State.Warmed39.refl s) e0
  exact ⟨s2, o, castTop (hent m) h1, h2⟩
end OwnW
end Jvm.RoadKit
namespace Jvm.Pilot.@@N@@
open Jvm Jvm.ClassFile Sem Op Lib Jvm.Free Jvm.Stand Jvm.LawKit Jvm.RoadKit Bundle Jvm.Pilot.@@N@@.Jvm.D
theorem own_w {Z : State} {a0 : Array Value} (hw : ∀ d ∈ tables_1, d.before a0 Z = true) {d : Jvm.Cond} (k : Nat) (h : tables_1[k]? = some d) : d.before a0 Z = true := hw _ (List.mem_of_getElem? h)
def own_isDg (q : Int32) : Int32 := (if q < (48 : Int32) then (0 : Int32) else (if (57 : Int32) < q then (0 : Int32) else (1 : Int32)))
theorem pn_own_rm0 : plainFor (⟨"com/example/finegrain/finegrain/formats/IsoTimes", "isDigit", "(C)Z"⟩ : MethodName) = true := by first | exact plainFor_of_name (by first | (simp [plainName, overriddenIn]; done) | decide +kernel) | decide +kernel
theorem down_rm0_0 : decode prog_61_method_10_code 0 = .ok (.iload_n 0, 1) := by decide +kernel
theorem down_rm0_1 : decode prog_61_method_10_code 1 = .ok (.bipush 48, 2) := by decide +kernel
theorem down_rm0_3 : decode prog_61_method_10_code 3 = .ok (.if_icmp .lt 13, 3) := by decide +kernel
theorem down_rm0_6 : decode prog_61_method_10_code 6 = .ok (.iload_n 0, 1) := by decide +kernel
theorem down_rm0_7 : decode prog_61_method_10_code 7 = .ok (.bipush 57, 2) := by decide +kernel
theorem down_rm0_9 : decode prog_61_method_10_code 9 = .ok (.if_icmp .gt 7, 3) := by decide +kernel
theorem down_rm0_12 : decode prog_61_method_10_code 12 = .ok (.iconst 1, 1) := by decide +kernel
theorem down_rm0_13 : decode prog_61_method_10_code 13 = .ok (.goto 4, 3) := by decide +kernel
theorem down_rm0_16 : decode prog_61_method_10_code 16 = .ok (.iconst 0, 1) := by decide +kernel
theorem down_rm0_17 : decode prog_61_method_10_code 17 = .ok (.ireturn, 1) := by decide +kernel
def Q_own_rm0 (Z : State) (q : Int32)  (h0 : Heap) (n0 : Nat) (v : Option Value) (h : Heap) (L : List Loc) : Prop := v = some (.int (own_isDg q)) ∧ L = [] ∧ h = h0
set_option maxRecDepth 65536 in
set_option maxHeartbeats 40000000 in
theorem own_rm0 (l : Launch) (Z : State) (a0 : Array Value) (hw : ∀ d ∈ tables_1, d.before a0 Z = true) (ws : List Jvm.Cond) (q : Int32)  (h0 : Heap) (n0 : Nat)  :
    MetFree l (⟨"com/example/finegrain/finegrain/formats/IsoTimes", "isDigit", "(C)Z"⟩ : MethodName) (head1 (Jvm.Cond.code (⟨"com/example/finegrain/finegrain/formats/IsoTimes", "isDigit", "(C)Z"⟩ : MethodName) prog_61_method_10_code 1 (some (.boolean)) :: ws) ({ frames := 0, cells := 0, slots := 0, locals := 0 } : Room)) (fun aa U => aa = #[(.int q)] ∧ Z.Warmed39 U.vm ∧ U.heap = h0) (fun _ _ _ _ _ => True) (fun _ U o U' => ∃ v L, o = .returned v ∧ Q_own_rm0 Z q h0 n0 v U'.heap L ∧ FrameEnd U o U' L ({ frames := 0, cells := 0, slots := 0, locals := 0 } : Room).cells ({ frames := 0, cells := 0, slots := 0, locals := 0 } : Room).slots) := by
  refine own_body (x := (⟨"com/example/finegrain/finegrain/formats/IsoTimes", "isDigit", "(C)Z"⟩ : MethodName)) (maxL := 1) (as' := #[(.int q)]) (Q := Q_own_rm0 Z q h0 n0) pn_own_rm0 #[.val (.int q)] (fun m => by first | (simp [entryFrame, mkF, argsToLocals, Value.category]; done) | rfl) ?_
  intro p e s m below meth c T0 X0 hx hby hml hret hlk hown hnm hZ e0
  replace hml : c.maxLocals = 1 := hml
  replace hown : s.vm.findClass "com/example/finegrain/finegrain/formats/IsoTimes" = some m.cls := hown
  have N0 := Fr.nil n0
  refine own_st (G := T0.setTop (mkF m 1 #[.val (.int q)] [(.int q)])) (fun _ kk => XS.iloadN X0.here hx rfl (hb hby down_rm0_0) rfl kk) ?_
  refine own_st (G := T0.setTop (mkF m 3 #[.val (.int q)] [(.int (48 : Int32)), (.int q)])) (fun _ kk => XT.bipushV X0.here hx rfl (48 : Int32) (hb hby down_rm0_1) (by decide) kk) ?_
  by_cases hc1 : q < (48 : Int32)
  · skip
    refine own_st (G := T0.setTop (mkF m 16 #[.val (.int q)] [])) (fun _ kk => XS.icmpYes X0.here hx rfl (pc0 := 3) (pc' := 16) rfl (hb hby down_rm0_3) rfl (XT.ii_lt_t hc1) (by decide) (by decide) kk) ?_
    refine own_st (G := T0.setTop (mkF m 17 #[.val (.int q)] [(.int (0 : Int32))])) (fun _ kk => XT.iconstV X0.here hx rfl (0 : Int32) (hb hby down_rm0_16) (by decide) kk) ?_
    refine own_retB X0 hx hret (by simp) hlk (hb hby down_rm0_17) (by decide) (by decide) ?_
    exact ⟨by (rw [show (own_isDg q) = (0 : Int32) from by unfold own_isDg; rw [if_pos hc1]]; first | done | rfl), rfl, e0⟩
  · skip
    refine own_st (G := T0.setTop (mkF m 6 #[.val (.int q)] [])) (fun _ kk => XS.icmpNo X0.here hx rfl (hb hby down_rm0_3) rfl (XT.ii_lt_f hc1) kk) ?_
    refine own_st (G := T0.setTop (mkF m 7 #[.val (.int q)] [(.int q)])) (fun _ kk => XS.iloadN X0.here hx rfl (hb hby down_rm0_6) rfl kk) ?_
    refine own_st (G := T0.setTop (mkF m 9 #[.val (.int q)] [(.int (57 : Int32)), (.int q)])) (fun _ kk => XT.bipushV X0.here hx rfl (57 : Int32) (hb hby down_rm0_7) (by decide) kk) ?_
    by_cases hc2 : (57 : Int32) < q
    · skip
      refine own_st (G := T0.setTop (mkF m 16 #[.val (.int q)] [])) (fun _ kk => XS.icmpYes X0.here hx rfl (pc0 := 9) (pc' := 16) rfl (hb hby down_rm0_9) rfl (XT.ii_gt_t hc2) (by decide) (by decide) kk) ?_
      refine own_st (G := T0.setTop (mkF m 17 #[.val (.int q)] [(.int (0 : Int32))])) (fun _ kk => XT.iconstV X0.here hx rfl (0 : Int32) (hb hby down_rm0_16) (by decide) kk) ?_
      refine own_retB X0 hx hret (by simp) hlk (hb hby down_rm0_17) (by decide) (by decide) ?_
      exact ⟨by (rw [show (own_isDg q) = (0 : Int32) from by unfold own_isDg; rw [if_neg hc1, if_pos hc2]]; first | done | rfl), rfl, e0⟩
    · skip
      refine own_st (G := T0.setTop (mkF m 12 #[.val (.int q)] [])) (fun _ kk => XS.icmpNo X0.here hx rfl (hb hby down_rm0_9) rfl (XT.ii_gt_f hc2) kk) ?_
      refine own_st (G := T0.setTop (mkF m 13 #[.val (.int q)] [(.int (1 : Int32))])) (fun _ kk => XT.iconstV X0.here hx rfl (1 : Int32) (hb hby down_rm0_12) (by decide) kk) ?_
      refine own_st (G := T0.setTop (mkF m 17 #[.val (.int q)] [(.int (1 : Int32))])) (fun _ kk => XS.goto X0.here hx rfl (pc0 := 13) (pc' := 17) rfl (hb hby down_rm0_13) (by decide) (by decide) kk) ?_
      refine own_retB X0 hx hret (by simp) hlk (hb hby down_rm0_17) (by decide) (by decide) ?_
      exact ⟨by (rw [show (own_isDg q) = (1 : Int32) from by unfold own_isDg; rw [if_neg hc1, if_neg hc2]]; first | done | rfl), rfl, e0⟩
theorem pn_own_rm1 : plainFor (⟨"jdk/internal/util/Preconditions", "checkIndex", "(IILjava/util/function/BiFunction;)I"⟩ : MethodName) = true := by first | exact plainFor_of_name (by first | (simp [plainName, overriddenIn]; done) | decide +kernel) | decide +kernel
theorem down_rm1_0 : decode jdk_41_method_11_code 0 = .ok (.iload_n 0, 1) := by decide +kernel
theorem down_rm1_1 : decode jdk_41_method_11_code 1 = .ok (.ifCond .lt 8, 3) := by decide +kernel
theorem down_rm1_4 : decode jdk_41_method_11_code 4 = .ok (.iload_n 0, 1) := by decide +kernel
theorem down_rm1_5 : decode jdk_41_method_11_code 5 = .ok (.iload_n 1, 1) := by decide +kernel
theorem down_rm1_6 : decode jdk_41_method_11_code 6 = .ok (.if_icmp .lt 10, 3) := by decide +kernel
theorem down_rm1_16 : decode jdk_41_method_11_code 16 = .ok (.iload_n 0, 1) := by decide +kernel
theorem down_rm1_17 : decode jdk_41_method_11_code 17 = .ok (.ireturn, 1) := by decide +kernel
def Q_own_rm1 (Z : State) (i : Int32) (n : Int32) (fv : Value) (h0 : Heap) (n0 : Nat) (v : Option Value) (h : Heap) (L : List Loc) : Prop := v = some (.int i) ∧ L = [] ∧ h = h0
set_option maxRecDepth 65536 in
set_option maxHeartbeats 40000000 in
theorem own_rm1 (l : Launch) (Z : State) (a0 : Array Value) (hw : ∀ d ∈ tables_1, d.before a0 Z = true) (ws : List Jvm.Cond) (i : Int32) (n : Int32) (fv : Value) (h0 : Heap) (n0 : Nat) (rf : fv.isRef = true) (h1 : ¬ i < (0 : Int32)) (h2 : i < n) :
    MetFree l (⟨"jdk/internal/util/Preconditions", "checkIndex", "(IILjava/util/function/BiFunction;)I"⟩ : MethodName) (head1 (Jvm.Cond.code (⟨"jdk/internal/util/Preconditions", "checkIndex", "(IILjava/util/function/BiFunction;)I"⟩ : MethodName) jdk_41_method_11_code 3 (some (.int)) :: ws) ({ frames := 0, cells := 0, slots := 0, locals := 0 } : Room)) (fun aa U => aa = #[(.int i), (.int n), fv] ∧ Z.Warmed39 U.vm ∧ U.heap = h0) (fun _ _ _ _ _ => True) (fun _ U o U' => ∃ v L, o = .returned v ∧ Q_own_rm1 Z i n fv h0 n0 v U'.heap L ∧ FrameEnd U o U' L ({ frames := 0, cells := 0, slots := 0, locals := 0 } : Room).cells ({ frames := 0, cells := 0, slots := 0, locals := 0 } : Room).slots) := by
  refine own_body (x := (⟨"jdk/internal/util/Preconditions", "checkIndex", "(IILjava/util/function/BiFunction;)I"⟩ : MethodName)) (maxL := 3) (as' := #[(.int i), (.int n), fv]) (Q := Q_own_rm1 Z i n fv h0 n0) pn_own_rm1 #[.val (.int i), .val (.int n), .val fv] (fun m => by rcases ref_cases rf with rfl | ⟨q, rfl⟩ <;> first | (simp [entryFrame, mkF, argsToLocals, Value.category]; done) | rfl) ?_
  intro p e s m below meth c T0 X0 hx hby hml hret hlk hown hnm hZ e0
  replace hml : c.maxLocals = 3 := hml
  replace hown : s.vm.findClass "jdk/internal/util/Preconditions" = some m.cls := hown
  have N0 := Fr.nil n0
  refine own_st (G := T0.setTop (mkF m 1 #[.val (.int i), .val (.int n), .val fv] [(.int i)])) (fun _ kk => XS.iloadN X0.here hx rfl (hb hby down_rm1_0) rfl kk) ?_
  have hk1 : ¬ (i < (0 : Int32)) := h1
  refine own_st (G := T0.setTop (mkF m 4 #[.val (.int i), .val (.int n), .val fv] [])) (fun _ kk => XS.ifNo X0.here hx rfl (hb hby down_rm1_1) rfl (XT.i0_lt_f hk1) kk) ?_
  refine own_st (G := T0.setTop (mkF m 5 #[.val (.int i), .val (.int n), .val fv] [(.int i)])) (fun _ kk => XS.iloadN X0.here hx rfl (hb hby down_rm1_4) rfl kk) ?_
  refine own_st (G := T0.setTop (mkF m 6 #[.val (.int i), .val (.int n), .val fv] [(.int n), (.int i)])) (fun _ kk => XS.iloadN X0.here hx rfl (hb hby down_rm1_5) rfl kk) ?_
  have hk2 : (i < n) := h2
  refine own_st (G := T0.setTop (mkF m 16 #[.val (.int i), .val (.int n), .val fv] [])) (fun _ kk => XS.icmpYes X0.here hx rfl (pc0 := 6) (pc' := 16) rfl (hb hby down_rm1_6) rfl (XT.ii_lt_t hk2) (by decide) (by decide) kk) ?_
  refine own_st (G := T0.setTop (mkF m 17 #[.val (.int i), .val (.int n), .val fv] [(.int i)])) (fun _ kk => XS.iloadN X0.here hx rfl (hb hby down_rm1_16) rfl kk) ?_
  refine own_retI X0 hx hret hlk (hb hby down_rm1_17) (by decide) (by decide) ?_
  exact ⟨rfl, rfl, e0⟩
theorem pn_own_rm2 : plainFor (⟨"java/lang/String", "checkIndex", "(II)V"⟩ : MethodName) = true := by first | exact plainFor_of_name (by first | (simp [plainName, overriddenIn]; done) | decide +kernel) | decide +kernel
theorem down_rm2_0 : decode jdk_42_method_155_code 0 = .ok (.iload_n 0, 1) := by decide +kernel
theorem down_rm2_1 : decode jdk_42_method_155_code 1 = .ok (.iload_n 1, 1) := by decide +kernel
theorem down_rm2_2 : decode jdk_42_method_155_code 2 = .ok (.getstatic 1053, 3) := by decide +kernel
theorem down_rm2_5 : decode jdk_42_method_155_code 5 = .ok (.invokestatic 1059, 3) := by decide +kernel
theorem down_rm2_8 : decode jdk_42_method_155_code 8 = .ok (.pop, 1) := by decide +kernel
theorem down_rm2_9 : decode jdk_42_method_155_code 9 = .ok (.return_, 1) := by decide +kernel
def Q_own_rm2 (Z : State) (i : Int32) (n : Int32) (fv : Value) (h0 : Heap) (n0 : Nat) (v : Option Value) (h : Heap) (L : List Loc) : Prop := v = none ∧ L = [] ∧ h = h0
set_option maxRecDepth 65536 in
set_option maxHeartbeats 40000000 in
theorem own_rm2 (l : Launch) (Z : State) (a0 : Array Value) (hw : ∀ d ∈ tables_1, d.before a0 Z = true) (ws : List Jvm.Cond) (i : Int32) (n : Int32) (fv : Value) (h0 : Heap) (n0 : Nat) (SF : Sta Z h0 "jdk/internal/util/Preconditions" "SIOOBE_FORMATTER" "Ljava/util/function/BiFunction;" fv) (rf : fv.isRef = true) (h1 : ¬ i < (0 : Int32)) (h2 : i < n) :
    MetFree l (⟨"java/lang/String", "checkIndex", "(II)V"⟩ : MethodName) (head1 (Jvm.Cond.code (⟨"java/lang/String", "checkIndex", "(II)V"⟩ : MethodName) jdk_42_method_155_code 2 none :: ws) ({ frames := 1, cells := 0, slots := 0, locals := 14 } : Room)) (fun aa U => aa = #[(.int i), (.int n)] ∧ Z.Warmed39 U.vm ∧ U.heap = h0) (fun _ _ _ _ _ => True) (fun _ U o U' => ∃ v L, o = .returned v ∧ Q_own_rm2 Z i n fv h0 n0 v U'.heap L ∧ FrameEnd U o U' L ({ frames := 1, cells := 0, slots := 0, locals := 14 } : Room).cells ({ frames := 1, cells := 0, slots := 0, locals := 14 } : Room).slots) := by
  refine own_body (x := (⟨"java/lang/String", "checkIndex", "(II)V"⟩ : MethodName)) (maxL := 2) (as' := #[(.int i), (.int n)]) (Q := Q_own_rm2 Z i n fv h0 n0) pn_own_rm2 #[.val (.int i), .val (.int n)] (fun m => by first | (simp [entryFrame, mkF, argsToLocals, Value.category]; done) | rfl) ?_
  intro p e s m below meth c T0 X0 hx hby hml hret hlk hown hnm hZ e0
  replace hml : c.maxLocals = 2 := hml
  replace hown : s.vm.findClass "java/lang/String" = some m.cls := hown
  have N0 := Fr.nil n0
  refine own_st (G := T0.setTop (mkF m 1 #[.val (.int i), .val (.int n)] [(.int i)])) (fun _ kk => XS.iloadN X0.here hx rfl (hb hby down_rm2_0) rfl kk) ?_
  refine own_st (G := T0.setTop (mkF m 2 #[.val (.int i), .val (.int n)] [(.int n), (.int i)])) (fun _ kk => XS.iloadN X0.here hx rfl (hb hby down_rm2_1) rfl kk) ?_
  obtain ⟨T1, X2, e3, st4⟩ := getS (host := "") X0 hx hZ hown (own_w hw 29 rfl) Via.refl e0 SF (g := (mkF m 2 #[.val (.int i), .val (.int n)] [(.int n), (.int i)])) rfl (hb hby down_rm2_2)
  refine own_st st4 ?_
  show own_Out _ _ _ _ (T1.setTop (mkF m 5 #[.val (.int i), .val (.int n)] [fv, (.int n), (.int i)]))
  refine own_callS X2 hx hZ (y := (⟨"jdk/internal/util/Preconditions", "checkIndex", "(IILjava/util/function/BiFunction;)I"⟩ : MethodName)) (as' := [(.int i), (.int n), fv]) hown (own_w hw 31 rfl) (own_w hw 32 rfl) (own_w hw 30 rfl) (own_w hw 33 rfl) (by decide) (own_rm1 l Z a0 hw [] i n fv h0 n0 rf h1 h2) 0 (by decide) (by decide) (by decide) (by decide) (rest := []) (by rw [hml]; rfl) (lenOf (by decide : parseMethodDescriptor "(IILjava/util/function/BiFunction;)I" = some ⟨[.int, .int, .object "java/util/function/BiFunction"], some (.int)⟩) rfl) rfl (Nat.le_of_eq rfl) (hb hby down_rm2_5) e3 ?_
  intro T7 L8 v10 X9 hQ
  obtain ⟨rfl, rfl, eq5⟩ := hQ
  show own_Out _ _ _ _ (T7.setTop (mkF m 8 #[.val (.int i), .val (.int n)] [(.int i)]))
  have N6 := Fr.app N0 (Fr.nil n0)
  refine own_st (G := T7.setTop (mkF m 9 #[.val (.int i), .val (.int n)] [])) (fun _ kk => XS.pop X9.here hx rfl (hb hby down_rm2_8) rfl rfl kk) ?_
  refine own_ret0 X9 hx hret hlk (hb hby down_rm2_9) (by decide) (by decide) ?_
  exact ⟨rfl, rfl, eq5⟩
theorem pn_own_rm3 : plainFor (⟨"java/lang/StringLatin1", "charAt", "([BI)C"⟩ : MethodName) = true := by first | exact plainFor_of_name (by first | (simp [plainName, overriddenIn]; done) | decide +kernel) | decide +kernel
theorem down_rm3_0 : decode jdk_43_method_2_code 0 = .ok (.iload_n 1, 1) := by decide +kernel
theorem down_rm3_1 : decode jdk_43_method_2_code 1 = .ok (.aload_n 0, 1) := by decide +kernel
theorem down_rm3_2 : decode jdk_43_method_2_code 2 = .ok (.arraylength, 1) := by decide +kernel
theorem down_rm3_3 : decode jdk_43_method_2_code 3 = .ok (.invokestatic 9, 3) := by decide +kernel
theorem down_rm3_6 : decode jdk_43_method_2_code 6 = .ok (.aload_n 0, 1) := by decide +kernel
theorem down_rm3_7 : decode jdk_43_method_2_code 7 = .ok (.iload_n 1, 1) := by decide +kernel
theorem down_rm3_8 : decode jdk_43_method_2_code 8 = .ok (.baload, 1) := by decide +kernel
theorem down_rm3_9 : decode jdk_43_method_2_code 9 = .ok (.sipush 255, 3) := by decide +kernel
theorem down_rm3_12 : decode jdk_43_method_2_code 12 = .ok (.iand, 1) := by decide +kernel
theorem down_rm3_13 : decode jdk_43_method_2_code 13 = .ok (.i2c, 1) := by decide +kernel
theorem down_rm3_14 : decode jdk_43_method_2_code 14 = .ok (.ireturn, 1) := by decide +kernel
def Q_own_rm3 (Z : State) (i : Int32) (b : Addr) (n x : Int32) (c0 : Cell) (fv : Value) (h0 : Heap) (n0 : Nat) (v : Option Value) (h : Heap) (L : List Loc) : Prop := v = some (.int (nar .char ((x &&& (255 : Int32)).toUInt32.toUInt16.toUInt32.toInt32))) ∧ L = [] ∧ h = h0
set_option maxRecDepth 65536 in
set_option maxHeartbeats 40000000 in
theorem own_rm3 (l : Launch) (Z : State) (a0 : Array Value) (hw : ∀ d ∈ tables_1, d.before a0 Z = true) (ws : List Jvm.Cond) (i : Int32) (b : Addr) (n x : Int32) (c0 : Cell) (fv : Value) (h0 : Heap) (n0 : Nat) (A : Arr Z h0 b c0 .byte) (hs : c0.slots.size.toInt32 = n) (hin : ¬ (i < 0 ∨ c0.slots.size ≤ i.toNatClampNeg)) (hat : c0.slots[i.toNatClampNeg]? = some (.int x)) (SF : Sta Z h0 "jdk/internal/util/Preconditions" "SIOOBE_FORMATTER" "Ljava/util/function/BiFunction;" fv) (rf : fv.isRef = true) (h1 : ¬ i < (0 : Int32)) (h2 : i < n) :
    MetFree l (⟨"java/lang/StringLatin1", "charAt", "([BI)C"⟩ : MethodName) (head1 (Jvm.Cond.code (⟨"java/lang/StringLatin1", "charAt", "([BI)C"⟩ : MethodName) jdk_43_method_2_code 2 (some (.char)) :: ws) ({ frames := 2, cells := 0, slots := 0, locals := 27 } : Room)) (fun aa U => aa = #[(.ref b), (.int i)] ∧ Z.Warmed39 U.vm ∧ U.heap = h0) (fun _ _ _ _ _ => True) (fun _ U o U' => ∃ v L, o = .returned v ∧ Q_own_rm3 Z i b n x c0 fv h0 n0 v U'.heap L ∧ FrameEnd U o U' L ({ frames := 2, cells := 0, slots := 0, locals := 27 } : Room).cells ({ frames := 2, cells := 0, slots := 0, locals := 27 } : Room).slots) := by
  refine own_body (x := (⟨"java/lang/StringLatin1", "charAt", "([BI)C"⟩ : MethodName)) (maxL := 2) (as' := #[(.ref b), (.int i)]) (Q := Q_own_rm3 Z i b n x c0 fv h0 n0) pn_own_rm3 #[.val (.ref b), .val (.int i)] (fun m => by first | (simp [entryFrame, mkF, argsToLocals, Value.category]; done) | rfl) ?_
  intro p e s m below meth c T0 X0 hx hby hml hret hlk hown hnm hZ e0
  replace hml : c.maxLocals = 2 := hml
  replace hown : s.vm.findClass "java/lang/StringLatin1" = some m.cls := hown
  have N0 := Fr.nil n0
  refine own_st (G := T0.setTop (mkF m 1 #[.val (.ref b), .val (.int i)] [(.int i)])) (fun _ kk => XS.iloadN X0.here hx rfl (hb hby down_rm3_0) rfl kk) ?_
  refine own_st (G := T0.setTop (mkF m 2 #[.val (.ref b), .val (.int i)] [(.ref b), (.int i)])) (fun _ kk => XS.aloadN X0.here hx rfl (hb hby down_rm3_1) rfl rfl kk) ?_
  refine own_st (G := T0.setTop (mkF m 3 #[.val (.ref b), .val (.int i)] [(.int n), (.int i)])) (fun _ kk => X0.arraylength hx (by rw [e0]; exact A.1) (State.isArrayOf_alike hZ.alike A.2.1) (g := (mkF m 2 #[.val (.ref b), .val (.int i)] [(.ref b), (.int i)])) rfl rfl (hb hby down_rm3_2) _ (by rw [hs]; exact kk)) ?_
  refine own_callS X0 hx hZ (y := (⟨"java/lang/String", "checkIndex", "(II)V"⟩ : MethodName)) (as' := [(.int i), (.int n)]) hown (own_w hw 26 rfl) (own_w hw 27 rfl) (own_w hw 2 rfl) (own_w hw 28 rfl) (by decide) (own_rm2 l Z a0 hw [] i n fv h0 n0 SF rf h1 h2) 0 (by decide) (by decide) (by decide) (by decide) (rest := []) (by rw [hml]; rfl) (lenOf (by decide : parseMethodDescriptor "(II)V" = some ⟨[.int, .int], none⟩) rfl) rfl (Nat.le_of_eq rfl) (hb hby down_rm3_3) e0 ?_
  intro T3 L4 v6 X5 hQ
  obtain ⟨rfl, rfl, eq1⟩ := hQ
  show own_Out _ _ _ _ (T3.setTop (mkF m 6 #[.val (.ref b), .val (.int i)] []))
  have N2 := Fr.app N0 (Fr.nil n0)
  refine own_st (G := T3.setTop (mkF m 7 #[.val (.ref b), .val (.int i)] [(.ref b)])) (fun _ kk => XS.aloadN X5.here hx rfl (hb hby down_rm3_6) rfl rfl kk) ?_
  refine own_st (G := T3.setTop (mkF m 8 #[.val (.ref b), .val (.int i)] [(.int i), (.ref b)])) (fun _ kk => XS.iloadN X5.here hx rfl (hb hby down_rm3_7) rfl kk) ?_
  refine own_st (G := T3.setTop (mkF m 9 #[.val (.ref b), .val (.int i)] [(.int x)])) (fun _ kk => X5.baloadBytes hx (by rw [eq1]; exact A.1) (State.isArrayOf_alike hZ.alike A.2.1) A.2.2 hin hat (g := (mkF m 8 #[.val (.ref b), .val (.int i)] [(.int i), (.ref b)])) rfl rfl (hb hby down_rm3_8) _ kk) ?_
  refine own_st (G := T3.setTop (mkF m 12 #[.val (.ref b), .val (.int i)] [(.int (255 : Int32)), (.int x)])) (fun _ kk => XT.sipushV X5.here hx rfl (255 : Int32) (hb hby down_rm3_9) (by decide) kk) ?_
  refine own_st (G := T3.setTop (mkF m 13 #[.val (.ref b), .val (.int i)] [(.int (x &&& (255 : Int32)))])) (fun _ kk => XS.iand X5.here hx rfl (hb hby down_rm3_12) rfl kk) ?_
  refine own_st (G := T3.setTop (mkF m 14 #[.val (.ref b), .val (.int i)] [(.int (x &&& (255 : Int32)).toUInt32.toUInt16.toUInt32.toInt32)])) (fun _ kk => XS.i2c X5.here hx rfl (hb hby down_rm3_13) rfl kk) ?_
  refine own_retB X5 hx hret (by simp) hlk (hb hby down_rm3_14) (by decide) (by decide) ?_
  exact ⟨rfl, rfl, eq1⟩
theorem pn_own_rm4 : plainFor (⟨"java/lang/String", "isLatin1", "()Z"⟩ : MethodName) = true := by first | exact plainFor_of_name (by first | (simp [plainName, overriddenIn]; done) | decide +kernel) | decide +kernel
theorem down_rm4_0 : decode jdk_42_method_154_code 0 = .ok (.getstatic 38, 3) := by decide +kernel
theorem down_rm4_3 : decode jdk_42_method_154_code 3 = .ok (.ifCond .eq 14, 3) := by decide +kernel
theorem down_rm4_6 : decode jdk_42_method_154_code 6 = .ok (.aload_n 0, 1) := by decide +kernel
theorem down_rm4_7 : decode jdk_42_method_154_code 7 = .ok (.getfield 15, 3) := by decide +kernel
theorem down_rm4_10 : decode jdk_42_method_154_code 10 = .ok (.ifCond .ne 7, 3) := by decide +kernel
theorem down_rm4_13 : decode jdk_42_method_154_code 13 = .ok (.iconst 1, 1) := by decide +kernel
theorem down_rm4_14 : decode jdk_42_method_154_code 14 = .ok (.goto 4, 3) := by decide +kernel
theorem down_rm4_18 : decode jdk_42_method_154_code 18 = .ok (.ireturn, 1) := by decide +kernel
def Q_own_rm4 (Z : State)  (a : Addr) (cs : Int32) (h0 : Heap) (n0 : Nat) (v : Option Value) (h : Heap) (L : List Loc) : Prop := v = some (.int 1) ∧ L = [] ∧ h = h0
set_option maxRecDepth 65536 in
set_option maxHeartbeats 40000000 in
theorem own_rm4 (l : Launch) (Z : State) (a0 : Array Value) (hw : ∀ d ∈ tables_1, d.before a0 Z = true) (ws : List Jvm.Cond)  (a : Addr) (cs : Int32) (h0 : Heap) (n0 : Nat) (CS : Sta Z h0 "java/lang/String" "COMPACT_STRINGS" "Z" (.int cs)) (hc : ¬ cs = (0 : Int32)) (FC : Fld Z h0 a "java/lang/String" "coder" "B" (.int 0)) :
    MetFree l (⟨"java/lang/String", "isLatin1", "()Z"⟩ : MethodName) (head1 (Jvm.Cond.code (⟨"java/lang/String", "isLatin1", "()Z"⟩ : MethodName) jdk_42_method_154_code 1 (some (.boolean)) :: ws) ({ frames := 0, cells := 0, slots := 0, locals := 0 } : Room)) (fun aa U => aa = #[(.ref a)] ∧ Z.Warmed39 U.vm ∧ U.heap = h0) (fun _ _ _ _ _ => True) (fun _ U o U' => ∃ v L, o = .returned v ∧ Q_own_rm4 Z a cs h0 n0 v U'.heap L ∧ FrameEnd U o U' L ({ frames := 0, cells := 0, slots := 0, locals := 0 } : Room).cells ({ frames := 0, cells := 0, slots := 0, locals := 0 } : Room).slots) := by
  refine own_body (x := (⟨"java/lang/String", "isLatin1", "()Z"⟩ : MethodName)) (maxL := 1) (as' := #[(.ref a)]) (Q := Q_own_rm4 Z a cs h0 n0) pn_own_rm4 #[.val (.ref a)] (fun m => by first | (simp [entryFrame, mkF, argsToLocals, Value.category]; done) | rfl) ?_
  intro p e s m below meth c T0 X0 hx hby hml hret hlk hown hnm hZ e0
  replace hml : c.maxLocals = 1 := hml
  replace hown : s.vm.findClass "java/lang/String" = some m.cls := hown
  have N0 := Fr.nil n0
  obtain ⟨T1, X2, e3, st4⟩ := getS (host := "") X0 hx hZ hown (own_w hw 19 rfl) Via.refl e0 CS (g := (mkF m 0 #[.val (.ref a)] [])) rfl (hb hby down_rm4_0)
  refine own_st st4 ?_
  show own_Out _ _ _ _ (T1.setTop (mkF m 3 #[.val (.ref a)] [(.int cs)]))
  have hk5 : ¬ (cs = (0 : Int32)) := hc
  refine own_st (G := T1.setTop (mkF m 6 #[.val (.ref a)] [])) (fun _ kk => XS.ifNo X2.here hx rfl (hb hby down_rm4_3) rfl (XT.i0_eq_f hk5) kk) ?_
  refine own_st (G := T1.setTop (mkF m 7 #[.val (.ref a)] [(.ref a)])) (fun _ kk => XS.aloadN X2.here hx rfl (hb hby down_rm4_6) rfl rfl kk) ?_
  obtain ⟨T6, X7, e8, st9⟩ := getF X2 hx hZ hown (host := "") (Or.inl (own_w hw 20 rfl)) Via.refl e3 FC (g := (mkF m 7 #[.val (.ref a)] [(.ref a)])) rfl rfl (hb hby down_rm4_7)
  refine own_st st9 ?_
  show own_Out _ _ _ _ (T6.setTop (mkF m 10 #[.val (.ref a)] [(.int (0 : Int32))]))
  refine own_st (G := T6.setTop (mkF m 13 #[.val (.ref a)] [])) (fun _ kk => XS.ifNo X7.here hx rfl (hb hby down_rm4_10) rfl (XT.i0_ne_f (by decide : (0 : Int32) = (0 : Int32))) kk) ?_
  refine own_st (G := T6.setTop (mkF m 14 #[.val (.ref a)] [(.int (1 : Int32))])) (fun _ kk => XT.iconstV X7.here hx rfl (1 : Int32) (hb hby down_rm4_13) (by decide) kk) ?_
  refine own_st (G := T6.setTop (mkF m 18 #[.val (.ref a)] [(.int (1 : Int32))])) (fun _ kk => XS.goto X7.here hx rfl (pc0 := 14) (pc' := 18) rfl (hb hby down_rm4_14) (by decide) (by decide) kk) ?_
  refine own_retB X7 hx hret (by simp) hlk (hb hby down_rm4_18) (by decide) (by decide) ?_
  exact ⟨rfl, rfl, e8⟩
theorem pn_own_rm5 : plainFor (⟨"java/lang/String", "charAt", "(I)C"⟩ : MethodName) = true := by first | exact plainFor_of_name (by first | (simp [plainName, overriddenIn]; done) | decide +kernel) | decide +kernel
theorem down_rm5_0 : decode jdk_42_method_56_code 0 = .ok (.aload_n 0, 1) := by decide +kernel
theorem down_rm5_1 : decode jdk_42_method_56_code 1 = .ok (.invokevirtual 492, 3) := by decide +kernel
theorem down_rm5_4 : decode jdk_42_method_56_code 4 = .ok (.ifCond .eq 12, 3) := by decide +kernel
theorem down_rm5_7 : decode jdk_42_method_56_code 7 = .ok (.aload_n 0, 1) := by decide +kernel
theorem down_rm5_8 : decode jdk_42_method_56_code 8 = .ok (.getfield 9, 3) := by decide +kernel
theorem down_rm5_11 : decode jdk_42_method_56_code 11 = .ok (.iload_n 1, 1) := by decide +kernel
theorem down_rm5_12 : decode jdk_42_method_56_code 12 = .ok (.invokestatic 495, 3) := by decide +kernel
theorem down_rm5_15 : decode jdk_42_method_56_code 15 = .ok (.ireturn, 1) := by decide +kernel
def Q_own_rm5 (Z : State) (i : Int32) (a b : Addr) (n x cs : Int32) (c0 : Cell) (fv : Value) (h0 : Heap) (n0 : Nat) (v : Option Value) (h : Heap) (L : List Loc) : Prop := v = some (.int (nar .char (nar .char ((x &&& (255 : Int32)).toUInt32.toUInt16.toUInt32.toInt32)))) ∧ L = [] ∧ h = h0
set_option maxRecDepth 65536 in
set_option maxHeartbeats 40000000 in
theorem own_rm5 (l : Launch) (Z : State) (a0 : Array Value) (hw : ∀ d ∈ tables_1, d.before a0 Z = true) (ws : List Jvm.Cond) (i : Int32) (a b : Addr) (n x cs : Int32) (c0 : Cell) (fv : Value) (h0 : Heap) (n0 : Nat) (EX : Exa Z h0 a "java/lang/String") (FC : Fld Z h0 a "java/lang/String" "coder" "B" (.int 0)) (FV : Fld Z h0 a "java/lang/String" "value" "[B" (.ref b)) (A : Arr Z h0 b c0 .byte) (hs : c0.slots.size.toInt32 = n) (hin : ¬ (i < 0 ∨ c0.slots.size ≤ i.toNatClampNeg)) (hat : c0.slots[i.toNatClampNeg]? = some (.int x)) (SF : Sta Z h0 "jdk/internal/util/Preconditions" "SIOOBE_FORMATTER" "Ljava/util/function/BiFunction;" fv) (rf : fv.isRef = true) (CS : Sta Z h0 "java/lang/String" "COMPACT_STRINGS" "Z" (.int cs)) (hc : ¬ cs = (0 : Int32)) (h1 : ¬ i < (0 : Int32)) (h2 : i < n) :
    MetFree l (⟨"java/lang/String", "charAt", "(I)C"⟩ : MethodName) (head1 (Jvm.Cond.code (⟨"java/lang/String", "charAt", "(I)C"⟩ : MethodName) jdk_42_method_56_code 2 (some (.char)) :: ws) ({ frames := 3, cells := 0, slots := 0, locals := 40 } : Room)) (fun aa U => aa = #[(.ref a), (.int i)] ∧ Z.Warmed39 U.vm ∧ U.heap = h0) (fun _ _ _ _ _ => True) (fun _ U o U' => ∃ v L, o = .returned v ∧ Q_own_rm5 Z i a b n x cs c0 fv h0 n0 v U'.heap L ∧ FrameEnd U o U' L ({ frames := 3, cells := 0, slots := 0, locals := 40 } : Room).cells ({ frames := 3, cells := 0, slots := 0, locals := 40 } : Room).slots) := by
  refine own_body (x := (⟨"java/lang/String", "charAt", "(I)C"⟩ : MethodName)) (maxL := 2) (as' := #[(.ref a), (.int i)]) (Q := Q_own_rm5 Z i a b n x cs c0 fv h0 n0) pn_own_rm5 #[.val (.ref a), .val (.int i)] (fun m => by first | (simp [entryFrame, mkF, argsToLocals, Value.category]; done) | rfl) ?_
  intro p e s m below meth c T0 X0 hx hby hml hret hlk hown hnm hZ e0
  replace hml : c.maxLocals = 2 := hml
  replace hown : s.vm.findClass "java/lang/String" = some m.cls := hown
  have N0 := Fr.nil n0
  refine own_st (G := T0.setTop (mkF m 1 #[.val (.ref a), .val (.int i)] [(.ref a)])) (fun _ kk => XS.aloadN X0.here hx rfl (hb hby down_rm5_0) rfl rfl kk) ?_
  refine own_callV X0 hx hZ (y := (⟨"java/lang/String", "isLatin1", "()Z"⟩ : MethodName)) (b := a) (as' := []) hown (own_w hw 14 rfl) (own_w hw 15 rfl) (own_w hw 17 rfl) (own_w hw 16 rfl) (own_w hw 18 rfl) (own_w hw 2 rfl) (by decide) (own_rm4 l Z a0 hw [] a cs h0 n0 CS hc FC) EX 0 (by decide) (by decide) (by decide) (by decide) (rest := []) (by rw [hml]; rfl) (lenOf (by decide : parseMethodDescriptor "()Z" = some ⟨[], some (.boolean)⟩) rfl) rfl (Nat.le_of_eq rfl) (hb hby down_rm5_1) e0 ?_
  intro T3 L4 v6 X5 hQ
  obtain ⟨rfl, rfl, eq1⟩ := hQ
  show own_Out _ _ _ _ (T3.setTop (mkF m 4 #[.val (.ref a), .val (.int i)] [(.int (1 : Int32))]))
  have N2 := Fr.app N0 (Fr.nil n0)
  refine own_st (G := T3.setTop (mkF m 7 #[.val (.ref a), .val (.int i)] [])) (fun _ kk => XS.ifNo X5.here hx rfl (hb hby down_rm5_4) rfl (XT.i0_eq_f (by decide : ¬ (1 : Int32) = (0 : Int32))) kk) ?_
  refine own_st (G := T3.setTop (mkF m 8 #[.val (.ref a), .val (.int i)] [(.ref a)])) (fun _ kk => XS.aloadN X5.here hx rfl (hb hby down_rm5_7) rfl rfl kk) ?_
  obtain ⟨T7, X8, e9, st10⟩ := getF X5 hx hZ hown (host := "") (Or.inl (own_w hw 21 rfl)) Via.refl eq1 FV (g := (mkF m 8 #[.val (.ref a), .val (.int i)] [(.ref a)])) rfl rfl (hb hby down_rm5_8)
  refine own_st st10 ?_
  show own_Out _ _ _ _ (T7.setTop (mkF m 11 #[.val (.ref a), .val (.int i)] [(.ref b)]))
  refine own_st (G := T7.setTop (mkF m 12 #[.val (.ref a), .val (.int i)] [(.int i), (.ref b)])) (fun _ kk => XS.iloadN X8.here hx rfl (hb hby down_rm5_11) rfl kk) ?_
  refine own_callS X8 hx hZ (y := (⟨"java/lang/StringLatin1", "charAt", "([BI)C"⟩ : MethodName)) (as' := [(.ref b), (.int i)]) hown (own_w hw 22 rfl) (own_w hw 23 rfl) (own_w hw 24 rfl) (own_w hw 25 rfl) (by decide) (own_rm3 l Z a0 hw [] i b n x c0 fv h0 n0 A hs hin hat SF rf h1 h2) 0 (by decide) (by decide) (by decide) (by decide) (rest := []) (by rw [hml]; rfl) (lenOf (by decide : parseMethodDescriptor "([BI)C" = some ⟨[.array (.byte), .int], some (.char)⟩) rfl) rfl (Nat.le_of_eq rfl) (hb hby down_rm5_12) e9 ?_
  intro T13 L14 v16 X15 hQ
  obtain ⟨rfl, rfl, eq11⟩ := hQ
  show own_Out _ _ _ _ (T13.setTop (mkF m 15 #[.val (.ref a), .val (.int i)] [(.int (nar .char ((x &&& (255 : Int32)).toUInt32.toUInt16.toUInt32.toInt32)))]))
  have N12 := Fr.app N2 (Fr.nil n0)
  refine own_retB X15 hx hret (by simp) hlk (hb hby down_rm5_15) (by decide) (by decide) ?_
  exact ⟨rfl, rfl, eq11⟩
theorem own_sa {Z : State} {a0 : Array Value} (hw : ∀ d ∈ tables_1, d.before a0 Z = true) : ∀ a ∈ Bundle.stringAtoms, a.before a0 Z = true := by
  intro a ha
  simp only [Bundle.stringAtoms, List.mem_cons, List.not_mem_nil, or_false] at ha
  rcases ha with rfl | rfl | rfl | rfl | rfl | rfl | rfl
  · exact own_w hw 2 rfl
  · exact own_w hw 3 rfl
  · exact own_w hw 4 rfl
  · exact own_w hw 5 rfl
  · exact own_w hw 6 rfl
  · exact own_w hw 7 rfl
  · exact own_w hw 8 rfl
theorem own_txt : (∀ c ∈ "0123456789".toList, c.toNat < 256) ∧ "0123456789".toList.map (fun c => Value.int (Jvm.Lit.byteI c.toNat.toUInt16)) = [.int (48 : Int32), .int (49 : Int32), .int (50 : Int32), .int (51 : Int32), .int (52 : Int32), .int (53 : Int32), .int (54 : Int32), .int (55 : Int32), .int (56 : Int32), .int (57 : Int32)] := by
  constructor
  · decide
  · decide +kernel
theorem own_rng (p v i : Int32) (hv : (p &&& (65535 : Int32)).toUInt32.toUInt16.toUInt32.toInt32 = v) (hi : ((v + (2 : Int32)) % (10 : Int32)) = i) : 0 ≤ i.toInt ∧ i.toInt < 10 ∧ i.toInt = (v.toInt + 2) % 10 ∧ 0 ≤ v.toInt ∧ v.toInt < 65536 := by
  have hc := c_i2c (p &&& (65535 : Int32))
  rw [hv] at hc
  have e1 : (v + (2 : Int32)).toInt = v.toInt + 2 := by
    rw [Jvm.Kit.i32_add (by simp only [Int32.reduceToInt]; omega) (by simp only [Int32.reduceToInt]; omega)]
    simp only [Int32.reduceToInt]
  have e2 : i.toInt = (v.toInt + 2) % 10 := by
    rw [← hi, Jvm.Kit.i32_rem_nonneg (by omega), e1]; rfl
  omega
theorem own_lo (i : Int32) {A B : Prop} (hr : 0 ≤ i.toInt ∧ i.toInt < 10 ∧ A ∧ B) : ¬ i < (0 : Int32) := by
  rw [Int32.lt_iff_toInt_lt]; simp only [Int32.reduceToInt]; omega
theorem own_hi (i : Int32) {A B : Prop} (hr : 0 ≤ i.toInt ∧ i.toInt < 10 ∧ A ∧ B) : i < (10 : Int32) := by
  rw [Int32.lt_iff_toInt_lt]; simp only [Int32.reduceToInt]; omega
theorem own_in (i : Int32) {A B : Prop} (hr : 0 ≤ i.toInt ∧ i.toInt < 10 ∧ A ∧ B) : ¬ (i < 0 ∨ (10 : Int32).toNatClampNeg ≤ i.toNatClampNeg) := by
  rintro (q | q)
  · exact own_lo i hr q
  · rw [show (10 : Int32).toNatClampNeg = 10 from rfl] at q
    simp only [Int32.toNatClampNeg] at q
    omega
theorem own_ten (i : Int32) {A B : Prop} (hr : 0 ≤ i.toInt ∧ i.toInt < 10 ∧ A ∧ B) : i = 0 ∨ i = 1 ∨ i = 2 ∨ i = 3 ∨ i = 4 ∨ i = 5 ∨ i = 6 ∨ i = 7 ∨ i = 8 ∨ i = 9 := by
  simp only [← Int32.toInt_inj, Int32.reduceToInt]
  omega
theorem own_at (i : Int32) {A B : Prop} (hr : 0 ≤ i.toInt ∧ i.toInt < 10 ∧ A ∧ B) : ([.int (48 : Int32), .int (49 : Int32), .int (50 : Int32), .int (51 : Int32), .int (52 : Int32), .int (53 : Int32), .int (54 : Int32), .int (55 : Int32), .int (56 : Int32), .int (57 : Int32)] : List Value).getD i.toNatClampNeg (.int 0) = .int ((48 : Int32) + i) := by
  rcases own_ten i hr with rfl | rfl | rfl | rfl | rfl | rfl | rfl | rfl | rfl | rfl <;> rfl
theorem own_ch (i : Int32) {A B : Prop} (hr : 0 ≤ i.toInt ∧ i.toInt < 10 ∧ A ∧ B) : (nar .char (nar .char ((((48 : Int32) + i) &&& (255 : Int32)).toUInt32.toUInt16.toUInt32.toInt32))) = (48 : Int32) + i := by
  rcases own_ten i hr with rfl | rfl | rfl | rfl | rfl | rfl | rfl | rfl | rfl | rfl <;> decide +kernel
theorem own_plain (p v i z : Int32) (hv : (p &&& (65535 : Int32)).toUInt32.toUInt16.toUInt32.toInt32 = v) (hi : ((v + (2 : Int32)) % (10 : Int32)) = i) (hz : z = (if (nar .char (nar .char ((((48 : Int32) + i) &&& (255 : Int32)).toUInt32.toUInt16.toUInt32.toInt32))) = v then (1 : Int32) else (0 : Int32))) : own_isDg v = z := by
  have hr := own_rng p v i hv hi
  rw [hz, own_ch i hr]
  have e : ((48 : Int32) + i).toInt = 48 + i.toInt := Jvm.Kit.i32_add (by simp only [Int32.reduceToInt]; omega) (by simp only [Int32.reduceToInt]; omega)
  unfold own_isDg
  simp only [Int32.lt_iff_toInt_lt, ← Int32.toInt_inj, e, Int32.reduceToInt]
  repeat' split
  all_goals first | rfl | (exfalso; omega)
theorem pn_own_law : plainFor x = true := by first | exact plainFor_of_name (by first | (simp [plainName, overriddenIn]; done) | decide +kernel) | decide +kernel
def Q_own_law (Z : State) (p0 : Int32) (cs : Int32) (fv : Value) (h0 : Heap) (n0 : Nat) (v : Option Value) (h : Heap) (L : List Loc) : Prop := v = some (.int 1) ∧ Fr n0 L
set_option maxRecDepth 65536 in
set_option maxHeartbeats 40000000 in
theorem own_law (l : Launch) (Z : State) (a0 : Array Value) (hw : ∀ d ∈ tables_1, d.before a0 Z = true) (ws : List Jvm.Cond) (p0 : Int32) (cs : Int32) (fv : Value) (h0 : Heap) (n0 : Nat) (hh0 : h0 = Z.heap) (SF : Sta Z h0 "jdk/internal/util/Preconditions" "SIOOBE_FORMATTER" "Ljava/util/function/BiFunction;" fv) (rf : fv.isRef = true) (CS : Sta Z h0 "java/lang/String" "COMPACT_STRINGS" "Z" (.int cs)) (hcs : ¬ cs = (0 : Int32)) (held : Jvm.Lit.constHeld Z "com/example/finegrain/finegrain/formats/IsoTimesIsDigitPinLaw" 8) (hcw : Jvm.Lit.compactW.before a0 Z = true) :
    MetFree l x (head1 (Jvm.Cond.code x code maxLocals ret :: ws) room_1) (fun aa U => aa = #[(.int p0)] ∧ U = Z) (fun _ _ _ _ _ => True) (fun _ U o U' => own_QW (Q_own_law Z p0 cs fv h0 n0) U room_1.cells room_1.slots o U') := by
  refine own_bodyW (x := x) (maxL := maxLocals) (as' := #[(.int p0)]) (Q := Q_own_law Z p0 cs fv h0 n0) pn_own_law #[.val (.int p0), .unset, .unset] (fun m => by first | (simp [entryFrame, mkF, argsToLocals, Value.category, maxLocals]; done) | rfl) ?_
  intro p e m below meth c T0 X0 hx hby hml hret hlk hown hnm hZ e0
  replace hml : c.maxLocals = 3 := hml
  replace hown : Z.vm.findClass "com/example/finegrain/finegrain/formats/IsoTimesIsDigitPinLaw" = some m.cls := hown
  have N0 := Fr.nil n0
  rw [hh0] at SF CS
  refine own_st (G := T0.setTop (mkF m 1 #[.val (.int p0), .unset, .unset] [(.int p0)])) (fun _ kk => XS.iloadN X0.here hx rfl (hb hby at_0) rfl kk) ?_
  refine own_st (G := T0.setTop (mkF m 3 #[.val (.int p0), .unset, .unset] [(.int (65535 : Int32)), (.int p0)])) (fun _ kk => X0.ldcInt hx hown (mvT hZ (own_w hw 0 rfl)) (g := (mkF m 1 #[.val (.int p0), .unset, .unset] [(.int p0)])) rfl (hb hby at_1) _ kk) ?_
  refine own_st (G := T0.setTop (mkF m 4 #[.val (.int p0), .unset, .unset] [(.int (p0 &&& (65535 : Int32)))])) (fun _ kk => XS.iand X0.here hx rfl (hb hby at_3) rfl kk) ?_
  refine own_st (G := T0.setTop (mkF m 5 #[.val (.int p0), .unset, .unset] [(.int (p0 &&& (65535 : Int32)).toUInt32.toUInt16.toUInt32.toInt32)])) (fun _ kk => XS.i2c X0.here hx rfl (hb hby at_4) rfl kk) ?_
  generalize hv5 : (p0 &&& (65535 : Int32)).toUInt32.toUInt16.toUInt32.toInt32 = v5
  refine own_st (G := T0.setTop (mkF m 6 #[.val (.int p0), .val (.int v5), .unset] [])) (fun _ kk => XS.istoreN X0.here hx rfl (hb hby at_5) rfl (l' := #[.val (.int p0), .val (.int v5), .unset]) rfl kk) ?_
  obtain ⟨a1, T1, h1, k1, b1, kk1, X1, e1, E1, S1, hk1, hZ1, hown1, EX, FC, FV, AV, -, -, -, st1⟩ := ldcSV (s := Z) (vm0 := Z.vm) (Z := Z) (a0 := a0) X0 hx hZ hown (own_w hw 1 rfl) (own_sa hw) e0 (k0 := Z.heap.size) ((State.WarmedH.refl Z).since _) (Nat.le_refl _) (Fr.nil _) (fun _ _ q => q) IB.start (by simp) held hcw (vs := [.int (48 : Int32), .int (49 : Int32), .int (50 : Int32), .int (51 : Int32), .int (52 : Int32), .int (53 : Int32), .int (54 : Int32), .int (55 : Int32), .int (56 : Int32), .int (57 : Int32)]) (z := (10 : Int32)) own_txt (by decide) (by rfl) (g := (mkF m 6 #[.val (.int p0), .val (.int v5), .unset] [])) rfl (hb hby at_6) (n := 40) (by decide) (by decide) (by decide) (by decide)
  replace hZ := hZ1
  replace hown := hown1
  obtain ⟨c0, A, -, hsz, -, hHas, -⟩ := AV
  have SF1 := SF.ext E1
  have CS1 := CS.ext E1
  refine own_st st1 ?_
  show own_Out _ _ _ _ (T1.setTop (mkF m 8 #[.val (.int p0), .val (.int v5), .unset] [(.ref a1)]))
  refine own_st (G := T1.setTop (mkF m 9 #[.val (.int p0), .val (.int v5), .unset] [(.int v5), (.ref a1)])) (fun _ kk => XS.iloadN X1.here hx rfl (hb hby at_8) rfl kk) ?_
  refine own_st (G := T1.setTop (mkF m 10 #[.val (.int p0), .val (.int v5), .unset] [(.int (2 : Int32)), (.int v5), (.ref a1)])) (fun _ kk => XT.iconstV X1.here hx rfl (2 : Int32) (hb hby at_9) (by decide) kk) ?_
  refine own_st (G := T1.setTop (mkF m 11 #[.val (.int p0), .val (.int v5), .unset] [(.int (v5 + (2 : Int32))), (.ref a1)])) (fun _ kk => XS.iadd X1.here hx rfl (hb hby at_10) rfl kk) ?_
  refine own_st (G := T1.setTop (mkF m 13 #[.val (.int p0), .val (.int v5), .unset] [(.int (10 : Int32)), (.int (v5 + (2 : Int32))), (.ref a1)])) (fun _ kk => XT.bipushV X1.here hx rfl (10 : Int32) (hb hby at_11) (by decide) kk) ?_
  refine own_st (G := T1.setTop (mkF m 14 #[.val (.int p0), .val (.int v5), .unset] [(.int ((v5 + (2 : Int32)) % (10 : Int32))), (.ref a1)])) (fun _ kk => iremM X1 hx rfl (hb hby at_13) rfl (by decide) kk) ?_
  generalize hvi : ((v5 + (2 : Int32)) % (10 : Int32)) = vi
  have hr := own_rng p0 v5 vi hv5 hvi
  have hin : ¬ (vi < 0 ∨ c0.slots.size ≤ vi.toNatClampNeg) := by rw [hsz]; exact own_in vi hr
  have hat : c0.slots[vi.toNatClampNeg]? = some (.int ((48 : Int32) + vi)) := by rw [hHas _ (Nat.lt_of_not_le fun q => hin (Or.inr q)), own_at vi hr]
  have hs : c0.slots.size.toInt32 = (10 : Int32) := by rw [hsz]; rfl
  refine own_callV X1 hx hZ (y := (⟨"java/lang/String", "charAt", "(I)C"⟩ : MethodName)) (b := a1) (as' := [(.int vi)]) hown (own_w hw 9 rfl) (own_w hw 10 rfl) (own_w hw 12 rfl) (own_w hw 11 rfl) (own_w hw 13 rfl) (own_w hw 2 rfl) (by decide) (own_rm5 l Z a0 hw [] vi a1 b1 (10 : Int32) ((48 : Int32) + vi) cs c0 fv h1 n0 EX FC FV A hs hin hat SF1 rf CS1 hcs (own_lo vi hr) (own_hi vi hr)) EX 0 (by decide) (by decide) (by decide) (by decide) (rest := []) (by rw [hml]; rfl) (lenOf (by decide : parseMethodDescriptor "(I)C" = some ⟨[.int], some (.char)⟩) rfl) rfl (Nat.le_of_eq rfl) (hb hby at_14) e1 ?_
  intro T3 L4 v6 X5 hQ
  obtain ⟨rfl, rfl, eq1⟩ := hQ
  show own_Out _ _ _ _ (T3.setTop (mkF m 17 #[.val (.int p0), .val (.int v5), .unset] [(.int (nar .char (nar .char ((((48 : Int32) + vi) &&& (255 : Int32)).toUInt32.toUInt16.toUInt32.toInt32))))]))
  have N2 := Fr.app N0 (Fr.nil n0)
  refine own_st (G := T3.setTop (mkF m 18 #[.val (.int p0), .val (.int v5), .unset] [(.int v5), (.int (nar .char (nar .char ((((48 : Int32) + vi) &&& (255 : Int32)).toUInt32.toUInt16.toUInt32.toInt32))))])) (fun _ kk => XS.iloadN X5.here hx rfl (hb hby at_17) rfl kk) ?_
  have j26 : ∀ (z26 : Int32), z26 = (if (nar .char (nar .char ((((48 : Int32) + vi) &&& (255 : Int32)).toUInt32.toUInt16.toUInt32.toInt32))) = v5 then (1 : Int32) else (0 : Int32)) → own_Out p e below (own_QW (Q_own_law Z p0 cs fv h0 n0) Z room_1.cells room_1.slots) (T3.setTop (mkF m 26 #[.val (.int p0), .val (.int v5), .unset] [(.int z26)])) := by
    intro z26 hz26
    refine own_st (G := T3.setTop (mkF m 27 #[.val (.int p0), .val (.int v5), .val (.int z26)] [])) (fun _ kk => XS.istoreN X5.here hx rfl (hb hby at_26) rfl (l' := #[.val (.int p0), .val (.int v5), .val (.int z26)]) rfl kk) ?_
    refine own_st (G := T3.setTop (mkF m 28 #[.val (.int p0), .val (.int v5), .val (.int z26)] [(.int v5)])) (fun _ kk => XS.iloadN X5.here hx rfl (hb hby at_27) rfl kk) ?_
    refine own_callS X5 hx hZ (y := (⟨"com/example/finegrain/finegrain/formats/IsoTimes", "isDigit", "(C)Z"⟩ : MethodName)) (as' := [(.int v5)]) hown (own_w hw 34 rfl) (own_w hw 35 rfl) (own_w hw 36 rfl) (own_w hw 37 rfl) (by decide) (own_rm0 l Z a0 hw [] v5 h1 n0) 0 (by decide) (by decide) (by decide) (by decide) (rest := []) (by rw [hml]; rfl) (lenOf (by decide : parseMethodDescriptor "(C)Z" = some ⟨[.char], some (.boolean)⟩) rfl) rfl (Nat.le_of_eq rfl) (hb hby at_28) eq1 ?_
    intro T9 L10 v12 X11 hQ
    obtain ⟨rfl, rfl, eq7⟩ := hQ
    show own_Out _ _ _ _ (T9.setTop (mkF m 31 #[.val (.int p0), .val (.int v5), .val (.int z26)] [(.int (own_isDg v5))]))
    have N8 := Fr.app N2 (Fr.nil n0)
    refine own_st (G := T9.setTop (mkF m 32 #[.val (.int p0), .val (.int v5), .val (.int z26)] [(.int z26), (.int (own_isDg v5))])) (fun _ kk => XS.iloadN X11.here hx rfl (hb hby at_31) rfl kk) ?_
    have hk13 : ((own_isDg v5) = z26) := own_plain p0 v5 vi z26 hv5 hvi hz26
    refine own_st (G := T9.setTop (mkF m 35 #[.val (.int p0), .val (.int v5), .val (.int z26)] [])) (fun _ kk => XS.icmpNo X11.here hx rfl (hb hby at_32) rfl (XT.ii_ne_f hk13) kk) ?_
    refine own_st (G := T9.setTop (mkF m 36 #[.val (.int p0), .val (.int v5), .val (.int z26)] [(.int (1 : Int32))])) (fun _ kk => XT.iconstV X11.here hx rfl (1 : Int32) (hb hby at_35) (by decide) kk) ?_
    refine own_st (G := T9.setTop (mkF m 40 #[.val (.int p0), .val (.int v5), .val (.int z26)] [(.int (1 : Int32))])) (fun _ kk => XS.goto X11.here hx rfl (pc0 := 36) (pc' := 40) rfl (hb hby at_36) (by decide) (by decide) kk) ?_
    refine own_retBW X11 hx S1 (by rw [eq7]; exact hk1) hret (by simp) hlk (hb hby at_40) (by decide) (by decide) ?_
    exact ⟨rfl, N8⟩
  by_cases hc14 : (nar .char (nar .char ((((48 : Int32) + vi) &&& (255 : Int32)).toUInt32.toUInt16.toUInt32.toInt32))) = v5
  · skip
    refine own_st (G := T3.setTop (mkF m 21 #[.val (.int p0), .val (.int v5), .unset] [])) (fun _ kk => XS.icmpNo X5.here hx rfl (hb hby at_18) rfl (XT.ii_ne_f hc14) kk) ?_
    refine own_st (G := T3.setTop (mkF m 22 #[.val (.int p0), .val (.int v5), .unset] [(.int (1 : Int32))])) (fun _ kk => XT.iconstV X5.here hx rfl (1 : Int32) (hb hby at_21) (by decide) kk) ?_
    refine own_st (G := T3.setTop (mkF m 26 #[.val (.int p0), .val (.int v5), .unset] [(.int (1 : Int32))])) (fun _ kk => XS.goto X5.here hx rfl (pc0 := 22) (pc' := 26) rfl (hb hby at_22) (by decide) (by decide) kk) ?_
    exact j26 _ (by rw [if_pos hc14])
  · skip
    refine own_st (G := T3.setTop (mkF m 25 #[.val (.int p0), .val (.int v5), .unset] [])) (fun _ kk => XS.icmpYes X5.here hx rfl (pc0 := 18) (pc' := 25) rfl (hb hby at_18) rfl (XT.ii_ne_t hc14) (by decide) (by decide) kk) ?_
    refine own_st (G := T3.setTop (mkF m 26 #[.val (.int p0), .val (.int v5), .unset] [(.int (0 : Int32))])) (fun _ kk => XT.iconstV X5.here hx rfl (0 : Int32) (hb hby at_25) (by decide) kk) ?_
    exact j26 _ (by rw [if_neg hc14])
set_option maxRecDepth 65536 in
set_option maxHeartbeats 40000000 in
theorem comes_1 {Post : Tables → Env → Array Value → State → Outcome → State → Prop} (hpost : ∀ tb e args s v u, (limb_1_1.after args s (.returned v) u = true ∧ limb_1_2.after args s (.returned v) u = true ∧ True) → FramedW s (.returned v) u (Jvm.fieldLocs frame_1_writes args s ++ Jvm.arrayLocs frame_1_arrays args s ++ Jvm.staticLocs frame_1_statics s) 8 1088 → Post tb e args s (.returned v) u) :
    ArmFor flags0 classFile x code maxLocals ret World_1 tables_1 room_1 Calls_1 rest_1 Pre_1 Post := by
  intro l hfl _ _ p e ha hc hk s m args below hf hA hF happ hP
  obtain ⟨hcalls, hrest, hpre⟩ := hP
  obtain ⟨-, -, -, hnamed, -, -, -, hat⟩ := (Spec.applies_iff hf).mp happ
  obtain ⟨hg, hn⟩ := and_e (Cond.before_iff.mp (show (Jvm.Cond.and given_1 narrow_1).before args s = true from hpre))
  obtain ⟨hct, hk0⟩ := and_e hg
  have ha0 := hk0
  obtain ⟨w0, rfl⟩ : ∃ w0 : Value, args = #[w0] := by
    have hs : args.size = 1 := by simpa [Cond.value, given_1] using hct
    obtain ⟨L⟩ := args
    match L, hs with
    | [w0], _ => exact ⟨w0, rfl⟩
  have hw := fun d (hd : d ∈ tables_1) => atoms_spec (ws := Jvm.Cond.code x code maxLocals ret :: tables_1) hat d (List.mem_cons_of_mem _ hd)
  obtain ⟨i0, e0⟩ := is_v ha0
  obtain rfl : w0 = (.int i0) := Option.some.inj e0
  obtain ⟨hsets, -⟩ := atoms_of _ (show (jdkStatics_1.foldr Jvm.Cond.and restOwn_1).before _ s = true from (rest_1_c_eq ▸ (show rest_1_c.before _ s = true from hrest)))
  obtain ⟨vc, ec⟩ := is_v (Cond.before_iff.mp (hsets _ (List.mem_of_getElem? (i := 1) rfl)))
  have CS0 : Sta s s.heap "java/lang/String" "COMPACT_STRINGS" "Z" (.int vc) := Sta.start ec (Or.inl (hsets _ (List.mem_of_getElem? (i := 0) rfl)))
  obtain ⟨vf, ef, rf⟩ := isR_v (Cond.before_iff.mp (hsets _ (List.mem_of_getElem? (i := 8) rfl)))
  have SF0 : Sta s s.heap "jdk/internal/util/Preconditions" "SIOOBE_FORMATTER" "Ljava/util/function/BiFunction;" vf := Sta.start ef (Or.inl (hsets _ (List.mem_of_getElem? (i := 7) rfl)))
  have hcs : ¬ vc = (0 : Int32) := gotF (Cond.eq_ints ec (Term.int_eval (0))) (not_v (Cond.before_iff.mp (hsets _ (List.mem_of_getElem? (i := 2) rfl))))
  have held : Jvm.Lit.constHeld s "com/example/finegrain/finegrain/formats/IsoTimesIsDigitPinLaw" 8 := hcalls.1 ("com/example/finegrain/finegrain/formats/IsoTimesIsDigitPinLaw", 8) (by decide)
  obtain ⟨n, o, h1, h2, h3, _, L, rfl, ⟨rfl, N⟩, hq⟩ := own_law l s _ hw tables_1 i0 vc vf s.heap s.heap.size rfl SF0 rf CS0 hcs held (hsets _ (List.mem_of_getElem? (i := 2) rfl)) p e ha hc hk s m _ below hf ((Spec.applies_iff_loose hf).mp happ).1 ⟨rfl, rfl⟩ trivial
  refine ⟨n, _, h1, h2, h3, hpost _ _ _ _ _ _ ⟨Cond.after_iff.mpr rfl, Cond.after_iff.mpr (eq_i res_at (Term.int_eval (1)) rfl), trivial⟩ ⟨hq.1, hq.2.1, hq.2.2.1, (hq.2.2.2.sift fun y hy => Or.inr (N y hy)).mono (by decide) (by decide)⟩⟩
theorem main_1_1 : Claimed_1_1 := comes_1 fun _ _ _ _ _ _ h hF => ⟨h.1, hF⟩
theorem main_1_2 : Claimed_1_2 := comes_1 fun _ _ _ _ _ _ h hF => ⟨h.2.1, hF⟩
end Jvm.Pilot.@@N@@
namespace Jvm.Pilot.@@N@@
open Jvm Jvm.ClassFile Sem Op Lib Jvm.Free Jvm.Stand Jvm.Pilot.@@N@@.Jvm.D
/-! MADE BY PROGRAM (witnessworld.py) out of the Statement's table words and the real class files: 17 classes; the members and pool entries that the words name. The judged class is class 1, her method 1. -/
namespace start1
open Jvm.ClassFile
def u (s : String) : CpInfo := .utf8 (stringToUtf16 s)
/-- a pool by its gaps: so many unusable entries, then the entry; so many at the end -/
def gap : Nat → List CpInfo → List CpInfo
  | 0, r => r
  | n + 1, r => .unusable :: gap n r
def poolList (es : List (Nat × CpInfo)) (last : Nat) : List CpInfo := es.foldr (fun e r => gap e.1 (e.2 :: r)) (gap last [])
def pool (es : List (Nat × CpInfo)) (last : Nat) : Array CpInfo := ⟨poolList es last⟩
def fileOf (pool : Array CpInfo) (this : Nat) (attrs : Array Attribute := #[]) (ms : Array MethodInfo := #[]) (fl : Nat := 33) (sup : Nat := 0) (ifs : Array Nat := #[]) (fds : Array FieldInfo := #[]) : ClassFile where
  minorVersion := 0
  majorVersion := 65
  constantPool := pool
  accessFlags := fl
  thisClass := this
  superClass := sup
  interfaces := ifs
  fields := fds
  methods := ms
  attributes := attrs
def plain (name : String) (sup : Option ClassId) : Class where
  name := name
  kind := .ordinary
  loader := none
  accessFlags := 33
  super := sup
  interfaces := #[]
  cf := none
  fields := #[]
  methods := #[]
  instanceTypes := #[]
  staticTypes := #[]
  resolved := #[]
  callSites := []
  init := .initialized
  statics := none
  mirror := none

def pool0 : Array CpInfo := pool [(5, u "<init>"), (0, u "()V"), (1, .class_ 10), (1, u "java/lang/Object")] 113

def k0m0 : Method := { name := "<init>", desc := "()V", sig := { parameters := [], returnType := none }, accessFlags := 1, code := none }
/-- java/lang/Object -/
def k0 : Class := { plain "java/lang/Object" none with
  accessFlags := 33
  interfaces := #[]
  cf := some (fileOf pool0 8 #[] #[{ accessFlags := 1, nameIndex := 5, descriptorIndex := 6, attributes := #[] }] 33 0 #[] #[])
  fields := #[]
  methods := #[k0m0]
  instanceTypes := #[]
  staticTypes := #[]
  resolved := Array.replicate 124 none
  statics := none }

def pool1 : Array CpInfo := pool [(2, .class_ 4), (1, u "java/lang/Object"), (0, u "<init>"), (0, u "()V"), (0, .integer 65535), (0, .string 9), (0, u "0123456789"), (0, .methodref 11 12), (0, .class_ 13), (0, .nameAndType 14 15), (0, u "java/lang/String"), (0, u "charAt"), (0, u "(I)C"), (0, .methodref 17 18), (0, .class_ 19), (0, .nameAndType 20 21), (0, u "com/example/finegrain/finegrain/formats/IsoTimes"), (0, u "isDigit"), (0, u "(C)Z"), (0, .class_ 23), (0, u "com/example/finegrain/finegrain/formats/IsoTimesIsDigitPinLaw"), (2, u "law"), (0, u "(I)Z")] 3

def k1m0 : Method := { name := "<init>", desc := "()V", sig := { parameters := [], returnType := none }, accessFlags := 1, code := none }
def k1c1 : Code := { maxStack := 3, maxLocals := 3, code := code, exceptionTable := #[], attributes := #[] }
def k1m1 : Method := { name := "law", desc := "(I)Z", sig := { parameters := [.int], returnType := some .boolean }, accessFlags := 9, code := some k1c1 }
/-- com/example/finegrain/finegrain/formats/IsoTimesIsDigitPinLaw -/
def k1 : Class := { plain "com/example/finegrain/finegrain/formats/IsoTimesIsDigitPinLaw" (some 0) with
  accessFlags := 49
  interfaces := #[]
  cf := some (fileOf pool1 22 #[] #[{ accessFlags := 1, nameIndex := 5, descriptorIndex := 6, attributes := #[] }, { accessFlags := 9, nameIndex := 26, descriptorIndex := 27, attributes := #[] }] 49 2 #[] #[])
  fields := #[]
  methods := #[k1m0, k1m1]
  instanceTypes := #[]
  staticTypes := #[]
  resolved := Array.replicate 31 none
  statics := none }

def pool2 : Array CpInfo := pool [(1, .class_ 2), (0, u "java/io/Serializable"), (0, .class_ 4), (0, u "java/lang/Object")] 2

/-- java/io/Serializable -/
def k2 : Class := { plain "java/io/Serializable" (some 0) with
  accessFlags := 1537
  interfaces := #[]
  cf := some (fileOf pool2 1 #[] #[] 1537 3 #[] #[])
  fields := #[]
  methods := #[]
  instanceTypes := #[]
  staticTypes := #[]
  resolved := Array.replicate 7 none
  statics := none }

def pool3 : Array CpInfo := pool [(1, .class_ 2), (0, u "java/lang/Comparable"), (0, .class_ 4), (0, u "java/lang/Object")] 7

/-- java/lang/Comparable -/
def k3 : Class := { plain "java/lang/Comparable" (some 0) with
  accessFlags := 1537
  interfaces := #[]
  cf := some (fileOf pool3 1 #[] #[] 1537 3 #[] #[])
  fields := #[]
  methods := #[]
  instanceTypes := #[]
  staticTypes := #[]
  resolved := Array.replicate 12 none
  statics := none }

def pool4 : Array CpInfo := pool [(2, .class_ 4), (1, u "java/lang/CharSequence"), (42, .class_ 48), (0, u "java/lang/CharSequence$1CodePointIterator"), (10, .class_ 60), (0, u "java/lang/CharSequence$1CharIterator"), (5, .class_ 67), (0, u "java/lang/Object")] 63

/-- java/lang/CharSequence -/
def k4 : Class := { plain "java/lang/CharSequence" (some 0) with
  accessFlags := 1537
  interfaces := #[]
  cf := some (fileOf pool4 2 #[.nestMembers #[47, 59]] #[] 1537 66 #[] #[])
  fields := #[]
  methods := #[]
  instanceTypes := #[]
  staticTypes := #[]
  resolved := Array.replicate 131 none
  statics := none }

def pool5 : Array CpInfo := pool [(1, .class_ 2), (0, u "java/lang/constant/Constable"), (0, .class_ 4), (0, u "java/lang/Object")] 6

/-- java/lang/constant/Constable -/
def k5 : Class := { plain "java/lang/constant/Constable" (some 0) with
  accessFlags := 1537
  interfaces := #[]
  cf := some (fileOf pool5 1 #[] #[] 1537 3 #[] #[])
  fields := #[]
  methods := #[]
  instanceTypes := #[]
  staticTypes := #[]
  resolved := Array.replicate 11 none
  statics := none }

def pool6 : Array CpInfo := pool [(1, .class_ 2), (0, u "java/lang/constant/ConstantDesc"), (0, .class_ 4), (0, u "java/lang/Object")] 32

/-- java/lang/constant/ConstantDesc -/
def k6 : Class := { plain "java/lang/constant/ConstantDesc" (some 0) with
  accessFlags := 1537
  interfaces := #[]
  cf := some (fileOf pool6 1 #[] #[] 1537 3 #[] #[])
  fields := #[]
  methods := #[]
  instanceTypes := #[]
  staticTypes := #[]
  resolved := Array.replicate 37 none
  statics := none }

def pool7 : Array CpInfo := pool [(2, .class_ 4), (1, u "java/lang/Object"), (0, u "<init>"), (0, u "()V"), (2, .fieldref 10 11), (0, .class_ 12), (0, .nameAndType 13 14), (0, u "java/lang/String"), (0, u "value"), (0, u "[B"), (0, .fieldref 10 16), (0, .nameAndType 17 18), (0, u "coder"), (0, u "B"), (2, u "hash"), (0, u "I"), (2, u "hashIsZero"), (0, u "Z"), (11, .fieldref 10 39), (0, .nameAndType 40 26), (0, u "COMPACT_STRINGS"), (66, .class_ 109), (1, u "java/lang/StringLatin1"), (32, u "()Z"), (220, u "([BI)C"), (27, u "(II)V"), (35, u "(I)C"), (64, .methodref 10 493), (0, .nameAndType 494 142), (0, u "isLatin1"), (0, .methodref 107 496), (0, .nameAndType 497 363), (0, u "charAt"), (3, u "checkIndex"), (73, .class_ 576), (0, u "java/lang/CharSequence"), (22, u "CASE_INSENSITIVE_ORDER"), (0, u "Ljava/util/Comparator;"), (452, .fieldref 1054 1055), (0, .class_ 1056), (0, .nameAndType 1057 1058), (0, u "jdk/internal/util/Preconditions"), (0, u "SIOOBE_FORMATTER"), (0, u "Ljava/util/function/BiFunction;"), (0, .methodref 1054 1060), (0, .nameAndType 501 1061), (0, u "(IILjava/util/function/BiFunction;)I"), (39, u "serialPersistentFields"), (0, u "[Ljava/io/ObjectStreamField;"), (0, .class_ 1104), (0, u "java/lang/String$CaseInsensitiveComparator"), (1, .class_ 1107), (0, u "java/io/Serializable"), (0, .class_ 1109), (0, u "java/lang/Comparable"), (0, .class_ 1111), (0, u "java/lang/constant/Constable"), (0, .class_ 1113), (0, u "java/lang/constant/ConstantDesc"), (2, u "serialVersionUID"), (0, u "J"), (3, u "REPL"), (0, u "C"), (2, u "LATIN1"), (1, u "UTF16")] 323

def k7m0 : Method := { name := "<init>", desc := "()V", sig := { parameters := [], returnType := none }, accessFlags := 1, code := none }
def k7c1 : Code := { maxStack := 2, maxLocals := 2, code := jdk_42_method_56_code, exceptionTable := #[], attributes := #[] }
def k7m1 : Method := { name := "charAt", desc := "(I)C", sig := { parameters := [.int], returnType := some .char }, accessFlags := 1, code := some k7c1 }
def k7c2 : Code := { maxStack := 1, maxLocals := 1, code := jdk_42_method_154_code, exceptionTable := #[], attributes := #[] }
def k7m2 : Method := { name := "isLatin1", desc := "()Z", sig := { parameters := [], returnType := some .boolean }, accessFlags := 0, code := some k7c2 }
def k7c3 : Code := { maxStack := 3, maxLocals := 2, code := jdk_42_method_155_code, exceptionTable := #[], attributes := #[] }
def k7m3 : Method := { name := "checkIndex", desc := "(II)V", sig := { parameters := [.int, .int], returnType := none }, accessFlags := 8, code := some k7c3 }
/-- java/lang/String -/
def k7 : Class := { plain "java/lang/String" (some 0) with
  accessFlags := 49
  interfaces := #[2, 3, 4, 5, 6]
  cf := some (fileOf pool7 10 #[.nestMembers #[1103]] #[{ accessFlags := 1, nameIndex := 5, descriptorIndex := 6, attributes := #[] }, { accessFlags := 1, nameIndex := 497, descriptorIndex := 427, attributes := #[] }, { accessFlags := 0, nameIndex := 494, descriptorIndex := 142, attributes := #[] }, { accessFlags := 8, nameIndex := 501, descriptorIndex := 391, attributes := #[] }] 49 2 #[1106, 1108, 575, 1110, 1112] #[{ accessFlags := 18, nameIndex := 13, descriptorIndex := 14, attributes := #[] }, { accessFlags := 18, nameIndex := 17, descriptorIndex := 18, attributes := #[] }, { accessFlags := 2, nameIndex := 21, descriptorIndex := 22, attributes := #[] }, { accessFlags := 2, nameIndex := 25, descriptorIndex := 26, attributes := #[] }, { accessFlags := 26, nameIndex := 1116, descriptorIndex := 1117, attributes := #[] }, { accessFlags := 24, nameIndex := 40, descriptorIndex := 26, attributes := #[] }, { accessFlags := 26, nameIndex := 1101, descriptorIndex := 1102, attributes := #[] }, { accessFlags := 26, nameIndex := 1121, descriptorIndex := 1122, attributes := #[] }, { accessFlags := 25, nameIndex := 599, descriptorIndex := 600, attributes := #[] }, { accessFlags := 24, nameIndex := 1125, descriptorIndex := 18, attributes := #[] }, { accessFlags := 24, nameIndex := 1127, descriptorIndex := 18, attributes := #[] }])
  fields := #[{ name := "value", type := (.array .byte), accessFlags := 18, slot := 0, constantValue := 0 }, { name := "coder", type := .byte, accessFlags := 18, slot := 1, constantValue := 0 }, { name := "hash", type := .int, accessFlags := 2, slot := 2, constantValue := 0 }, { name := "hashIsZero", type := .boolean, accessFlags := 2, slot := 3, constantValue := 0 }, { name := "serialVersionUID", type := .long, accessFlags := 26, slot := 0, constantValue := 0 }, { name := "COMPACT_STRINGS", type := .boolean, accessFlags := 24, slot := 1, constantValue := 0 }, { name := "serialPersistentFields", type := (.array (.object "java/io/ObjectStreamField")), accessFlags := 26, slot := 2, constantValue := 0 }, { name := "REPL", type := .char, accessFlags := 26, slot := 3, constantValue := 0 }, { name := "CASE_INSENSITIVE_ORDER", type := (.object "java/util/Comparator"), accessFlags := 25, slot := 4, constantValue := 0 }, { name := "LATIN1", type := .byte, accessFlags := 24, slot := 5, constantValue := 0 }, { name := "UTF16", type := .byte, accessFlags := 24, slot := 6, constantValue := 0 }]
  methods := #[k7m0, k7m1, k7m2, k7m3]
  instanceTypes := #[(.array .byte), .byte, .int, .boolean]
  staticTypes := #[.long, .boolean, (.array (.object "java/io/ObjectStreamField")), .char, (.object "java/util/Comparator"), .byte, .byte]
  resolved := Array.replicate 1451 none
  statics := some 0 }

def pool8 : Array CpInfo := pool [(1, .class_ 2), (0, u "java/lang/String"), (1, .class_ 6), (1, u "java/lang/Object"), (0, u "<init>"), (0, u "()V"), (0, .methodref 1 10), (0, .nameAndType 11 12), (0, u "checkIndex"), (0, u "(II)V"), (1, .class_ 16), (1, u "java/lang/StringLatin1"), (36, u "([BI)C"), (67, u "$assertionsDisabled"), (0, u "Z"), (98, .class_ 223), (1, u "java/lang/StringLatin1$LinesSpliterator"), (28, u "charAt"), (137, .class_ 391), (0, u "java/lang/StringLatin1$CharsSpliterator")] 3

def k8m0 : Method := { name := "<init>", desc := "()V", sig := { parameters := [], returnType := none }, accessFlags := 0, code := none }
def k8c1 : Code := { maxStack := 2, maxLocals := 2, code := jdk_43_method_2_code, exceptionTable := #[], attributes := #[] }
def k8m1 : Method := { name := "charAt", desc := "([BI)C", sig := { parameters := [(.array .byte), .int], returnType := some .char }, accessFlags := 9, code := some k8c1 }
/-- java/lang/StringLatin1 -/
def k8 : Class := { plain "java/lang/StringLatin1" (some 0) with
  accessFlags := 48
  interfaces := #[]
  cf := some (fileOf pool8 14 #[.nestMembers #[390, 221]] #[{ accessFlags := 0, nameIndex := 7, descriptorIndex := 8, attributes := #[] }, { accessFlags := 9, nameIndex := 252, descriptorIndex := 53, attributes := #[] }] 48 4 #[] #[{ accessFlags := 4120, nameIndex := 121, descriptorIndex := 122, attributes := #[] }])
  fields := #[{ name := "$assertionsDisabled", type := .boolean, accessFlags := 4120, slot := 0, constantValue := 0 }]
  methods := #[k8m0, k8m1]
  instanceTypes := #[]
  staticTypes := #[.boolean]
  resolved := Array.replicate 395 none
  statics := none }

def pool9 : Array CpInfo := pool [(2, .class_ 4), (1, u "java/lang/Object"), (0, u "<init>"), (0, u "()V"), (17, .class_ 26), (1, u "jdk/internal/util/Preconditions"), (6, u "checkIndex"), (21, .class_ 56), (0, u "jdk/internal/util/Preconditions$4"), (57, .class_ 115), (0, u "jdk/internal/util/Preconditions$1"), (7, u "SIOOBE_FORMATTER"), (0, u "Ljava/util/function/BiFunction;"), (0, .class_ 126), (0, u "jdk/internal/util/Preconditions$2"), (3, u "AIOOBE_FORMATTER"), (0, .class_ 132), (0, u "jdk/internal/util/Preconditions$3"), (3, u "IOOBE_FORMATTER"), (41, u "(IILjava/util/function/BiFunction;)I")] 15

def k9m0 : Method := { name := "<init>", desc := "()V", sig := { parameters := [], returnType := none }, accessFlags := 1, code := none }
def k9c1 : Code := { maxStack := 3, maxLocals := 3, code := jdk_41_method_11_code, exceptionTable := #[], attributes := #[] }
def k9m1 : Method := { name := "checkIndex", desc := "(IILjava/util/function/BiFunction;)I", sig := { parameters := [.int, .int, (.object "java/util/function/BiFunction")], returnType := some .int }, accessFlags := 9, code := some k9c1 }
/-- jdk/internal/util/Preconditions -/
def k9 : Class := { plain "jdk/internal/util/Preconditions" (some 0) with
  accessFlags := 33
  interfaces := #[]
  cf := some (fileOf pool9 24 #[.nestMembers #[55, 131, 125, 114]] #[{ accessFlags := 1, nameIndex := 5, descriptorIndex := 6, attributes := #[] }, { accessFlags := 9, nameIndex := 33, descriptorIndex := 178, attributes := #[] }] 33 2 #[] #[{ accessFlags := 25, nameIndex := 123, descriptorIndex := 124, attributes := #[] }, { accessFlags := 25, nameIndex := 130, descriptorIndex := 124, attributes := #[] }, { accessFlags := 25, nameIndex := 136, descriptorIndex := 124, attributes := #[] }])
  fields := #[{ name := "SIOOBE_FORMATTER", type := (.object "java/util/function/BiFunction"), accessFlags := 25, slot := 0, constantValue := 0 }, { name := "AIOOBE_FORMATTER", type := (.object "java/util/function/BiFunction"), accessFlags := 25, slot := 1, constantValue := 0 }, { name := "IOOBE_FORMATTER", type := (.object "java/util/function/BiFunction"), accessFlags := 25, slot := 2, constantValue := 0 }]
  methods := #[k9m0, k9m1]
  instanceTypes := #[]
  staticTypes := #[(.object "java/util/function/BiFunction"), (.object "java/util/function/BiFunction"), (.object "java/util/function/BiFunction")]
  resolved := Array.replicate 194 none
  statics := some 1 }

def pool10 : Array CpInfo := pool [(2, .class_ 4), (1, u "java/lang/Object"), (0, u "<init>"), (0, u "()V"), (7, .class_ 16), (1, u "com/example/finegrain/finegrain/formats/IsoTimes"), (0, u "DATE_LENGTH"), (0, u "I"), (42, u "MINUTE_LENGTH"), (5, u "SECOND_LENGTH"), (18, u "isDigit"), (0, u "(C)Z")] 31

def k10m0 : Method := { name := "<init>", desc := "()V", sig := { parameters := [], returnType := none }, accessFlags := 2, code := none }
def k10c1 : Code := { maxStack := 2, maxLocals := 1, code := prog_61_method_10_code, exceptionTable := #[], attributes := #[] }
def k10m1 : Method := { name := "isDigit", desc := "(C)Z", sig := { parameters := [.char], returnType := some .boolean }, accessFlags := 8, code := some k10c1 }
/-- com/example/finegrain/finegrain/formats/IsoTimes -/
def k10 : Class := { plain "com/example/finegrain/finegrain/formats/IsoTimes" (some 0) with
  accessFlags := 48
  interfaces := #[]
  cf := some (fileOf pool10 14 #[] #[{ accessFlags := 2, nameIndex := 5, descriptorIndex := 6, attributes := #[] }, { accessFlags := 8, nameIndex := 86, descriptorIndex := 87, attributes := #[] }] 48 2 #[] #[{ accessFlags := 26, nameIndex := 17, descriptorIndex := 18, attributes := #[] }, { accessFlags := 26, nameIndex := 61, descriptorIndex := 18, attributes := #[] }, { accessFlags := 26, nameIndex := 67, descriptorIndex := 18, attributes := #[] }])
  fields := #[{ name := "DATE_LENGTH", type := .int, accessFlags := 26, slot := 0, constantValue := 0 }, { name := "MINUTE_LENGTH", type := .int, accessFlags := 26, slot := 1, constantValue := 0 }, { name := "SECOND_LENGTH", type := .int, accessFlags := 26, slot := 2, constantValue := 0 }]
  methods := #[k10m0, k10m1]
  instanceTypes := #[]
  staticTypes := #[.int, .int, .int]
  resolved := Array.replicate 119 none
  statics := none }

def pool11 : Array CpInfo := pool [(9, u "<init>"), (6, .class_ 18), (1, u "java/lang/Object"), (0, u "()V"), (1, .class_ 23), (1, u "jdk/internal/util/ArraysSupport"), (0, u "LOG2_ARRAY_LONG_INDEX_SCALE"), (0, u "I"), (2, u "U"), (0, u "Ljdk/internal/misc/Unsafe;"), (8, u "BIG_ENDIAN"), (0, u "Z"), (8, u "LOG2_BYTE_BIT_SIZE"), (4, u "LOG2_ARRAY_INT_INDEX_SCALE"), (54, u "JLA"), (0, u "Ljdk/internal/access/JavaLangAccess;"), (11, u "LOG2_ARRAY_BOOLEAN_INDEX_SCALE"), (9, u "LOG2_ARRAY_BYTE_INDEX_SCALE"), (5, u "LOG2_ARRAY_CHAR_INDEX_SCALE"), (5, u "LOG2_ARRAY_SHORT_INDEX_SCALE"), (18, u "LOG2_ARRAY_FLOAT_INDEX_SCALE"), (24, u "LOG2_ARRAY_DOUBLE_INDEX_SCALE"), (89, u "T_BOOLEAN"), (2, u "T_CHAR"), (1, u "T_FLOAT"), (1, u "T_DOUBLE"), (1, u "T_BYTE"), (1, u "T_SHORT"), (1, u "T_INT"), (1, u "T_LONG"), (1, u "SOFT_MAX_ARRAY_LENGTH")] 83

def k11m0 : Method := { name := "<init>", desc := "()V", sig := { parameters := [], returnType := none }, accessFlags := 2, code := none }
/-- jdk/internal/util/ArraysSupport -/
def k11 : Class := { plain "jdk/internal/util/ArraysSupport" (some 0) with
  accessFlags := 33
  interfaces := #[]
  cf := some (fileOf pool11 21 #[] #[{ accessFlags := 2, nameIndex := 9, descriptorIndex := 19, attributes := #[] }] 33 16 #[] #[{ accessFlags := 24, nameIndex := 28, descriptorIndex := 29, attributes := #[] }, { accessFlags := 26, nameIndex := 38, descriptorIndex := 39, attributes := #[] }, { accessFlags := 25, nameIndex := 121, descriptorIndex := 25, attributes := #[] }, { accessFlags := 25, nameIndex := 131, descriptorIndex := 25, attributes := #[] }, { accessFlags := 25, nameIndex := 137, descriptorIndex := 25, attributes := #[] }, { accessFlags := 25, nameIndex := 143, descriptorIndex := 25, attributes := #[] }, { accessFlags := 25, nameIndex := 53, descriptorIndex := 25, attributes := #[] }, { accessFlags := 25, nameIndex := 24, descriptorIndex := 25, attributes := #[] }, { accessFlags := 25, nameIndex := 162, descriptorIndex := 25, attributes := #[] }, { accessFlags := 25, nameIndex := 187, descriptorIndex := 25, attributes := #[] }, { accessFlags := 26, nameIndex := 48, descriptorIndex := 25, attributes := #[] }, { accessFlags := 25, nameIndex := 277, descriptorIndex := 25, attributes := #[] }, { accessFlags := 25, nameIndex := 280, descriptorIndex := 25, attributes := #[] }, { accessFlags := 25, nameIndex := 282, descriptorIndex := 25, attributes := #[] }, { accessFlags := 25, nameIndex := 284, descriptorIndex := 25, attributes := #[] }, { accessFlags := 25, nameIndex := 286, descriptorIndex := 25, attributes := #[] }, { accessFlags := 25, nameIndex := 288, descriptorIndex := 25, attributes := #[] }, { accessFlags := 25, nameIndex := 290, descriptorIndex := 25, attributes := #[] }, { accessFlags := 25, nameIndex := 292, descriptorIndex := 25, attributes := #[] }, { accessFlags := 26, nameIndex := 108, descriptorIndex := 109, attributes := #[] }, { accessFlags := 25, nameIndex := 294, descriptorIndex := 25, attributes := #[] }])
  fields := #[{ name := "U", type := (.object "jdk/internal/misc/Unsafe"), accessFlags := 24, slot := 0, constantValue := 0 }, { name := "BIG_ENDIAN", type := .boolean, accessFlags := 26, slot := 1, constantValue := 0 }, { name := "LOG2_ARRAY_BOOLEAN_INDEX_SCALE", type := .int, accessFlags := 25, slot := 2, constantValue := 0 }, { name := "LOG2_ARRAY_BYTE_INDEX_SCALE", type := .int, accessFlags := 25, slot := 3, constantValue := 0 }, { name := "LOG2_ARRAY_CHAR_INDEX_SCALE", type := .int, accessFlags := 25, slot := 4, constantValue := 0 }, { name := "LOG2_ARRAY_SHORT_INDEX_SCALE", type := .int, accessFlags := 25, slot := 5, constantValue := 0 }, { name := "LOG2_ARRAY_INT_INDEX_SCALE", type := .int, accessFlags := 25, slot := 6, constantValue := 0 }, { name := "LOG2_ARRAY_LONG_INDEX_SCALE", type := .int, accessFlags := 25, slot := 7, constantValue := 0 }, { name := "LOG2_ARRAY_FLOAT_INDEX_SCALE", type := .int, accessFlags := 25, slot := 8, constantValue := 0 }, { name := "LOG2_ARRAY_DOUBLE_INDEX_SCALE", type := .int, accessFlags := 25, slot := 9, constantValue := 0 }, { name := "LOG2_BYTE_BIT_SIZE", type := .int, accessFlags := 26, slot := 10, constantValue := 0 }, { name := "T_BOOLEAN", type := .int, accessFlags := 25, slot := 11, constantValue := 0 }, { name := "T_CHAR", type := .int, accessFlags := 25, slot := 12, constantValue := 0 }, { name := "T_FLOAT", type := .int, accessFlags := 25, slot := 13, constantValue := 0 }, { name := "T_DOUBLE", type := .int, accessFlags := 25, slot := 14, constantValue := 0 }, { name := "T_BYTE", type := .int, accessFlags := 25, slot := 15, constantValue := 0 }, { name := "T_SHORT", type := .int, accessFlags := 25, slot := 16, constantValue := 0 }, { name := "T_INT", type := .int, accessFlags := 25, slot := 17, constantValue := 0 }, { name := "T_LONG", type := .int, accessFlags := 25, slot := 18, constantValue := 0 }, { name := "JLA", type := (.object "jdk/internal/access/JavaLangAccess"), accessFlags := 26, slot := 19, constantValue := 0 }, { name := "SOFT_MAX_ARRAY_LENGTH", type := .int, accessFlags := 25, slot := 20, constantValue := 0 }]
  methods := #[k11m0]
  instanceTypes := #[]
  staticTypes := #[(.object "jdk/internal/misc/Unsafe"), .boolean, .int, .int, .int, .int, .int, .int, .int, .int, .int, .int, .int, .int, .int, .int, .int, .int, .int, (.object "jdk/internal/access/JavaLangAccess"), .int]
  resolved := Array.replicate 378 none
  statics := none }

def pool12 : Array CpInfo := pool [(1, u "java/lang/Cloneable"), (0, .class_ 1), (0, u "java/lang/Object"), (0, .class_ 3)] 3

/-- java/lang/Cloneable -/
def k12 : Class := { plain "java/lang/Cloneable" (some 0) with
  accessFlags := 1537
  interfaces := #[]
  cf := some (fileOf pool12 2 #[] #[] 1537 4 #[] #[])
  fields := #[]
  methods := #[]
  instanceTypes := #[]
  staticTypes := #[]
  resolved := Array.replicate 8 none
  statics := none }

/-- the primitive byte -/
def k13 : Class := { plain "byte" none with kind := .primitive 'B', accessFlags := 0x411 }
/-- [B -/
def k14 : Class := { plain "[B" (some 0) with kind := .array 13 .byte, interfaces := #[12, 2], accessFlags := 1041 }

/-- the primitive int -/
def k15 : Class := { plain "int" none with kind := .primitive 'I', accessFlags := 0x411 }
/-- [I -/
def k16 : Class := { plain "[I" (some 0) with kind := .array 15 .int, interfaces := #[12, 2], accessFlags := 1041 }

def heap : Heap := #[{ cls := 7, slots := #[.long 0, .int 1, .null, .int 0, .null, .int 0, .int 0], vm := .statics 7 },
  { cls := 9, slots := #[.null, .null, .null], vm := .statics 9 }]
def classes : Array Class := #[k0, k1, k2, k3, k4, k5, k6, k7, k8, k9, k10, k11, k12, k13, k14, k15, k16]
def interned : List (Array UInt16 × Addr) := []
def slotsUsed : Nat := 10
def theMethod : MethodId := ⟨1, 1⟩
def args0 : Array Value := #[.int 5]
def aboutOver (below : List Frame) : State where
  vm := { classes := classes, interned := interned.toArray }
  heap := heap
  slotsUsed := slotsUsed
  threads := #[{ frames := .invoking theMethod args0 :: below }]
def below0 : List Frame := [.native { method := ⟨0, 0⟩, args := #[] }]
def about1 : State := aboutOver below0
def p0 : Program := .bare "" "" ""
def e0 : Env := launch0.env 0 0 0
theorem w_frames : about1.frames = Frame.invoking theMethod args0 :: below0 := rfl
set_option maxRecDepth 65536 in
theorem w_args : argsFit about1.vm theMethod args0 = true := by decide +kernel
set_option maxRecDepth 65536 in
theorem w_heap : heapFits about1 = true := by decide +kernel
set_option maxRecDepth 65536 in
theorem w_runnable : about1.curStatus? = some .runnable := by decide +kernel
set_option maxRecDepth 65536 in
theorem w_alone : about1.alone = true := by decide +kernel
set_option maxRecDepth 65536 in
theorem w_named : about1.methodNamed? x = some theMethod := by decide +kernel
set_option maxRecDepth 65536 in
theorem w_hears : about1.hears theMethod below0 = true := by decide +kernel
set_option maxRecDepth 65536 in
theorem w_ripe : about1.ripe theMethod args0 below0 = true := by decide +kernel
theorem w_running : about1.status = .running := rfl
set_option maxRecDepth 65536 in
theorem w_room : about1.hasRoom e0.platform room_1 = true :=
  launch0.hasRoom_least _ room_1 (by decide +kernel) (by decide +kernel) (by decide +kernel) (by decide +kernel) (by decide +kernel) (by decide +kernel)
theorem allAtoms_all (ts : List Jvm.Cond) (a : Array Jvm.Value) (st : Jvm.State) : (allAtoms ts).before a st = ts.all (fun c => c.before a st) := by
  induction ts with
  | nil => rfl
  | cons c t ih =>
    show (Jvm.Cond.and c (allAtoms t)).before a st = _
    rw [Jvm.Cond.before_and, ih, List.all_cons]
def words1 : List Jvm.Cond := Jvm.Cond.code x code maxLocals ret :: tables_1
/-- a 'code' word, met by the world's own term for the bytes: nothing is compared byte by byte -/
theorem code_word {y : MethodName} {bytes : ByteArray} {mx : Nat} {rt : Option FieldType} {a : Array Value} {s : State} {m : MethodId} {meth : Method} {c : Code} (h1 : s.methodNamed? y = some m) (h2 : s.vm.method? m = some meth) (h3 : meth.code = some c) (h4 : c.code = bytes)
    (h5 : (c.maxLocals == mx && c.exceptionTable.isEmpty && decide (c.maxStack ≤ mostOperands) && decide (meth.sig.returnType = rt) && !meth.locks && decide (parseMethodDescriptor y.desc = some meth.sig)) = true) : (Jvm.Cond.code y bytes mx rt).before a s = true := by
  simp only [Bool.and_eq_true, beq_iff_eq, Bool.not_eq_true', decide_eq_true_eq] at h5
  obtain ⟨⟨⟨⟨⟨g1, g2⟩, g3⟩, g4⟩, g5⟩, g6⟩ := h5
  simp [Cond.before, Cond.holds, Cond.value, h1, h2, h3, h4, g1, g2, g3, g4, g5, g6]
def isCode : Jvm.Cond → Bool
  | .code _ _ _ _ => true
  | _ => false
theorem all_split {L : List Jvm.Cond} {P : Jvm.Cond → Bool} (h1 : L.all (fun c => isCode c || P c) = true) (h2 : ∀ c ∈ L.filter isCode, P c = true) : L.all P = true := by
  refine List.all_eq_true.mpr fun c hc => ?_
  have h := List.all_eq_true.mp h1 c hc
  rcases Bool.eq_false_or_eq_true (isCode c) with hi | hi
  · exact h2 c (List.mem_filter.mpr ⟨hc, hi⟩)
  · simpa [hi] using h
set_option maxRecDepth 65536 in
theorem w_c0 : (Jvm.Cond.code x code maxLocals ret).before args0 about1 = true := code_word (m := ⟨1, 1⟩) (meth := k1m1) (c := k1c1) (by decide +kernel) rfl rfl rfl (by decide +kernel)
set_option maxRecDepth 65536 in
theorem w_c1 : (Jvm.Cond.code ({ cls := "java/lang/String", name := "charAt", desc := "(I)C" } : Jvm.MethodName) jdk_42_method_56_code (2 : Nat) (Option.some Jvm.ClassFile.FieldType.char)).before args0 about1 = true := code_word (m := ⟨7, 1⟩) (meth := k7m1) (c := k7c1) (by decide +kernel) rfl rfl rfl (by decide +kernel)
set_option maxRecDepth 65536 in
theorem w_c2 : (Jvm.Cond.code ({ cls := "java/lang/String", name := "isLatin1", desc := "()Z" } : Jvm.MethodName) jdk_42_method_154_code (1 : Nat) (Option.some Jvm.ClassFile.FieldType.boolean)).before args0 about1 = true := code_word (m := ⟨7, 2⟩) (meth := k7m2) (c := k7c2) (by decide +kernel) rfl rfl rfl (by decide +kernel)
set_option maxRecDepth 65536 in
theorem w_c3 : (Jvm.Cond.code ({ cls := "java/lang/StringLatin1", name := "charAt", desc := "([BI)C" } : Jvm.MethodName) jdk_43_method_2_code (2 : Nat) (Option.some Jvm.ClassFile.FieldType.char)).before args0 about1 = true := code_word (m := ⟨8, 1⟩) (meth := k8m1) (c := k8c1) (by decide +kernel) rfl rfl rfl (by decide +kernel)
set_option maxRecDepth 65536 in
theorem w_c4 : (Jvm.Cond.code ({ cls := "java/lang/String", name := "checkIndex", desc := "(II)V" } : Jvm.MethodName) jdk_42_method_155_code (2 : Nat) (Option.none : Option Jvm.ClassFile.FieldType)).before args0 about1 = true := code_word (m := ⟨7, 3⟩) (meth := k7m3) (c := k7c3) (by decide +kernel) rfl rfl rfl (by decide +kernel)
set_option maxRecDepth 65536 in
theorem w_c5 : (Jvm.Cond.code ({ cls := "jdk/internal/util/Preconditions", name := "checkIndex", desc := "(IILjava/util/function/BiFunction;)I" } : Jvm.MethodName) jdk_41_method_11_code (3 : Nat) (Option.some Jvm.ClassFile.FieldType.int)).before args0 about1 = true := code_word (m := ⟨9, 1⟩) (meth := k9m1) (c := k9c1) (by decide +kernel) rfl rfl rfl (by decide +kernel)
set_option maxRecDepth 65536 in
theorem w_c6 : (Jvm.Cond.code ({ cls := "com/example/finegrain/finegrain/formats/IsoTimes", name := "isDigit", desc := "(C)Z" } : Jvm.MethodName) prog_61_method_10_code (1 : Nat) (Option.some Jvm.ClassFile.FieldType.boolean)).before args0 about1 = true := code_word (m := ⟨10, 1⟩) (meth := k10m1) (c := k10c1) (by decide +kernel) rfl rfl rfl (by decide +kernel)
def codes1 : List Jvm.Cond := [Jvm.Cond.code x code maxLocals ret, Jvm.Cond.code ({ cls := "java/lang/String", name := "charAt", desc := "(I)C" } : Jvm.MethodName) jdk_42_method_56_code (2 : Nat) (Option.some Jvm.ClassFile.FieldType.char), Jvm.Cond.code ({ cls := "java/lang/String", name := "isLatin1", desc := "()Z" } : Jvm.MethodName) jdk_42_method_154_code (1 : Nat) (Option.some Jvm.ClassFile.FieldType.boolean), Jvm.Cond.code ({ cls := "java/lang/StringLatin1", name := "charAt", desc := "([BI)C" } : Jvm.MethodName) jdk_43_method_2_code (2 : Nat) (Option.some Jvm.ClassFile.FieldType.char), Jvm.Cond.code ({ cls := "java/lang/String", name := "checkIndex", desc := "(II)V" } : Jvm.MethodName) jdk_42_method_155_code (2 : Nat) (Option.none : Option Jvm.ClassFile.FieldType), Jvm.Cond.code ({ cls := "jdk/internal/util/Preconditions", name := "checkIndex", desc := "(IILjava/util/function/BiFunction;)I" } : Jvm.MethodName) jdk_41_method_11_code (3 : Nat) (Option.some Jvm.ClassFile.FieldType.int), Jvm.Cond.code ({ cls := "com/example/finegrain/finegrain/formats/IsoTimes", name := "isDigit", desc := "(C)Z" } : Jvm.MethodName) prog_61_method_10_code (1 : Nat) (Option.some Jvm.ClassFile.FieldType.boolean)]
set_option maxRecDepth 65536 in
theorem codes_eq : words1.filter isCode = codes1 := rfl
theorem w_codes : ∀ c ∈ words1.filter isCode, c.before args0 about1 = true := by
  rw [codes_eq]
  intro c hc
  simp only [codes1, List.mem_cons, List.not_mem_nil, or_false] at hc
  rcases hc with rfl | rfl | rfl | rfl | rfl | rfl | rfl
  · exact w_c0
  · exact w_c1
  · exact w_c2
  · exact w_c3
  · exact w_c4
  · exact w_c5
  · exact w_c6
set_option maxRecDepth 65536 in
theorem w_t1 : (words1.take 24).all (fun c => isCode c || c.before args0 about1) = true := by decide +kernel
set_option maxRecDepth 65536 in
theorem w_t2 : (words1.drop 24).all (fun c => isCode c || c.before args0 about1) = true := by decide +kernel
theorem w_tables : (allAtoms (Jvm.Cond.code x code maxLocals ret :: tables_1)).before args0 about1 = true := by
  rw [allAtoms_all]
  show words1.all (fun c => c.before args0 about1) = true
  refine all_split ?_ w_codes
  rw [← List.take_append_drop 24 words1, List.all_append, w_t1, w_t2]
  rfl
set_option maxRecDepth 65536 in
theorem w_rest : rest_1_c.before args0 about1 = true := by decide +kernel
set_option maxRecDepth 65536 in
theorem w_case : (Jvm.Cond.and given_1 narrow_1).before args0 about1 = true := by decide +kernel
set_option maxRecDepth 65536 in
theorem w_consts : constsHeld consts_1 about1 := Jvm.Lit.constsHeldB_iff.mp (by decide +kernel)
theorem w_applies : (headSpec (Jvm.Cond.code x code maxLocals ret :: tables_1) room_1).applies x e0.platform about1 = true :=
  (Spec.applies_iff w_frames).mpr ⟨w_running, w_runnable, w_alone, w_named, w_hears, w_ripe, w_room, w_tables⟩
theorem atStart : AtStart classFile x code maxLocals ret World_1 tables_1 room_1 Calls_1 rest_1 Pre_1 launch0 p0 e0 about1 theMethod args0 below0 :=
  ⟨lists_1, trivial, launch0.admits_env _ _ _, launch0.least_env, fairChoices_fair.cas, fairChoices_fair.clock, w_frames, w_args, w_heap, w_applies, ⟨w_consts, trivial⟩, w_rest, w_case⟩
end start1
theorem witness_1 : WitnessClaimed_1 := ⟨start1.p0, start1.e0, start1.about1, start1.theMethod, start1.args0, start1.below0, start1.atStart⟩
end Jvm.Pilot.@@N@@
