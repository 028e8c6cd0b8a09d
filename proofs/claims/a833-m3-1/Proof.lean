import JvmDerived
import JvmDerived.Pilot.@@N@@Statement
import JvmDerived.Pilot.@@N@@Code
set_option linter.unusedVariables false
set_option linter.unusedSimpArgs false
@@BLOCK:NumsL.lean.txt@@
namespace Jvm.RoadKit
open Sem ClassFile Op Lib Jvm.Stand Jvm.Free Jvm.LawKit
section Own
variable {p : Program} {l : Launch} {e : Env} {R : Room} {s : State} {m : MethodId} {args : Array Value} {below : List Frame} {meth : Method} {c : Code} {T : State} {locs : List Loc} {cells slots : Nat} {Z : State} {a0 : Array Value} {h : Heap}
/-- from the state F the walked method comes to its end, and Q holds there -/
def own_Out (p : Program) (e : Env) (below : List Frame) (Q : Outcome → State → Prop) (F : State) : Prop :=
  ∃ s₂ o, Steps p.tables e below F s₂ ∧ s₂.status = .running ∧ Ended s₂ below o ∧ Q o s₂
/-- what a contract says of the end, out of a statement on the value, the heap and the written places -/
def own_Q (Q : Option Value → Heap → List Loc → Prop) (s : State) (k n : Nat) : Outcome → State → Prop :=
  fun o U => ∃ v L, o = .returned v ∧ Q v U.heap L ∧ FrameEnd s o U L k n
theorem own_st {Q : Outcome → State → Prop} {F G : State} (h : ∀ t, Steps p.tables e below G t → Steps p.tables e below F t) (k : own_Out p e below Q G) : own_Out p e below Q F := by
  obtain ⟨s2, o, h1, h2⟩ := k
  exact ⟨s2, o, h _ h1, h2⟩
theorem own_tr {Q : Outcome → State → Prop} {F G : State} (h : Steps p.tables e below F G) (k : own_Out p e below Q G) : own_Out p e below Q F :=
  own_st (fun _ q => h.trans q) k
theorem own_retB (X : Stand p l e R s m args below meth c T locs cells slots) (hx : p.tables.exec = Jvm.exec) {Q : Option Value → Heap → List Loc → Prop} {k n : Nat} {pc : Nat} {Ls : Array Slot} {z : Int32} {t : FieldType} {rest : List Value}
    (hret : meth.sig.returnType = some t) (ht : t = .boolean ∨ t = .byte ∨ t = .char ∨ t = .short) (hlk : meth.locks = false) (hd : decode c.code pc = .ok (.ireturn, 1)) (hc : cells ≤ k) (hs : slots ≤ n)
    (hq : Q (some (.int (nar t z))) T.heap locs) : own_Out p e below (own_Q Q s k n) (T.setTop (mkF m pc Ls (.int z :: rest))) := by
  obtain ⟨fs, hr, hrun, hended, hW, hsame⟩ := X.leave (v := some (.int (nar t z))) (fun h => by rw [hret] at h; cases h) hlk
  exact ⟨_, _, retN X hx (t := t) hret ht hd hr, hrun, hended, _, _, rfl, hq, ⟨_, rfl⟩, hW, hsame.mono hc hs⟩
theorem own_retV (X : Stand p l e R s m args below meth c T locs cells slots) (hx : p.tables.exec = Jvm.exec) {Q : Option Value → Heap → List Loc → Prop} {k n : Nat} {pc : Nat} {Ls : Array Slot} {w : Value} {t : FieldType} {i : Instr} {rest : List Value}
    (hret : meth.sig.returnType = some t) (hn : narrow t w = w)
    (hi : (i = .ireturn ∧ (t = .int ∨ t = .boolean ∨ t = .byte ∨ t = .char ∨ t = .short) ∧ ∃ z, w = .int z) ∨ (i = .lreturn ∧ t = .long ∧ ∃ z, w = .long z) ∨ (i = .dreturn ∧ t = .double ∧ ∃ z, w = .double z) ∨ (i = .freturn ∧ t = .float ∧ ∃ z, w = .float z) ∨ (i = .areturn ∧ t.isReference = true ∧ w.isRef = true))
    (hlk : meth.locks = false) (hd : decode c.code pc = .ok (i, 1)) (hc : cells ≤ k) (hs : slots ≤ n)
    (hq : Q (some w) T.heap locs) : own_Out p e below (own_Q Q s k n) (T.setTop (mkF m pc Ls (w :: rest))) := by
  obtain ⟨fs, hr, hrun, hended, hW, hsame⟩ := X.leave (v := some w) (fun h => by rw [hret] at h; cases h) hlk
  exact ⟨_, _, retOut X hx hret hn hi hd hr, hrun, hended, _, _, rfl, hq, ⟨_, rfl⟩, hW, hsame.mono hc hs⟩
theorem own_retI (X : Stand p l e R s m args below meth c T locs cells slots) (hx : p.tables.exec = Jvm.exec) {Q : Option Value → Heap → List Loc → Prop} {k n : Nat} {pc : Nat} {Ls : Array Slot} {z : Int32} {rest : List Value}
    (hret : meth.sig.returnType = some .int) (hlk : meth.locks = false) (hd : decode c.code pc = .ok (.ireturn, 1)) (hc : cells ≤ k) (hs : slots ≤ n)
    (hq : Q (some (.int z)) T.heap locs) : own_Out p e below (own_Q Q s k n) (T.setTop (mkF m pc Ls (.int z :: rest))) :=
  own_retV X hx hret rfl (Or.inl ⟨rfl, Or.inl rfl, _, rfl⟩) hlk hd hc hs hq
theorem own_retJ (X : Stand p l e R s m args below meth c T locs cells slots) (hx : p.tables.exec = Jvm.exec) {Q : Option Value → Heap → List Loc → Prop} {k n : Nat} {pc : Nat} {Ls : Array Slot} {z : Int64} {rest : List Value}
    (hret : meth.sig.returnType = some .long) (hlk : meth.locks = false) (hd : decode c.code pc = .ok (.lreturn, 1)) (hc : cells ≤ k) (hs : slots ≤ n)
    (hq : Q (some (.long z)) T.heap locs) : own_Out p e below (own_Q Q s k n) (T.setTop (mkF m pc Ls (.long z :: rest))) :=
  own_retV X hx hret rfl (Or.inr (Or.inl ⟨rfl, rfl, _, rfl⟩)) hlk hd hc hs hq
theorem own_retA (X : Stand p l e R s m args below meth c T locs cells slots) (hx : p.tables.exec = Jvm.exec) {Q : Option Value → Heap → List Loc → Prop} {k n : Nat} {pc : Nat} {Ls : Array Slot} {w : Value} {t : FieldType} {rest : List Value}
    (hret : meth.sig.returnType = some t) (ht : t.isReference = true) (hw : w.isRef = true) (hlk : meth.locks = false) (hd : decode c.code pc = .ok (.areturn, 1)) (hc : cells ≤ k) (hs : slots ≤ n)
    (hq : Q (some w) T.heap locs) : own_Out p e below (own_Q Q s k n) (T.setTop (mkF m pc Ls (w :: rest))) :=
  own_retV X hx hret (by cases t <;> first | (cases ht; done) | rfl | (cases w <;> rfl)) (Or.inr (Or.inr (Or.inr (Or.inr ⟨rfl, ht, hw⟩)))) hlk hd hc hs hq
theorem own_ret0 (X : Stand p l e R s m args below meth c T locs cells slots) (hx : p.tables.exec = Jvm.exec) {Q : Option Value → Heap → List Loc → Prop} {k n : Nat} {pc : Nat} {Ls : Array Slot}
    (hret : meth.sig.returnType = none) (hlk : meth.locks = false) (hd : decode c.code pc = .ok (.return_, 1)) (hc : cells ≤ k) (hs : slots ≤ n)
    (hq : Q none T.heap locs) : own_Out p e below (own_Q Q s k n) (T.setTop (mkF m pc Ls [])) := by
  obtain ⟨fs, hr, hrun, hended, hW, hsame⟩ := X.leave (v := none) (fun _ => rfl) hlk
  exact ⟨_, _, X.returnOut hx hret hd hr, hrun, hended, _, _, rfl, hq, ⟨_, rfl⟩, hW, hsame.mono hc hs⟩
/-- the head of every body's walk -/
theorem own_body {x : MethodName} {code : ByteArray} {maxL : Nat} {ret : Option FieldType} {ws : List Jvm.Cond} {rm : Room} {as' : Array Value} {Q : Option Value → Heap → List Loc → Prop} (hpn : plainFor x = true) (Lf : Array Slot)
    (hent : ∀ m, entryFrame m as' maxL = mkF m 0 Lf [])
    (body : ∀ p e s m below meth c T, Stand p l e rm s m as' below meth c T [] 0 0 → p.tables.exec = Jvm.exec → c.code = code → c.maxLocals = maxL → meth.sig.returnType = ret → meth.locks = false →
      s.vm.findClass x.cls = some m.cls → meth.name = x.name → Z.Warmed39 s.vm → T.heap = h → own_Out p e below (own_Q Q s rm.cells rm.slots) (T.setTop (mkF m 0 Lf []))) :
    MetFree l x (head1 (Jvm.Cond.code x code maxL ret :: ws) rm) (fun a U => a = as' ∧ Z.Warmed39 U.vm ∧ U.heap = h) (fun _ _ _ _ _ => True)
      (fun _ U o U' => ∃ v L, o = .returned v ∧ Q v U'.heap L ∧ FrameEnd U o U' L rm.cells rm.slots) := by
  refine MetFree.of_bodySF hpn hisR ?_
  intro p e s m args below meth c s₁ Bd hml0 hP hK
  obtain ⟨rfl, hZ, hh⟩ := hP
  have e0 : s₁.heap = h := by rw [← hh, Bd.state]; rfl
  obtain ⟨s2, o, h1, h2⟩ := body p e s m below meth c s₁ (Stand.of_body Bd) Bd.exec Bd.bytes hml0 Bd.returns (BodyLoose.notSynchronized Bd) (findClass_of_methodNamed Bd.named) (name_of_methodNamed Bd.named Bd.method).1 hZ e0
  exact ⟨s2, o, castTop (hent m) h1, h2⟩
/-- a static call by the callee's own contract -/
theorem own_callS (X : Stand p l e R s m args below meth c T locs cells slots) (hx : p.tables.exec = Jvm.exec) (hZ : Z.Warmed39 s.vm) {own : String} {index : Nat} {y : MethodName} {bytes : ByteArray} {maxL : Nat} {ret : Option FieldType} {rm : Room} {as' : List Value} {Q : Option Value → Heap → List Loc → Prop} {Qf : Outcome → State → Prop}
    (hown : s.vm.findClass own = some m.cls) (w1 : (Jvm.Cond.methodLink own index y).before a0 Z = true) (w2 : (Jvm.Cond.static y).before a0 Z = true) (w3 : (Jvm.Cond.initialized y.cls).before a0 Z = true) (w4 : (Jvm.Cond.code y bytes maxL ret).before a0 Z = true)
    (hy : y.cls ≠ "java/lang/invoke/MethodHandle" ∧ y.cls ≠ "java/lang/invoke/VarHandle")
    (hM : MetFree l y (head1 [Jvm.Cond.code y bytes maxL ret] rm) (fun a U => a = as'.toArray ∧ Z.Warmed39 U.vm ∧ U.heap = h) (fun _ _ _ _ _ => True) (fun _ U o U' => ∃ v L, o = .returned v ∧ Q v U'.heap L ∧ FrameEnd U o U' L rm.cells rm.slots))
    (W : Nat) (hf : rm.frames + 1 ≤ R.frames) (hl : W + (maxL + 11) + rm.locals ≤ R.locals) (hc : cells + rm.cells ≤ R.cells) (hs : slots + rm.slots ≤ R.slots)
    {pc : Nat} {Ls : Array Slot} {stk rest : List Value} (hsize : Ls.size = c.maxLocals) (hlen : ∀ sig, parseMethodDescriptor y.desc = some sig → as'.length = sig.parameters.length) (hstack : stk = as'.reverse ++ rest) (hW : (rest.map fun v => v.category).sum ≤ W) (hd : decode c.code pc = .ok (.invokestatic index, 3)) (eT : T.heap = h)
    (k : ∀ T' L v, Stand p l e R s m args below meth c T' (locs ++ L) (cells + rm.cells) (slots + rm.slots) → Q v T'.heap L → own_Out p e below Qf (T'.setTop (mkF m (pc + 3) Ls (v.toList ++ rest)))) :
    own_Out p e below Qf (T.setTop (mkF m pc Ls stk)) := by
  obtain ⟨v, _, ⟨T', L', k', n'⟩, -, X', ⟨Lc, hQ, hl', hy', hz'⟩, st⟩ := Jvm.LawKit.callS X hx (y := y) hown (mvT hZ w1) (mvT hZ w2) (mvT hZ w3) (mvT hZ w4) hy (backOf (W := W) hM hZ w4 w3 hf hl) (g := mkF m pc Ls stk) rfl hsize (argsL := as') (rest := rest) hlen hstack (by show 2 * 0 + _ ≤ _; omega) hd (fun _ _ => ⟨rfl, eT, hc, hs⟩)
  dsimp only [Pt.U, Pt.locs, Pt.cells, Pt.slots] at X' hl' hy' hz' st hQ
  subst hl' hy' hz'
  exact own_st st (k _ _ _ X' hQ)
/-- an instance method by its own contract -/
theorem own_callV (X : Stand p l e R s m args below meth c T locs cells slots) (hx : p.tables.exec = Jvm.exec) (hZ : Z.Warmed39 s.vm) {own C : String} {index : Nat} {y : MethodName} {bytes : ByteArray} {maxL : Nat} {ret : Option FieldType} {rm : Room} {b : Addr} {as' : List Value} {Q : Option Value → Heap → List Loc → Prop} {Qf : Outcome → State → Prop}
    (hown : s.vm.findClass own = some m.cls) (w1 : (Jvm.Cond.methodLink own index y).before a0 Z = true) (w2 : (Jvm.Cond.declares y).before a0 Z = true) (w5 : (Jvm.Cond.selects C y y).before a0 Z = true) (w6 : (Jvm.Cond.instanceMethod y).before a0 Z = true) (w4 : (Jvm.Cond.code y bytes maxL ret).before a0 Z = true) (w3 : (Jvm.Cond.initialized y.cls).before a0 Z = true)
    (hy : y.cls ≠ "java/lang/invoke/MethodHandle" ∧ y.cls ≠ "java/lang/invoke/VarHandle")
    (hM : MetFree l y (head1 [Jvm.Cond.code y bytes maxL ret] rm) (fun a U => a = (.ref b :: as').toArray ∧ Z.Warmed39 U.vm ∧ U.heap = h) (fun _ _ _ _ _ => True) (fun _ U o U' => ∃ v L, o = .returned v ∧ Q v U'.heap L ∧ FrameEnd U o U' L rm.cells rm.slots))
    (E : Exa Z h b C)
    (W : Nat) (hf : rm.frames + 1 ≤ R.frames) (hl : W + (maxL + 11) + rm.locals ≤ R.locals) (hc : cells + rm.cells ≤ R.cells) (hs : slots + rm.slots ≤ R.slots)
    {pc : Nat} {Ls : Array Slot} {stk rest : List Value} (hsize : Ls.size = c.maxLocals) (hlen : ∀ sig, parseMethodDescriptor y.desc = some sig → as'.length = sig.parameters.length) (hstack : stk = as'.reverse ++ .ref b :: rest) (hW : (rest.map fun v => v.category).sum ≤ W) (hd : decode c.code pc = .ok (.invokevirtual index, 3)) (eT : T.heap = h)
    (k : ∀ T' L v, Stand p l e R s m args below meth c T' (locs ++ L) (cells + rm.cells) (slots + rm.slots) → Q v T'.heap L → own_Out p e below Qf (T'.setTop (mkF m (pc + 3) Ls (v.toList ++ rest)))) :
    own_Out p e below Qf (T.setTop (mkF m pc Ls stk)) := by
  obtain ⟨cq, kq, qa, qb, qc⟩ := isOf hZ eT E
  obtain ⟨v, _, ⟨T', L', k', n'⟩, -, X', ⟨Lc, hQ, hl', hy', hz'⟩, st⟩ := X.virtualBack hx (y := y) (z := y) hown (mvT hZ w1) (mvT hZ w2) (notFace_of_selects (args := #[]) (mvT hZ w5)) (mvT hZ w5) (mvT hZ w6) hy (backOf (W := W) hM hZ w4 w3 hf hl) qa qc (g := mkF m pc Ls stk) rfl hsize (Steps.refl _) (argsL := as') (rest := rest) hlen hstack (by show 2 * 0 + _ ≤ _; omega) hd (fun _ _ => ⟨rfl, eT, hc, hs⟩)
  dsimp only [Pt.U, Pt.locs, Pt.cells, Pt.slots] at X' hl' hy' hz' st hQ
  subst hl' hy' hz'
  exact own_tr st (k _ _ _ X' hQ)
/-- a constructor by its own contract -/
theorem own_callI (X : Stand p l e R s m args below meth c T locs cells slots) (hx : p.tables.exec = Jvm.exec) (hZ : Z.Warmed39 s.vm) {own : String} {index : Nat} {y : MethodName} {bytes : ByteArray} {maxL : Nat} {rm : Room} {b : Addr} {as' : List Value} {Q : Option Value → Heap → List Loc → Prop} {Qf : Outcome → State → Prop} (hy1 : y.name = "<init>")
    (hown : s.vm.findClass own = some m.cls) (w1 : (Jvm.Cond.methodLink own index y).before a0 Z = true) (w6 : (Jvm.Cond.instanceMethod y).before a0 Z = true) (w4 : (Jvm.Cond.code y bytes maxL none).before a0 Z = true) (w3 : (Jvm.Cond.initialized y.cls).before a0 Z = true)
    (hy : y.cls ≠ "java/lang/invoke/MethodHandle" ∧ y.cls ≠ "java/lang/invoke/VarHandle")
    (hM : MetFree l y (head1 [Jvm.Cond.code y bytes maxL none] rm) (fun a U => a = (.ref b :: as').toArray ∧ Z.Warmed39 U.vm ∧ U.heap = h) (fun _ _ _ _ _ => True) (fun _ U o U' => ∃ v L, o = .returned v ∧ Q v U'.heap L ∧ FrameEnd U o U' L rm.cells rm.slots))
    (W : Nat) (hf : rm.frames + 1 ≤ R.frames) (hl : W + (maxL + 11) + rm.locals ≤ R.locals) (hc : cells + rm.cells ≤ R.cells) (hs : slots + rm.slots ≤ R.slots)
    {pc : Nat} {Ls : Array Slot} {stk rest : List Value} (hsize : Ls.size = c.maxLocals) (hlen : ∀ sig, parseMethodDescriptor y.desc = some sig → as'.length = sig.parameters.length) (hstack : stk = as'.reverse ++ .ref b :: rest) (hW : (rest.map fun v => v.category).sum ≤ W) (hd : decode c.code pc = .ok (.invokespecial index, 3)) (eT : T.heap = h)
    (k : ∀ T' L v, Stand p l e R s m args below meth c T' (locs ++ L) (cells + rm.cells) (slots + rm.slots) → Q v T'.heap L → own_Out p e below Qf (T'.setTop (mkF m (pc + 3) Ls (v.toList ++ rest)))) :
    own_Out p e below Qf (T.setTop (mkF m pc Ls stk)) := by
  obtain ⟨v, _, ⟨T', L', k', n'⟩, -, X', ⟨Lc, hQ, hl', hy', hz'⟩, st⟩ := X.specialBack hx (y := y) hy1 hown (mvT hZ w1) (mvT hZ w6) (mvT hZ w4) hy (backOf (W := W) hM hZ w4 w3 hf hl) (g := mkF m pc Ls stk) rfl hsize (Steps.refl _) (a := b) (argsL := as') (rest := rest) hlen hstack (by show 2 * 0 + _ ≤ _; omega) hd (fun _ _ => ⟨rfl, eT, hc, hs⟩)
  dsimp only [Pt.U, Pt.locs, Pt.cells, Pt.slots] at X' hl' hy' hz' st hQ
  subst hl' hy' hz'
  exact own_tr st (k _ _ _ X' hQ)
theorem own_fits {C : String} {v : Value} (h : v.isRef = true) : fits (.object C) v = true := by cases v <;> first | rfl | cases h
theorem own_narO {C : String} {v : Value} (h : v.isRef = true) : narrow (.object C) v = v := by cases v <;> first | rfl | cases h
theorem own_nf {y y' : MethodName} (hc : y'.cls = y.cls) (h : NotFace s y) (hi : (Jvm.Cond.instanceMethod y).before a0 s = true) : NotFace s y' := fun r0 h0 => by
  obtain ⟨mk, methM, hnamed, -⟩ := Cond.instanceMethod_spec hi
  have h1 := findClass_of_methodNamed hnamed
  have h2 := findClass_of_methodNamed h0
  rw [hc, h1] at h2
  have h3 := Option.some.inj h2
  rw [← h3]
  exact h mk hnamed
/-- a private method (invokevirtual) by its own contract -/
theorem own_callP (X : Stand p l e R s m args below meth c T locs cells slots) (hx : p.tables.exec = Jvm.exec) (hZ : Z.Warmed39 s.vm) {own C : String} {index : Nat} {y : MethodName} {bytes : ByteArray} {maxL : Nat} {ret : Option FieldType} {rm : Room} {b : Addr} {as' : List Value} {Q : Option Value → Heap → List Loc → Prop} {Qf : Outcome → State → Prop}
    (hown : s.vm.findClass own = some m.cls) (w1 : (Jvm.Cond.methodLink own index y).before a0 Z = true) (w6 : (Jvm.Cond.instanceMethod y).before a0 Z = true) (w8 : (Jvm.Cond.privateMethod y).before a0 Z = true) (w4 : (Jvm.Cond.code y bytes maxL ret).before a0 Z = true) (w3 : (Jvm.Cond.initialized y.cls).before a0 Z = true) (hnf : NotFace s y)
    (hy : y.cls ≠ "java/lang/invoke/MethodHandle" ∧ y.cls ≠ "java/lang/invoke/VarHandle")
    (hM : MetFree l y (head1 [Jvm.Cond.code y bytes maxL ret] rm) (fun a U => a = (.ref b :: as').toArray ∧ Z.Warmed39 U.vm ∧ U.heap = h) (fun _ _ _ _ _ => True) (fun _ U o U' => ∃ v L, o = .returned v ∧ Q v U'.heap L ∧ FrameEnd U o U' L rm.cells rm.slots))
    (E : Exa Z h b C)
    (W : Nat) (hf : rm.frames + 1 ≤ R.frames) (hl : W + (maxL + 11) + rm.locals ≤ R.locals) (hc : cells + rm.cells ≤ R.cells) (hs : slots + rm.slots ≤ R.slots)
    {pc : Nat} {Ls : Array Slot} {stk rest : List Value} (hsize : Ls.size = c.maxLocals) (hlen : ∀ sig, parseMethodDescriptor y.desc = some sig → as'.length = sig.parameters.length) (hstack : stk = as'.reverse ++ .ref b :: rest) (hW : (rest.map fun v => v.category).sum ≤ W) (hd : decode c.code pc = .ok (.invokevirtual index, 3)) (eT : T.heap = h)
    (k : ∀ T' L v, Stand p l e R s m args below meth c T' (locs ++ L) (cells + rm.cells) (slots + rm.slots) → Q v T'.heap L → own_Out p e below Qf (T'.setTop (mkF m (pc + 3) Ls (v.toList ++ rest)))) :
    own_Out p e below Qf (T.setTop (mkF m pc Ls stk)) := by
  obtain ⟨mk, methM, hnamed, hmethM, hstM, habM⟩ := Cond.instanceMethod_spec (mvT (args := args) hZ w6)
  obtain ⟨methM', cM, hmethM', -, -, -, -, -, -, hsigM⟩ := Cond.code_spec hnamed (mvT (args := args) hZ w4)
  cases hmethM.symm.trans hmethM'
  obtain ⟨kP, hkP, hkPi⟩ := hnf mk hnamed
  obtain ⟨cell, hcell, hobj⟩ := E.cell
  have hselP : selectMethod e.platform s.vm cell.cls mk = .method mk := selectMethod_private hmethM (Cond.privateMethod_at (mvP hZ w8 (args := #[])) mk methM hnamed hmethM)
  obtain ⟨vm₁, X₁, hstep₁⟩ := X.invokevirtual hx hown (mvT hZ w1) hnamed hmethM hstM hkP hkPi hy (a := b) (cell := cell) (by rw [eT]; exact hcell) hobj hselP hmethM habM hkP hkPi (g := mkF m pc Ls stk) rfl (argsL := as') (rest := rest) (hlen _ hsigM) hstack hd
  obtain ⟨v, ⟨T', L', k', n'⟩, X', ⟨Lc, hQ, hl', hy', hz'⟩, st⟩ := backOf (W := W) hM hZ w4 w3 hf hl m meth c ⟨T.setVm vm₁, locs, cells, slots⟩ { mkF m pc Ls stk with stack := rest } (.invokevirtual index) mk (.ref b :: as').toArray X₁ rfl hsize hd (by show 2 * 0 + (rest.map fun v => v.category).sum ≤ W; omega) (X₁.named hnamed) ⟨rfl, eT, hc, hs⟩
  dsimp only [Pt.U, Pt.locs, Pt.cells, Pt.slots] at X' hl' hy' hz' st hQ
  subst hl' hy' hz'
  exact own_st (fun target q => hstep₁ _ fun acts => by rw [doInvoke_state]; exact st.trans q) (k _ _ _ X' hQ)
end Own
end Jvm.RoadKit
namespace Jvm.RoadKit
open Sem ClassFile Op Lib Jvm.Stand Jvm.Free Jvm.LawKit
section OwnS
variable {p : Program} {l : Launch} {e : Env} {R : Room} {s : State} {m : MethodId} {args : Array Value} {below : List Frame} {meth : Method} {c : Code} {T : State} {locs : List Loc} {cells slots : Nat} {Z : State} {a0 : Array Value} {h : Heap}
/-- a constructor whose entry has been resolved, by its own contract -/
theorem own_callIR (X : Stand p l e R s m args below meth c T locs cells slots) (hx : p.tables.exec = Jvm.exec) (hZ : Z.Warmed39 s.vm) {own : String} {index : Nat} {y : MethodName} {bytes : ByteArray} {maxL : Nat} {rm : Room} {b : Addr} {as' : List Value} {Q : Option Value → Heap → List Loc → Prop} {Qf : Outcome → State → Prop} (hy1 : y.name = "<init>")
    (hown : s.vm.findClass own = some m.cls) (w1 : (Jvm.Cond.methodRef own index y).before a0 Z = true) (w6 : (Jvm.Cond.instanceMethod y).before a0 Z = true) (w4 : (Jvm.Cond.code y bytes maxL none).before a0 Z = true) (w3 : (Jvm.Cond.initialized y.cls).before a0 Z = true)
    (hy : y.cls ≠ "java/lang/invoke/MethodHandle" ∧ y.cls ≠ "java/lang/invoke/VarHandle")
    (hM : MetFree l y (head1 [Jvm.Cond.code y bytes maxL none] rm) (fun a U => a = (.ref b :: as').toArray ∧ Z.Warmed39 U.vm ∧ U.heap = h) (fun _ _ _ _ _ => True) (fun _ U o U' => ∃ v L, o = .returned v ∧ Q v U'.heap L ∧ FrameEnd U o U' L rm.cells rm.slots))
    (W : Nat) (hf : rm.frames + 1 ≤ R.frames) (hl : W + (maxL + 11) + rm.locals ≤ R.locals) (hc : cells + rm.cells ≤ R.cells) (hs : slots + rm.slots ≤ R.slots)
    {g : JFrame} (hg : g.method = m) (hsize : g.locals.size = c.maxLocals) {rest : List Value} (hlen : ∀ sig, parseMethodDescriptor y.desc = some sig → as'.length = sig.parameters.length) (hstack : g.stack = as'.reverse ++ .ref b :: rest) (hW : 2 * g.monitorRoom + (rest.map fun v => v.category).sum ≤ W) (hd : decode c.code g.pc = .ok (.invokespecial index, 3)) (eT : T.heap = h)
    (k : ∀ T' L v, Stand p l e R s m args below meth c T' (locs ++ L) (cells + rm.cells) (slots + rm.slots) → Q v T'.heap L → own_Out p e below Qf (T'.setTop { g with pc := g.pc + 3, stack := v.toList ++ rest })) :
    own_Out p e below Qf (T.setTop g) := by
  subst hg
  obtain ⟨mk, methM, hnamed, hmethM, hstM, habM⟩ := Cond.instanceMethod_spec (mvT (args := args) hZ w6)
  obtain ⟨methM', cM, hmethM', -, -, -, -, -, -, hsigM⟩ := Cond.code_spec hnamed (mvT (args := args) hZ w4)
  cases hmethM.symm.trans hmethM'
  obtain ⟨mkZ, methZ, hnZ, -⟩ := Cond.instanceMethod_spec w6
  have hr := Cond.methodRef_warmed39 (wtrans hZ X.warmed) hnZ hy w1
  have hownT : (Z.setVm T.vm).vm.findClass own = some g.method.cls := by
    show T.vm.findClass own = _
    rw [X.warmed.alike.findClass]; exact hown
  obtain ⟨m2, c2, hf2, hready, hfc, hnr⟩ := Cond.methodRef_named e hownT hr
  have hnT : (Z.setVm T.vm).methodNamed? y = some mk := X.named hnamed
  have hm2 : m2 = mk := Option.some.inj (hf2.symm.trans (State.methodFound?_of_named hnT hy))
  subst hm2
  have hc2 : c2 = m2.cls := Option.some.inj (hfc.symm.trans (findClass_of_methodNamed hnT))
  subst hc2
  obtain ⟨kc, hkc, -⟩ := className_of_methodNamed hnT
  have hmT : T.vm.method? m2 = some methM := by rw [X.warmed.alike.method?]; exact hmethM
  obtain ⟨hnm, hdm⟩ := name_of_methodNamed (s := Z.setVm T.vm) hnT hmT
  have hfound : lookupSpecial T.vm m2.cls "<init>" methM.desc = .method m2 := by
    have q := lookupSpecial_of_named (s := Z.setVm T.vm) hnT hmT hstM
    rw [hy1] at q
    rw [hdm]
    exact q
  obtain ⟨v, ⟨T', L', k', n'⟩, X', ⟨Lc, hQ, hl', hy', hz'⟩, st⟩ := backOf (W := W) hM hZ w4 w3 hf hl g.method meth c ⟨T, locs, cells, slots⟩ { g with stack := rest } (.invokespecial index) m2 (.ref b :: as').toArray X rfl hsize hd hW (X.named hnamed) ⟨rfl, eT, hc, hs⟩
  dsimp only [Pt.U, Pt.locs, Pt.cells, Pt.slots] at X' hl' hy' hz' st hQ
  subst hl' hy' hz'
  refine own_st (fun target q => ?_) (k _ _ _ X' hQ)
  jvm_step X.here [hx, hd, invokespecial.wp_init (e := e) (s := T) (k := kc) (meth := methM) (m := m2) (a := b) (args := as') (rest := rest) (f := g) X.here.top hnr hready hkc hmT (by rw [hnm]; exact hy1) hstM habM hfound (hlen _ hsigM) hstack]
  intro acts
  rw [doInvoke_state]
  exact st.trans q
theorem own_retAS {a : Addr} {cell : Cell} (X : Stand p l e R (s.setCell a (cell.withEntry s.cur)) m args below meth c T locs cells slots) (hx : p.tables.exec = Jvm.exec) (hcl : s.heap[a]? = some cell) (ho : cell.enterable s.cur) (hlk : meth.locks = true) {Q : Option Value → Heap → List Loc → Prop} {k n : Nat} {pc : Nat} {Ls : Array Slot} {w : Value} {t : FieldType} {rest : List Value}
    (hret : meth.sig.returnType = some t) (ht : t.isReference = true) (hw : w.isRef = true) (hd : decode c.code pc = .ok (.areturn, 1)) (hc : cells ≤ k) (hs : slots ≤ n)
    (hq : ∀ h', Mon T.heap h' → Q (some w) h' locs) : own_Out p e below (own_Q Q s k n) (T.setTop (mkL a m pc Ls (w :: rest))) := by
  obtain ⟨V, hr, hrun, hended, M1, hW, hsame⟩ := leaveS X hcl ho hlk (v := some w) (fun h => by rw [hret] at h; cases h)
  exact ⟨_, _, retS X hx hret (by cases t <;> first | (cases ht; done) | rfl | (cases w <;> rfl)) (Or.inr (Or.inr (Or.inr (Or.inr ⟨rfl, ht, hw⟩)))) hd hr, hrun, hended, _, _, rfl, hq _ M1, ⟨_, rfl⟩, hW, hsame.mono hc hs⟩
/-- the head of a synchronized body's walk -/
theorem own_bodyS {x : MethodName} {code : ByteArray} {maxL : Nat} {ret : Option FieldType} {ws : List Jvm.Cond} {rm : Room} {a : Addr} {as' : Array Value} {Q : Option Value → Heap → List Loc → Prop} (hpn : plainFor x = true) (hin : Jvm.Cond.instanceMethod x ∈ ws) (has : as'[0]? = some (.ref a)) (Lf : Array Slot)
    (hent : ∀ m, entryFrameSync m as' maxL a = mkL a m 0 Lf [])
    (body : ∀ p e s m below meth c T cell, Stand p l e rm (s.setCell a (cell.withEntry s.cur)) m as' below meth c T [] 0 0 → p.tables.exec = Jvm.exec → c.code = code → c.maxLocals = maxL → meth.sig.returnType = ret → meth.locks = true →
      (s.setCell a (cell.withEntry s.cur)).vm.findClass x.cls = some m.cls → Z.Warmed39 (s.setCell a (cell.withEntry s.cur)).vm → Mon h T.heap → s.heap[a]? = some cell → cell.enterable s.cur → own_Out p e below (own_Q Q s rm.cells rm.slots) (T.setTop (mkL a m 0 Lf []))) :
    MetFree l x (head1 (Jvm.Cond.codeSync x code maxL ret :: ws) rm) (fun aa U => aa = as' ∧ Z.Warmed39 U.vm ∧ U.heap = h ∧ ∃ cell : Cell, h[a]? = some cell ∧ cell.enterable U.cur) (fun _ _ _ _ _ => True)
      (fun _ U o U' => ∃ v L, o = .returned v ∧ Q v U'.heap L ∧ FrameEnd U o U' L rm.cells rm.slots) := by
  refine MetFree.of_bodySync hpn (hisS hin) (fun _ s _ ⟨h1, _, h2, cl, h3, h4⟩ => ⟨a, cl, by rw [h1]; exact has, by rw [h2]; exact h3, h4⟩) ?_
  intro p e s0 m args below meth c a' cell s₁ Bd hml0 hP _
  obtain ⟨rfl, hZ0, hh0, -⟩ := hP
  have ha' : a' = a := by
    have q := Bd.receiver
    rw [has] at q
    cases q
    rfl
  subst ha'
  have M0 : Mon h s₁.heap := by rw [← hh0, Bd.state]; exact mon_set Bd.object _
  obtain ⟨s2, o, h1, h2⟩ := body p e s0 m below meth c s₁ cell (Stand.of_bodySync Bd) Bd.exec Bd.bytes hml0 Bd.returns Bd.synchronized (findClass_of_methodNamed Bd.named :) hZ0 M0 Bd.object Bd.enterable
  exact ⟨s2, o, castTop (hent m) h1, h2⟩
/-- a synchronized instance method by its own contract, on an object whose monitor nobody has touched -/
theorem own_callVS (X : Stand p l e R s m args below meth c T locs cells slots) (hx : p.tables.exec = Jvm.exec) (hZ : Z.Warmed39 s.vm) {own C : String} {index : Nat} {y : MethodName} {bytes : ByteArray} {maxL : Nat} {ret : Option FieldType} {rm : Room} {b : Addr} {as' : List Value} {Q : Option Value → Heap → List Loc → Prop} {Qf : Outcome → State → Prop}
    (hown : s.vm.findClass own = some m.cls) (w1 : (Jvm.Cond.methodLink own index y).before a0 Z = true) (w2 : (Jvm.Cond.declares y).before a0 Z = true) (w5 : (Jvm.Cond.selects C y y).before a0 Z = true) (w6 : (Jvm.Cond.instanceMethod y).before a0 Z = true) (w4 : (Jvm.Cond.codeSync y bytes maxL ret).before a0 Z = true) (w3 : (Jvm.Cond.initialized y.cls).before a0 Z = true)
    (hy : y.cls ≠ "java/lang/invoke/MethodHandle" ∧ y.cls ≠ "java/lang/invoke/VarHandle")
    (hM : MetFree l y (head1 [Jvm.Cond.codeSync y bytes maxL ret, Jvm.Cond.instanceMethod y] rm) (fun a U => a = (.ref b :: as').toArray ∧ Z.Warmed39 U.vm ∧ U.heap = h ∧ ∃ cell : Cell, h[b]? = some cell ∧ cell.enterable U.cur) (fun _ _ _ _ _ => True) (fun _ U o U' => ∃ v L, o = .returned v ∧ Q v U'.heap L ∧ FrameEnd U o U' L rm.cells rm.slots))
    (E : Exa Z h b C) (N : Unt h b)
    (W : Nat) (hf : rm.frames + 1 ≤ R.frames) (hl : W + (maxL + 11) + rm.locals ≤ R.locals) (hc : cells + rm.cells ≤ R.cells) (hs : slots + rm.slots ≤ R.slots)
    {pc : Nat} {Ls : Array Slot} {stk rest : List Value} (hsize : Ls.size = c.maxLocals) (hlen : ∀ sig, parseMethodDescriptor y.desc = some sig → as'.length = sig.parameters.length) (hstack : stk = as'.reverse ++ .ref b :: rest) (hW : (rest.map fun v => v.category).sum ≤ W) (hd : decode c.code pc = .ok (.invokevirtual index, 3)) (eT : T.heap = h)
    (k : ∀ T' L v, Stand p l e R s m args below meth c T' (locs ++ L) (cells + rm.cells) (slots + rm.slots) → Q v T'.heap L → own_Out p e below Qf (T'.setTop (mkF m (pc + 3) Ls (v.toList ++ rest)))) :
    own_Out p e below Qf (T.setTop (mkF m pc Ls stk)) := by
  obtain ⟨cq, kq, qa, qb, qc⟩ := isOf hZ eT E
  have hK : Back l R p e below s args y 3 W (fun A a => a = (.ref b :: as').toArray ∧ A.U.heap = h ∧ A.cells + rm.cells ≤ R.cells ∧ A.slots + rm.slots ≤ R.slots)
      (fun A _ v B => ∃ L, Q v B.U.heap L ∧ B.locs = A.locs ++ L ∧ B.cells = A.cells + rm.cells ∧ B.slots = A.slots + rm.slots) :=
    Jvm.Free.XT.back_of_sync (bytes := bytes) (maxL := maxL) (ret := ret) (E := fun _ _ o t L k n => k = rm.cells ∧ n = rm.slots ∧ ∃ v, o = .returned v ∧ Q v t.heap L) hM hf hl
      (fun m meth c A as Y hp => have hU : Z.Warmed39 A.U.vm := wtrans hZ Y.warmed
        ⟨by show (Jvm.Cond.and _ (Jvm.Cond.and _ .tt)).before as A.U = true; rw [Cond.before_and, Cond.before_and, mv hU w4, mv hU w6]; rfl, mv hU w4, mv hU w3, hp.2.2.1, hp.2.2.2⟩)
      (fun m meth c A as g mk Y hp => ⟨hp.1, wtrans hZ Y.warmed, hp.2.1, by obtain ⟨cl, u1, -, u3⟩ := N; exact ⟨cl, u1, by rw [Cell.enterable, u3]; simp⟩⟩)
      (fun _ _ _ _ _ _ _ _ _ => trivial)
      (fun _ _ _ _ ⟨v, L, h1, h2, h3⟩ => ⟨L, _, _, h3, rfl, rfl, v, h1, h2⟩)
      (fun m meth c A a g mk v t L k n Y hp _ _ ⟨e1, e2, v', e3, e4⟩ => by cases e3; subst e1 e2; exact ⟨L, e4, rfl, rfl, rfl⟩)
  obtain ⟨v, _, ⟨T', L', k', n'⟩, -, X', ⟨Lc, hQ, hl', hy', hz'⟩, st⟩ := X.virtualBack hx (y := y) (z := y) hown (mvT hZ w1) (mvT hZ w2) (notFace_of_selects (args := #[]) (mvT hZ w5)) (mvT hZ w5) (mvT hZ w6) hy hK qa qc (g := mkF m pc Ls stk) rfl hsize (Steps.refl _) (argsL := as') (rest := rest) hlen hstack (by show 2 * 0 + _ ≤ _; omega) hd (fun _ _ => ⟨rfl, eT, hc, hs⟩)
  dsimp only [Pt.U, Pt.locs, Pt.cells, Pt.slots] at X' hl' hy' hz' st hQ
  subst hl' hy' hz'
  exact own_tr st (k _ _ _ X' hQ)
end OwnS
end Jvm.RoadKit
namespace Jvm.Pilot.@@N@@
open Jvm Jvm.ClassFile Sem Op Lib Jvm.Free Jvm.Stand Jvm.LawKit Jvm.RoadKit Bundle Jvm.Pilot.@@N@@.Jvm.D
theorem own_w {Z : State} {a0 : Array Value} (hw : ∀ d ∈ tables_1, d.before a0 Z = true) {d : Jvm.Cond} (k : Nat) (h : tables_1[k]? = some d) : d.before a0 Z = true := hw _ (List.mem_of_getElem? h)
def own_C (Z : State) (h : Heap) (a : Addr) (f0 : Int64) (f1 : Int64) (f2 : Int64) (f3 : Int64) (f4 : Int64) : Prop := Exa Z h a "com/example/seqd/seqd/amqp/ConnectionBytes" ∧ Fld Z h a "com/example/seqd/seqd/amqp/ConnectionBytes" "connection" "J" (.long f0) ∧ Fld Z h a "com/example/seqd/seqd/amqp/ConnectionBytes" "turnedAway" "J" (.long f1) ∧ Fld Z h a "com/example/seqd/seqd/amqp/ConnectionBytes" "limit" "J" (.long f2) ∧ Fld Z h a "com/example/seqd/seqd/amqp/ConnectionBytes" "admitBelow" "J" (.long f3) ∧ Fld Z h a "com/example/seqd/seqd/amqp/ConnectionBytes" "held" "J" (.long f4)
theorem own_C_connection {Z : State} {a0 : Array Value} (hw : ∀ d ∈ tables_1, d.before a0 Z = true) {h h' : Heap} {a : Addr} {f0 : Int64} {f1 : Int64} {f2 : Int64} {f3 : Int64} {f4 : Int64} {y : Int64} (W : Wr h h' a (Jvm.RoadKit.slotOf Z "com/example/seqd/seqd/amqp/ConnectionBytes" "connection" "J") (.long y)) (O : own_C Z h a f0 f1 f2 f3 f4) : own_C Z h' a y f1 f2 f3 f4 :=
  ⟨(O.1.wr W), ((O).2.1.same W), ((O).2.2.1.other W (Or.inr (slot_ne (Or.inr (own_w hw 19 rfl)) (Or.inr (own_w hw 16 rfl)) (by decide) (t := .long) (t' := .long) (by decide) (by decide)))), ((O).2.2.2.1.other W (Or.inr (slot_ne (Or.inr (own_w hw 21 rfl)) (Or.inr (own_w hw 16 rfl)) (by decide) (t := .long) (t' := .long) (by decide) (by decide)))), ((O).2.2.2.2.1.other W (Or.inr (slot_ne (Or.inr (own_w hw 24 rfl)) (Or.inr (own_w hw 16 rfl)) (by decide) (t := .long) (t' := .long) (by decide) (by decide)))), ((O).2.2.2.2.2.other W (Or.inr (slot_ne (Or.inl (own_w hw 31 rfl)) (Or.inr (own_w hw 16 rfl)) (by decide) (t := .long) (t' := .long) (by decide) (by decide))))⟩
theorem own_C_turnedAway {Z : State} {a0 : Array Value} (hw : ∀ d ∈ tables_1, d.before a0 Z = true) {h h' : Heap} {a : Addr} {f0 : Int64} {f1 : Int64} {f2 : Int64} {f3 : Int64} {f4 : Int64} {y : Int64} (W : Wr h h' a (Jvm.RoadKit.slotOf Z "com/example/seqd/seqd/amqp/ConnectionBytes" "turnedAway" "J") (.long y)) (O : own_C Z h a f0 f1 f2 f3 f4) : own_C Z h' a f0 y f2 f3 f4 :=
  ⟨(O.1.wr W), ((O).2.1.other W (Or.inr (slot_ne (Or.inr (own_w hw 16 rfl)) (Or.inr (own_w hw 19 rfl)) (by decide) (t := .long) (t' := .long) (by decide) (by decide)))), ((O).2.2.1.same W), ((O).2.2.2.1.other W (Or.inr (slot_ne (Or.inr (own_w hw 21 rfl)) (Or.inr (own_w hw 19 rfl)) (by decide) (t := .long) (t' := .long) (by decide) (by decide)))), ((O).2.2.2.2.1.other W (Or.inr (slot_ne (Or.inr (own_w hw 24 rfl)) (Or.inr (own_w hw 19 rfl)) (by decide) (t := .long) (t' := .long) (by decide) (by decide)))), ((O).2.2.2.2.2.other W (Or.inr (slot_ne (Or.inl (own_w hw 31 rfl)) (Or.inr (own_w hw 19 rfl)) (by decide) (t := .long) (t' := .long) (by decide) (by decide))))⟩
theorem own_C_limit {Z : State} {a0 : Array Value} (hw : ∀ d ∈ tables_1, d.before a0 Z = true) {h h' : Heap} {a : Addr} {f0 : Int64} {f1 : Int64} {f2 : Int64} {f3 : Int64} {f4 : Int64} {y : Int64} (W : Wr h h' a (Jvm.RoadKit.slotOf Z "com/example/seqd/seqd/amqp/ConnectionBytes" "limit" "J") (.long y)) (O : own_C Z h a f0 f1 f2 f3 f4) : own_C Z h' a f0 f1 y f3 f4 :=
  ⟨(O.1.wr W), ((O).2.1.other W (Or.inr (slot_ne (Or.inr (own_w hw 16 rfl)) (Or.inr (own_w hw 21 rfl)) (by decide) (t := .long) (t' := .long) (by decide) (by decide)))), ((O).2.2.1.other W (Or.inr (slot_ne (Or.inr (own_w hw 19 rfl)) (Or.inr (own_w hw 21 rfl)) (by decide) (t := .long) (t' := .long) (by decide) (by decide)))), ((O).2.2.2.1.same W), ((O).2.2.2.2.1.other W (Or.inr (slot_ne (Or.inr (own_w hw 24 rfl)) (Or.inr (own_w hw 21 rfl)) (by decide) (t := .long) (t' := .long) (by decide) (by decide)))), ((O).2.2.2.2.2.other W (Or.inr (slot_ne (Or.inl (own_w hw 31 rfl)) (Or.inr (own_w hw 21 rfl)) (by decide) (t := .long) (t' := .long) (by decide) (by decide))))⟩
theorem own_C_admitBelow {Z : State} {a0 : Array Value} (hw : ∀ d ∈ tables_1, d.before a0 Z = true) {h h' : Heap} {a : Addr} {f0 : Int64} {f1 : Int64} {f2 : Int64} {f3 : Int64} {f4 : Int64} {y : Int64} (W : Wr h h' a (Jvm.RoadKit.slotOf Z "com/example/seqd/seqd/amqp/ConnectionBytes" "admitBelow" "J") (.long y)) (O : own_C Z h a f0 f1 f2 f3 f4) : own_C Z h' a f0 f1 f2 y f4 :=
  ⟨(O.1.wr W), ((O).2.1.other W (Or.inr (slot_ne (Or.inr (own_w hw 16 rfl)) (Or.inr (own_w hw 24 rfl)) (by decide) (t := .long) (t' := .long) (by decide) (by decide)))), ((O).2.2.1.other W (Or.inr (slot_ne (Or.inr (own_w hw 19 rfl)) (Or.inr (own_w hw 24 rfl)) (by decide) (t := .long) (t' := .long) (by decide) (by decide)))), ((O).2.2.2.1.other W (Or.inr (slot_ne (Or.inr (own_w hw 21 rfl)) (Or.inr (own_w hw 24 rfl)) (by decide) (t := .long) (t' := .long) (by decide) (by decide)))), ((O).2.2.2.2.1.same W), ((O).2.2.2.2.2.other W (Or.inr (slot_ne (Or.inl (own_w hw 31 rfl)) (Or.inr (own_w hw 24 rfl)) (by decide) (t := .long) (t' := .long) (by decide) (by decide))))⟩
theorem own_C_held {Z : State} {a0 : Array Value} (hw : ∀ d ∈ tables_1, d.before a0 Z = true) {h h' : Heap} {a : Addr} {f0 : Int64} {f1 : Int64} {f2 : Int64} {f3 : Int64} {f4 : Int64} {y : Int64} (W : Wr h h' a (Jvm.RoadKit.slotOf Z "com/example/seqd/seqd/amqp/ConnectionBytes" "held" "J") (.long y)) (O : own_C Z h a f0 f1 f2 f3 f4) : own_C Z h' a f0 f1 f2 f3 y :=
  ⟨(O.1.wr W), ((O).2.1.other W (Or.inr (slot_ne (Or.inr (own_w hw 16 rfl)) (Or.inl (own_w hw 31 rfl)) (by decide) (t := .long) (t' := .long) (by decide) (by decide)))), ((O).2.2.1.other W (Or.inr (slot_ne (Or.inr (own_w hw 19 rfl)) (Or.inl (own_w hw 31 rfl)) (by decide) (t := .long) (t' := .long) (by decide) (by decide)))), ((O).2.2.2.1.other W (Or.inr (slot_ne (Or.inr (own_w hw 21 rfl)) (Or.inl (own_w hw 31 rfl)) (by decide) (t := .long) (t' := .long) (by decide) (by decide)))), ((O).2.2.2.2.1.other W (Or.inr (slot_ne (Or.inr (own_w hw 24 rfl)) (Or.inl (own_w hw 31 rfl)) (by decide) (t := .long) (t' := .long) (by decide) (by decide)))), ((O).2.2.2.2.2.same W)⟩
theorem own_C_ext {Z : State} {h h' : Heap} {a : Addr} {f0 : Int64} {f1 : Int64} {f2 : Int64} {f3 : Int64} {f4 : Int64} (E : Ext h h') (O : own_C Z h a f0 f1 f2 f3 f4) : own_C Z h' a f0 f1 f2 f3 f4 := ⟨(O).1.ext E, (O).2.1.ext E, (O).2.2.1.ext E, (O).2.2.2.1.ext E, (O).2.2.2.2.1.ext E, (O).2.2.2.2.2.ext E⟩
theorem own_C_mon {Z : State} {h h' : Heap} {a : Addr} {f0 : Int64} {f1 : Int64} {f2 : Int64} {f3 : Int64} {f4 : Int64} (E : Mon h h') (O : own_C Z h a f0 f1 f2 f3 f4) : own_C Z h' a f0 f1 f2 f3 f4 := ⟨(O).1.mon E, (O).2.1.mon E, (O).2.2.1.mon E, (O).2.2.2.1.mon E, (O).2.2.2.2.1.mon E, (O).2.2.2.2.2.mon E⟩
theorem own_C_keep {Z : State} {h h' : Heap} {a : Addr} {ws : List Addr} {f0 : Int64} {f1 : Int64} {f2 : Int64} {f3 : Int64} {f4 : Int64} (K : Keep h h' ws) (q : a ∉ ws) (O : own_C Z h a f0 f1 f2 f3 f4) : own_C Z h' a f0 f1 f2 f3 f4 := ⟨(O).1.keep K, (O).2.1.keep K q, (O).2.2.1.keep K q, (O).2.2.2.1.keep K q, (O).2.2.2.2.1.keep K q, (O).2.2.2.2.2.keep K q⟩
def own_A (Z : State) (h : Heap) (a : Addr) (f0 : Value) (f1 : Value) (f2 : Int64) (f3 : Value) : Prop := Exa Z h a "com/example/seqd/seqd/amqp/ConnectionBytes$Account" ∧ Fld Z h a "com/example/seqd/seqd/amqp/ConnectionBytes$Account" "this$0" "Lcom/example/seqd/seqd/amqp/ConnectionBytes;" f0 ∧ Fld Z h a "com/example/seqd/seqd/amqp/ConnectionBytes$Account" "items" "Ljava/util/Map;" f1 ∧ Fld Z h a "com/example/seqd/seqd/amqp/ConnectionBytes$Account" "base" "J" (.long f2) ∧ Fld Z h a "com/example/seqd/seqd/amqp/ConnectionBytes$Account" "turnedAway" "Ljava/lang/String;" f3
theorem own_A_this_0 {Z : State} {a0 : Array Value} (hw : ∀ d ∈ tables_1, d.before a0 Z = true) {h h' : Heap} {a : Addr} {f0 : Value} {f1 : Value} {f2 : Int64} {f3 : Value} {y : Value} (W : Wr h h' a (Jvm.RoadKit.slotOf Z "com/example/seqd/seqd/amqp/ConnectionBytes$Account" "this$0" "Lcom/example/seqd/seqd/amqp/ConnectionBytes;") y) (O : own_A Z h a f0 f1 f2 f3) : own_A Z h' a y f1 f2 f3 :=
  ⟨(O.1.wr W), ((O).2.1.same W), ((O).2.2.1.other W (Or.inr (slot_ne (Or.inr (own_w hw 64 rfl)) (Or.inr (own_w hw 39 rfl)) (by decide) (t := .object "java/util/Map") (t' := .object "com/example/seqd/seqd/amqp/ConnectionBytes") (by decide) (by decide)))), ((O).2.2.2.1.other W (Or.inr (slot_ne (Or.inl (own_w hw 66 rfl)) (Or.inr (own_w hw 39 rfl)) (by decide) (t := .long) (t' := .object "com/example/seqd/seqd/amqp/ConnectionBytes") (by decide) (by decide)))), ((O).2.2.2.2.other W (Or.inr (slot_ne (Or.inr (own_w hw 68 rfl)) (Or.inr (own_w hw 39 rfl)) (by decide) (t := .object "java/lang/String") (t' := .object "com/example/seqd/seqd/amqp/ConnectionBytes") (by decide) (by decide))))⟩
theorem own_A_items {Z : State} {a0 : Array Value} (hw : ∀ d ∈ tables_1, d.before a0 Z = true) {h h' : Heap} {a : Addr} {f0 : Value} {f1 : Value} {f2 : Int64} {f3 : Value} {y : Value} (W : Wr h h' a (Jvm.RoadKit.slotOf Z "com/example/seqd/seqd/amqp/ConnectionBytes$Account" "items" "Ljava/util/Map;") y) (O : own_A Z h a f0 f1 f2 f3) : own_A Z h' a f0 y f2 f3 :=
  ⟨(O.1.wr W), ((O).2.1.other W (Or.inr (slot_ne (Or.inr (own_w hw 39 rfl)) (Or.inr (own_w hw 64 rfl)) (by decide) (t := .object "com/example/seqd/seqd/amqp/ConnectionBytes") (t' := .object "java/util/Map") (by decide) (by decide)))), ((O).2.2.1.same W), ((O).2.2.2.1.other W (Or.inr (slot_ne (Or.inl (own_w hw 66 rfl)) (Or.inr (own_w hw 64 rfl)) (by decide) (t := .long) (t' := .object "java/util/Map") (by decide) (by decide)))), ((O).2.2.2.2.other W (Or.inr (slot_ne (Or.inr (own_w hw 68 rfl)) (Or.inr (own_w hw 64 rfl)) (by decide) (t := .object "java/lang/String") (t' := .object "java/util/Map") (by decide) (by decide))))⟩
theorem own_A_base {Z : State} {a0 : Array Value} (hw : ∀ d ∈ tables_1, d.before a0 Z = true) {h h' : Heap} {a : Addr} {f0 : Value} {f1 : Value} {f2 : Int64} {f3 : Value} {y : Int64} (W : Wr h h' a (Jvm.RoadKit.slotOf Z "com/example/seqd/seqd/amqp/ConnectionBytes$Account" "base" "J") (.long y)) (O : own_A Z h a f0 f1 f2 f3) : own_A Z h' a f0 f1 y f3 :=
  ⟨(O.1.wr W), ((O).2.1.other W (Or.inr (slot_ne (Or.inr (own_w hw 39 rfl)) (Or.inl (own_w hw 66 rfl)) (by decide) (t := .object "com/example/seqd/seqd/amqp/ConnectionBytes") (t' := .long) (by decide) (by decide)))), ((O).2.2.1.other W (Or.inr (slot_ne (Or.inr (own_w hw 64 rfl)) (Or.inl (own_w hw 66 rfl)) (by decide) (t := .object "java/util/Map") (t' := .long) (by decide) (by decide)))), ((O).2.2.2.1.same W), ((O).2.2.2.2.other W (Or.inr (slot_ne (Or.inr (own_w hw 68 rfl)) (Or.inl (own_w hw 66 rfl)) (by decide) (t := .object "java/lang/String") (t' := .long) (by decide) (by decide))))⟩
theorem own_A_turnedAway {Z : State} {a0 : Array Value} (hw : ∀ d ∈ tables_1, d.before a0 Z = true) {h h' : Heap} {a : Addr} {f0 : Value} {f1 : Value} {f2 : Int64} {f3 : Value} {y : Value} (W : Wr h h' a (Jvm.RoadKit.slotOf Z "com/example/seqd/seqd/amqp/ConnectionBytes$Account" "turnedAway" "Ljava/lang/String;") y) (O : own_A Z h a f0 f1 f2 f3) : own_A Z h' a f0 f1 f2 y :=
  ⟨(O.1.wr W), ((O).2.1.other W (Or.inr (slot_ne (Or.inr (own_w hw 39 rfl)) (Or.inr (own_w hw 68 rfl)) (by decide) (t := .object "com/example/seqd/seqd/amqp/ConnectionBytes") (t' := .object "java/lang/String") (by decide) (by decide)))), ((O).2.2.1.other W (Or.inr (slot_ne (Or.inr (own_w hw 64 rfl)) (Or.inr (own_w hw 68 rfl)) (by decide) (t := .object "java/util/Map") (t' := .object "java/lang/String") (by decide) (by decide)))), ((O).2.2.2.1.other W (Or.inr (slot_ne (Or.inl (own_w hw 66 rfl)) (Or.inr (own_w hw 68 rfl)) (by decide) (t := .long) (t' := .object "java/lang/String") (by decide) (by decide)))), ((O).2.2.2.2.same W)⟩
theorem own_A_ext {Z : State} {h h' : Heap} {a : Addr} {f0 : Value} {f1 : Value} {f2 : Int64} {f3 : Value} (E : Ext h h') (O : own_A Z h a f0 f1 f2 f3) : own_A Z h' a f0 f1 f2 f3 := ⟨(O).1.ext E, (O).2.1.ext E, (O).2.2.1.ext E, (O).2.2.2.1.ext E, (O).2.2.2.2.ext E⟩
theorem own_A_mon {Z : State} {h h' : Heap} {a : Addr} {f0 : Value} {f1 : Value} {f2 : Int64} {f3 : Value} (E : Mon h h') (O : own_A Z h a f0 f1 f2 f3) : own_A Z h' a f0 f1 f2 f3 := ⟨(O).1.mon E, (O).2.1.mon E, (O).2.2.1.mon E, (O).2.2.2.1.mon E, (O).2.2.2.2.mon E⟩
theorem own_A_keep {Z : State} {h h' : Heap} {a : Addr} {ws : List Addr} {f0 : Value} {f1 : Value} {f2 : Int64} {f3 : Value} (K : Keep h h' ws) (q : a ∉ ws) (O : own_A Z h a f0 f1 f2 f3) : own_A Z h' a f0 f1 f2 f3 := ⟨(O).1.keep K, (O).2.1.keep K q, (O).2.2.1.keep K q, (O).2.2.2.1.keep K q, (O).2.2.2.2.keep K q⟩
theorem pn_own_abs : plainFor (⟨"java/util/AbstractMap", "<init>", "()V"⟩ : MethodName) = true := by first | exact plainFor_of_name (by first | (simp [plainName, overriddenIn]; done) | decide +kernel) | decide +kernel
theorem down_abs_0 : decode jdk_71_method_1_code 0 = .ok (.aload_n 0, 1) := by decide +kernel
theorem down_abs_1 : decode jdk_71_method_1_code 1 = .ok (.invokespecial 1, 3) := by decide +kernel
theorem down_abs_4 : decode jdk_71_method_1_code 4 = .ok (.return_, 1) := by decide +kernel
def Q_own_abs (Z : State)  (m0 : Addr) (h0 : Heap) (n0 : Nat) (v : Option Value) (h : Heap) (L : List Loc) : Prop := v = none ∧ L = [] ∧ h = h0
set_option maxRecDepth 65536 in
set_option maxHeartbeats 40000000 in
theorem own_abs (l : Launch) (Z : State) (a0 : Array Value) (hw : ∀ d ∈ tables_1, d.before a0 Z = true) (ws : List Jvm.Cond)  (m0 : Addr) (h0 : Heap) (n0 : Nat)  :
    MetFree l (⟨"java/util/AbstractMap", "<init>", "()V"⟩ : MethodName) (head1 (Jvm.Cond.code (⟨"java/util/AbstractMap", "<init>", "()V"⟩ : MethodName) jdk_71_method_1_code 1 none :: ws) ({ frames := 1, cells := 0, slots := 0, locals := 12 } : Room)) (fun aa U => aa = #[(.ref m0)] ∧ Z.Warmed39 U.vm ∧ U.heap = h0) (fun _ _ _ _ _ => True) (fun _ U o U' => ∃ v L, o = .returned v ∧ Q_own_abs Z m0 h0 n0 v U'.heap L ∧ FrameEnd U o U' L ({ frames := 1, cells := 0, slots := 0, locals := 12 } : Room).cells ({ frames := 1, cells := 0, slots := 0, locals := 12 } : Room).slots) := by
  refine own_body (x := (⟨"java/util/AbstractMap", "<init>", "()V"⟩ : MethodName)) (maxL := 1) (as' := #[(.ref m0)]) (Q := Q_own_abs Z m0 h0 n0) pn_own_abs #[.val (.ref m0)] (fun m => by first | (simp [entryFrame, mkF, argsToLocals, Value.category]; done) | rfl) ?_
  intro p e s m below meth c T0 X0 hx hby hml hret hlk hown hnm hZ e0
  replace hml : c.maxLocals = 1 := hml
  replace hown : s.vm.findClass "java/util/AbstractMap" = some m.cls := hown
  have N0 := Fr.nil n0
  refine own_st (G := T0.setTop (mkF m 1 #[.val (.ref m0)] [(.ref m0)])) (fun _ kk => XS.aloadN X0.here hx rfl (hb hby down_abs_0) rfl rfl kk) ?_
  obtain ⟨T1, X2, e3, st4⟩ := initO X0 hx hZ hown (own_w hw 53 rfl) (own_w hw 12 rfl) (own_w hw 13 rfl) e0 (g := (mkF m 1 #[.val (.ref m0)] [(.ref m0)])) rfl (by rw [hml]; rfl) rfl (hb hby down_abs_1) (by decide) (W := 0) (by show 2 * 0 + _ ≤ _; exact Nat.le_of_eq rfl) (by decide)
  refine own_st st4 ?_
  show own_Out _ _ _ _ (T1.setTop (mkF m 4 #[.val (.ref m0)] []))
  refine own_ret0 X2 hx hret hlk (hb hby down_abs_4) (by decide) (by decide) ?_
  exact ⟨rfl, rfl, e3⟩
theorem pn_own_imi : plainFor (⟨"java/util/IdentityHashMap", "init", "(I)V"⟩ : MethodName) = true := by first | exact plainFor_of_name (by first | (simp [plainName, overriddenIn]; done) | decide +kernel) | decide +kernel
theorem down_imi_0 : decode jdk_2581_method_6_code 0 = .ok (.aload_n 0, 1) := by decide +kernel
theorem down_imi_1 : decode jdk_2581_method_6_code 1 = .ok (.iconst 2, 1) := by decide +kernel
theorem down_imi_2 : decode jdk_2581_method_6_code 2 = .ok (.iload_n 1, 1) := by decide +kernel
theorem down_imi_3 : decode jdk_2581_method_6_code 3 = .ok (.imul, 1) := by decide +kernel
theorem down_imi_4 : decode jdk_2581_method_6_code 4 = .ok (.anewarray 49, 3) := by decide +kernel
theorem down_imi_7 : decode jdk_2581_method_6_code 7 = .ok (.putfield 51, 3) := by decide +kernel
theorem down_imi_10 : decode jdk_2581_method_6_code 10 = .ok (.return_, 1) := by decide +kernel
def Q_own_imi (Z : State)  (m0 : Addr) (tv : Value) (h0 : Heap) (n0 : Nat) (v : Option Value) (h : Heap) (L : List Loc) : Prop := v = none ∧ Fr n0 L ∧ Keep h0 h [m0]
set_option maxRecDepth 65536 in
set_option maxHeartbeats 40000000 in
theorem own_imi (l : Launch) (Z : State) (a0 : Array Value) (hw : ∀ d ∈ tables_1, d.before a0 Z = true) (ws : List Jvm.Cond)  (m0 : Addr) (tv : Value) (h0 : Heap) (n0 : Nat) (gm : n0 ≤ m0) (Em : Exa Z h0 m0 "java/util/IdentityHashMap") (Ft : Fld Z h0 m0 "java/util/IdentityHashMap" "table" "[Ljava/lang/Object;" tv) :
    MetFree l (⟨"java/util/IdentityHashMap", "init", "(I)V"⟩ : MethodName) (head1 (Jvm.Cond.code (⟨"java/util/IdentityHashMap", "init", "(I)V"⟩ : MethodName) jdk_2581_method_6_code 2 none :: ws) ({ frames := 0, cells := 1, slots := 64, locals := 0 } : Room)) (fun aa U => aa = #[(.ref m0), (.int (32 : Int32))] ∧ Z.Warmed39 U.vm ∧ U.heap = h0) (fun _ _ _ _ _ => True) (fun _ U o U' => ∃ v L, o = .returned v ∧ Q_own_imi Z m0 tv h0 n0 v U'.heap L ∧ FrameEnd U o U' L ({ frames := 0, cells := 1, slots := 64, locals := 0 } : Room).cells ({ frames := 0, cells := 1, slots := 64, locals := 0 } : Room).slots) := by
  refine own_body (x := (⟨"java/util/IdentityHashMap", "init", "(I)V"⟩ : MethodName)) (maxL := 2) (as' := #[(.ref m0), (.int (32 : Int32))]) (Q := Q_own_imi Z m0 tv h0 n0) pn_own_imi #[.val (.ref m0), .val (.int (32 : Int32))] (fun m => by first | (simp [entryFrame, mkF, argsToLocals, Value.category]; done) | rfl) ?_
  intro p e s m below meth c T0 X0 hx hby hml hret hlk hown hnm hZ e0
  replace hml : c.maxLocals = 2 := hml
  replace hown : s.vm.findClass "java/util/IdentityHashMap" = some m.cls := hown
  have N0 := Fr.nil n0
  refine own_st (G := T0.setTop (mkF m 1 #[.val (.ref m0), .val (.int (32 : Int32))] [(.ref m0)])) (fun _ kk => XS.aloadN X0.here hx rfl (hb hby down_imi_0) rfl rfl kk) ?_
  refine own_st (G := T0.setTop (mkF m 2 #[.val (.ref m0), .val (.int (32 : Int32))] [(.int (2 : Int32)), (.ref m0)])) (fun _ kk => XT.iconstV X0.here hx rfl (2 : Int32) (hb hby down_imi_1) (by decide) kk) ?_
  refine own_st (G := T0.setTop (mkF m 3 #[.val (.ref m0), .val (.int (32 : Int32))] [(.int (32 : Int32)), (.int (2 : Int32)), (.ref m0)])) (fun _ kk => XS.iloadN X0.here hx rfl (hb hby down_imi_2) rfl kk) ?_
  refine own_st (G := T0.setTop (mkF m 4 #[.val (.ref m0), .val (.int (32 : Int32))] [(.int ((2 : Int32) * (32 : Int32))), (.ref m0)])) (fun _ kk => XS.imul X0.here hx rfl (hb hby down_imi_3) rfl kk) ?_
  rw [show ((2 : Int32) * (32 : Int32)) = (64 : Int32) from by decide +kernel]
  obtain ⟨T1, h2, cA3, X4, e5, E6, A7, Ov8, st9⟩ := newR X0 hx hZ hown (own_w hw 59 rfl) (own_w hw 60 rfl) e0 (g := (mkF m 4 #[.val (.ref m0), .val (.int (32 : Int32))] [(.int (64 : Int32)), (.ref m0)])) rfl (hb hby down_imi_4) rfl (by decide) (cap := 64) (by decide) (by decide) (by decide) (by decide)
  obtain ⟨a10, g11⟩ : ∃ z, z = h0.size := ⟨_, rfl⟩
  rw [← g11] at A7 st9
  refine own_st st9 ?_
  show own_Out _ _ _ _ (T1.setTop (mkF m 7 #[.val (.ref m0), .val (.int (32 : Int32))] [(.ref a10), (.ref m0)]))
  have K1 := (Keep.refl h0 [m0]).ext E6
  have Ft1 := Ft.ext E6
  have Em1 := Em.ext E6
  obtain ⟨T12, h13, X14, e15, W16, st17⟩ := putF X4 hx hZ hown (host := "") (Or.inl (own_w hw 61 rfl)) Via.refl e5 Ft1 Em1 (Or.inl (own_w hw 62 rfl)) (own_w hw 42 rfl) (ty := .array (.object "java/lang/Object")) (by decide) rfl rfl (g := (mkF m 7 #[.val (.ref m0), .val (.int (32 : Int32))] [(.ref a10), (.ref m0)])) rfl rfl (hb hby down_imi_7)
  refine own_st st17 ?_
  show own_Out _ _ _ _ (T12.setTop (mkF m 10 #[.val (.ref m0), .val (.int (32 : Int32))] []))
  have K18 := K1.wr W16 (Or.inl (List.mem_singleton.mpr rfl))
  have N19 := Fr.snoc X14 N0 gm
  refine own_ret0 X14 hx hret hlk (hb hby down_imi_10) (by decide) (by decide) ?_
  rw [e15]
  exact ⟨rfl, N19, K18⟩
theorem pn_own_im : plainFor (⟨"java/util/IdentityHashMap", "<init>", "()V"⟩ : MethodName) = true := by first | exact plainFor_of_name (by first | (simp [plainName, overriddenIn]; done) | decide +kernel) | decide +kernel
theorem down_im_0 : decode jdk_2581_method_3_code 0 = .ok (.aload_n 0, 1) := by decide +kernel
theorem down_im_1 : decode jdk_2581_method_3_code 1 = .ok (.invokespecial 7, 3) := by decide +kernel
theorem down_im_4 : decode jdk_2581_method_3_code 4 = .ok (.aload_n 0, 1) := by decide +kernel
theorem down_im_5 : decode jdk_2581_method_3_code 5 = .ok (.bipush 32, 2) := by decide +kernel
theorem down_im_7 : decode jdk_2581_method_3_code 7 = .ok (.invokevirtual 13, 3) := by decide +kernel
theorem down_im_10 : decode jdk_2581_method_3_code 10 = .ok (.return_, 1) := by decide +kernel
def Q_own_im (Z : State)  (m0 : Addr) (tv : Value) (h0 : Heap) (n0 : Nat) (v : Option Value) (h : Heap) (L : List Loc) : Prop := v = none ∧ Fr n0 L ∧ Keep h0 h [m0]
set_option maxRecDepth 65536 in
set_option maxHeartbeats 40000000 in
theorem own_im (l : Launch) (Z : State) (a0 : Array Value) (hw : ∀ d ∈ tables_1, d.before a0 Z = true) (ws : List Jvm.Cond)  (m0 : Addr) (tv : Value) (h0 : Heap) (n0 : Nat) (gm : n0 ≤ m0) (Em : Exa Z h0 m0 "java/util/IdentityHashMap") (Ft : Fld Z h0 m0 "java/util/IdentityHashMap" "table" "[Ljava/lang/Object;" tv) :
    MetFree l (⟨"java/util/IdentityHashMap", "<init>", "()V"⟩ : MethodName) (head1 (Jvm.Cond.code (⟨"java/util/IdentityHashMap", "<init>", "()V"⟩ : MethodName) jdk_2581_method_3_code 1 none :: ws) ({ frames := 2, cells := 1, slots := 64, locals := 24 } : Room)) (fun aa U => aa = #[(.ref m0)] ∧ Z.Warmed39 U.vm ∧ U.heap = h0) (fun _ _ _ _ _ => True) (fun _ U o U' => ∃ v L, o = .returned v ∧ Q_own_im Z m0 tv h0 n0 v U'.heap L ∧ FrameEnd U o U' L ({ frames := 2, cells := 1, slots := 64, locals := 24 } : Room).cells ({ frames := 2, cells := 1, slots := 64, locals := 24 } : Room).slots) := by
  refine own_body (x := (⟨"java/util/IdentityHashMap", "<init>", "()V"⟩ : MethodName)) (maxL := 1) (as' := #[(.ref m0)]) (Q := Q_own_im Z m0 tv h0 n0) pn_own_im #[.val (.ref m0)] (fun m => by first | (simp [entryFrame, mkF, argsToLocals, Value.category]; done) | rfl) ?_
  intro p e s m below meth c T0 X0 hx hby hml hret hlk hown hnm hZ e0
  replace hml : c.maxLocals = 1 := hml
  replace hown : s.vm.findClass "java/util/IdentityHashMap" = some m.cls := hown
  have N0 := Fr.nil n0
  refine own_st (G := T0.setTop (mkF m 1 #[.val (.ref m0)] [(.ref m0)])) (fun _ kk => XS.aloadN X0.here hx rfl (hb hby down_im_0) rfl rfl kk) ?_
  refine own_callI X0 hx hZ (y := (⟨"java/util/AbstractMap", "<init>", "()V"⟩ : MethodName)) (b := m0) (as' := []) rfl hown (own_w hw 47 rfl) (own_w hw 48 rfl) (own_w hw 52 rfl) (own_w hw 51 rfl) (by decide) (own_abs l Z a0 hw [] m0 h0 n0) 0 (by decide) (by decide) (by decide) (by decide) (rest := []) (by rw [hml]; rfl) (lenOf (by decide : parseMethodDescriptor "()V" = some ⟨[], none⟩) rfl) rfl (Nat.le_of_eq rfl) (hb hby down_im_1) e0 ?_
  intro T3 L4 v6 X5 hQ
  obtain ⟨rfl, rfl, eq1⟩ := hQ
  show own_Out _ _ _ _ (T3.setTop (mkF m 4 #[.val (.ref m0)] []))
  have N2 := Fr.app N0 (Fr.nil n0)
  refine own_st (G := T3.setTop (mkF m 5 #[.val (.ref m0)] [(.ref m0)])) (fun _ kk => XS.aloadN X5.here hx rfl (hb hby down_im_4) rfl rfl kk) ?_
  refine own_st (G := T3.setTop (mkF m 7 #[.val (.ref m0)] [(.int (32 : Int32)), (.ref m0)])) (fun _ kk => XT.bipushV X5.here hx rfl (32 : Int32) (hb hby down_im_5) (by decide) kk) ?_
  refine own_callP X5 hx hZ (y := (⟨"java/util/IdentityHashMap", "init", "(I)V"⟩ : MethodName)) (b := m0) (as' := [(.int (32 : Int32))]) hown (own_w hw 54 rfl) (own_w hw 55 rfl) (own_w hw 56 rfl) (own_w hw 58 rfl) (own_w hw 43 rfl) (own_nf (y := ⟨"java/util/IdentityHashMap", "init", "(I)V"⟩) (a0 := #[]) rfl (notFace_of_selects (args := #[]) (mvT hZ (own_w hw 57 rfl))) (mvT hZ (own_w hw 55 rfl))) (by decide) (own_imi l Z a0 hw [] m0 tv h0 n0 gm Em Ft) Em 0 (by decide) (by decide) (by decide) (by decide) (rest := []) (by rw [hml]; rfl) (lenOf (by decide : parseMethodDescriptor "(I)V" = some ⟨[.int], none⟩) rfl) rfl (Nat.le_of_eq rfl) (hb hby down_im_7) eq1 ?_
  intro T9 L10 v12 X11 hQ
  obtain ⟨rfl, N7', K8⟩ := hQ
  show own_Out _ _ _ _ (T9.setTop (mkF m 10 #[.val (.ref m0)] []))
  have N7 := Fr.app N2 N7'
  refine own_ret0 X11 hx hret hlk (hb hby down_im_10) (by decide) (by decide) ?_
  exact ⟨rfl, N7, K8⟩
theorem pn_own_acc : plainFor (⟨"com/example/seqd/seqd/amqp/ConnectionBytes$Account", "<init>", "(Lcom/example/seqd/seqd/amqp/ConnectionBytes;JLjava/lang/String;)V"⟩ : MethodName) = true := by first | exact plainFor_of_name (by first | (simp [plainName, overriddenIn]; done) | decide +kernel) | decide +kernel
theorem down_acc_0 : decode prog_6_method_1_code 0 = .ok (.aload_n 0, 1) := by decide +kernel
theorem down_acc_1 : decode prog_6_method_1_code 1 = .ok (.aload_n 1, 1) := by decide +kernel
theorem down_acc_2 : decode prog_6_method_1_code 2 = .ok (.putfield 1, 3) := by decide +kernel
theorem down_acc_5 : decode prog_6_method_1_code 5 = .ok (.aload_n 0, 1) := by decide +kernel
theorem down_acc_6 : decode prog_6_method_1_code 6 = .ok (.invokespecial 7, 3) := by decide +kernel
theorem down_acc_9 : decode prog_6_method_1_code 9 = .ok (.aload_n 0, 1) := by decide +kernel
theorem down_acc_10 : decode prog_6_method_1_code 10 = .ok (.new 13, 3) := by decide +kernel
theorem down_acc_13 : decode prog_6_method_1_code 13 = .ok (.dup, 1) := by decide +kernel
theorem down_acc_14 : decode prog_6_method_1_code 14 = .ok (.invokespecial 15, 3) := by decide +kernel
theorem down_acc_17 : decode prog_6_method_1_code 17 = .ok (.putfield 16, 3) := by decide +kernel
theorem down_acc_20 : decode prog_6_method_1_code 20 = .ok (.aload_n 0, 1) := by decide +kernel
theorem down_acc_21 : decode prog_6_method_1_code 21 = .ok (.lload_n 2, 1) := by decide +kernel
theorem down_acc_22 : decode prog_6_method_1_code 22 = .ok (.putfield 20, 3) := by decide +kernel
theorem down_acc_25 : decode prog_6_method_1_code 25 = .ok (.aload_n 0, 1) := by decide +kernel
theorem down_acc_26 : decode prog_6_method_1_code 26 = .ok (.aload 4, 2) := by decide +kernel
theorem down_acc_28 : decode prog_6_method_1_code 28 = .ok (.putfield 24, 3) := by decide +kernel
theorem down_acc_31 : decode prog_6_method_1_code 31 = .ok (.return_, 1) := by decide +kernel
def Q_own_acc (Z : State) (x : Int64) (a : Addr)  (b0 : Addr) (h0 : Heap) (n0 : Nat) (v : Option Value) (h : Heap) (L : List Loc) : Prop := v = none ∧ Fr n0 L ∧ ∃ mm, own_A Z h a (.ref b0) mm x .null
set_option maxRecDepth 65536 in
set_option maxHeartbeats 40000000 in
theorem own_acc (l : Launch) (Z : State) (a0 : Array Value) (hw : ∀ d ∈ tables_1, d.before a0 Z = true) (ws : List Jvm.Cond) (x : Int64) (a : Addr)  (b0 : Addr) (h0 : Heap) (n0 : Nat) (ga : n0 ≤ a) (O : own_A Z h0 a .null .null (0 : Int64) .null)  :
    MetFree l (⟨"com/example/seqd/seqd/amqp/ConnectionBytes$Account", "<init>", "(Lcom/example/seqd/seqd/amqp/ConnectionBytes;JLjava/lang/String;)V"⟩ : MethodName) (head1 (Jvm.Cond.code (⟨"com/example/seqd/seqd/amqp/ConnectionBytes$Account", "<init>", "(Lcom/example/seqd/seqd/amqp/ConnectionBytes;JLjava/lang/String;)V"⟩ : MethodName) prog_6_method_1_code 5 none :: ws) ({ frames := 3, cells := 2, slots := 70, locals := 38 } : Room)) (fun aa U => aa = #[(.ref a), (.ref b0), (.long x), .null] ∧ Z.Warmed39 U.vm ∧ U.heap = h0) (fun _ _ _ _ _ => True) (fun _ U o U' => ∃ v L, o = .returned v ∧ Q_own_acc Z x a b0 h0 n0 v U'.heap L ∧ FrameEnd U o U' L ({ frames := 3, cells := 2, slots := 70, locals := 38 } : Room).cells ({ frames := 3, cells := 2, slots := 70, locals := 38 } : Room).slots) := by
  refine own_body (x := (⟨"com/example/seqd/seqd/amqp/ConnectionBytes$Account", "<init>", "(Lcom/example/seqd/seqd/amqp/ConnectionBytes;JLjava/lang/String;)V"⟩ : MethodName)) (maxL := 5) (as' := #[(.ref a), (.ref b0), (.long x), .null]) (Q := Q_own_acc Z x a b0 h0 n0) pn_own_acc #[.val (.ref a), .val (.ref b0), .val (.long x), .second, .val .null] (fun m => by first | (simp [entryFrame, mkF, argsToLocals, Value.category]; done) | rfl) ?_
  intro p e s m below meth c T0 X0 hx hby hml hret hlk hown hnm hZ e0
  replace hml : c.maxLocals = 5 := hml
  replace hown : s.vm.findClass "com/example/seqd/seqd/amqp/ConnectionBytes$Account" = some m.cls := hown
  have N0 := Fr.nil n0
  refine own_st (G := T0.setTop (mkF m 1 #[.val (.ref a), .val (.ref b0), .val (.long x), .second, .val .null] [(.ref a)])) (fun _ kk => XS.aloadN X0.here hx rfl (hb hby down_acc_0) rfl rfl kk) ?_
  refine own_st (G := T0.setTop (mkF m 2 #[.val (.ref a), .val (.ref b0), .val (.long x), .second, .val .null] [(.ref b0), (.ref a)])) (fun _ kk => XS.aloadN X0.here hx rfl (hb hby down_acc_1) rfl rfl kk) ?_
  obtain ⟨T1, h2, X3, e4, W5, st6⟩ := putF X0 hx hZ hown (host := "") (Or.inl (own_w hw 38 rfl)) Via.refl e0 (O).2.1 (O).1 (Or.inr ⟨(own_w hw 39 rfl), rfl, hnm⟩) (own_w hw 33 rfl) (ty := .object "com/example/seqd/seqd/amqp/ConnectionBytes") (by decide) rfl rfl (g := (mkF m 2 #[.val (.ref a), .val (.ref b0), .val (.long x), .second, .val .null] [(.ref b0), (.ref a)])) rfl rfl (hb hby down_acc_2)
  refine own_st st6 ?_
  show own_Out _ _ _ _ (T1.setTop (mkF m 5 #[.val (.ref a), .val (.ref b0), .val (.long x), .second, .val .null] []))
  have O7 : own_A Z h2 a (.ref b0) .null (0 : Int64) .null := own_A_this_0 hw W5 O
  have N8 := Fr.snoc X3 N0 ga
  refine own_st (G := T1.setTop (mkF m 6 #[.val (.ref a), .val (.ref b0), .val (.long x), .second, .val .null] [(.ref a)])) (fun _ kk => XS.aloadN X3.here hx rfl (hb hby down_acc_5) rfl rfl kk) ?_
  obtain ⟨T9, X10, e11, st12⟩ := initO X3 hx hZ hown (own_w hw 40 rfl) (own_w hw 12 rfl) (own_w hw 13 rfl) e4 (g := (mkF m 6 #[.val (.ref a), .val (.ref b0), .val (.long x), .second, .val .null] [(.ref a)])) rfl (by rw [hml]; rfl) rfl (hb hby down_acc_6) (by decide) (W := 0) (by show 2 * 0 + _ ≤ _; exact Nat.le_of_eq rfl) (by decide)
  refine own_st st12 ?_
  show own_Out _ _ _ _ (T9.setTop (mkF m 9 #[.val (.ref a), .val (.ref b0), .val (.long x), .second, .val .null] []))
  refine own_st (G := T9.setTop (mkF m 10 #[.val (.ref a), .val (.ref b0), .val (.long x), .second, .val .null] [(.ref a)])) (fun _ kk => XS.aloadN X10.here hx rfl (hb hby down_acc_9) rfl rfl kk) ?_
  obtain ⟨T13, h14, X15, e16, E17, A18, D19, U21, st20⟩ := newO X10 hx hZ hown (own_w hw 41 rfl) (own_w hw 42 rfl) (own_w hw 43 rfl) e11 (g := (mkF m 10 #[.val (.ref a), .val (.ref b0), .val (.long x), .second, .val .null] [(.ref a)])) rfl (hb hby down_acc_10) (by decide) (by decide)
  obtain ⟨a22, g23⟩ : ∃ z, z = h2.size := ⟨_, rfl⟩
  rw [← g23] at A18 D19 U21 st20
  refine own_st st20 ?_
  show own_Out _ _ _ _ (T13.setTop (mkF m 13 #[.val (.ref a), .val (.ref b0), .val (.long x), .second, .val .null] [(.ref a22), (.ref a)]))
  have O24 := own_A_ext E17 O7
  have gm : n0 ≤ a22 := by rw [g23]; exact Nat.le_trans ga (Nat.le_of_lt (O7).1.lt)
  have nem : a ≠ a22 := by rw [g23]; exact Nat.ne_of_lt (O7).1.lt
  have Ftm : Fld Z h14 a22 "java/util/IdentityHashMap" "table" "[Ljava/lang/Object;" .null := D19 (Or.inl (own_w hw 62 rfl)) (ty := .array (.object "java/lang/Object")) (by decide)
  have Emm := A18
  refine own_st (G := T13.setTop (mkF m 14 #[.val (.ref a), .val (.ref b0), .val (.long x), .second, .val .null] [(.ref a22), (.ref a22), (.ref a)])) (fun _ kk => XS.dup X15.here hx rfl (hb hby down_acc_13) rfl rfl kk) ?_
  refine own_callI X15 hx hZ (y := (⟨"java/util/IdentityHashMap", "<init>", "()V"⟩ : MethodName)) (b := a22) (as' := []) rfl hown (own_w hw 44 rfl) (own_w hw 45 rfl) (own_w hw 46 rfl) (own_w hw 43 rfl) (by decide) (own_im l Z a0 hw [] a22 .null h14 n0 gm Emm Ftm) 2 (by decide) (by decide) (by decide) (by decide) (rest := [(.ref a22), (.ref a)]) (by rw [hml]; rfl) (lenOf (by decide : parseMethodDescriptor "()V" = some ⟨[], none⟩) rfl) rfl (Nat.le_of_eq rfl) (hb hby down_acc_14) e16 ?_
  intro T28 L29 v31 X30 hQ
  obtain ⟨rfl, N25', K26⟩ := hQ
  show own_Out _ _ _ _ (T28.setTop (mkF m 17 #[.val (.ref a), .val (.ref b0), .val (.long x), .second, .val .null] [(.ref a22), (.ref a)]))
  have N25 := Fr.app N8 N25'
  have O27 := own_A_keep K26 (fun q => nem (List.mem_singleton.mp q)) O24
  obtain ⟨T32, h33, X34, e35, W36, st37⟩ := putF X30 hx hZ hown (host := "") (Or.inl (own_w hw 63 rfl)) Via.refl rfl (O27).2.2.1 (O27).1 (Or.inr ⟨(own_w hw 64 rfl), rfl, hnm⟩) (own_w hw 33 rfl) (ty := .object "java/util/Map") (by decide) rfl rfl (g := (mkF m 17 #[.val (.ref a), .val (.ref b0), .val (.long x), .second, .val .null] [(.ref a22), (.ref a)])) rfl rfl (hb hby down_acc_17)
  refine own_st st37 ?_
  show own_Out _ _ _ _ (T32.setTop (mkF m 20 #[.val (.ref a), .val (.ref b0), .val (.long x), .second, .val .null] []))
  have O38 : own_A Z h33 a (.ref b0) (.ref a22) (0 : Int64) .null := own_A_items hw W36 O27
  have N39 := Fr.snoc X34 N25 ga
  refine own_st (G := T32.setTop (mkF m 21 #[.val (.ref a), .val (.ref b0), .val (.long x), .second, .val .null] [(.ref a)])) (fun _ kk => XS.aloadN X34.here hx rfl (hb hby down_acc_20) rfl rfl kk) ?_
  refine own_st (G := T32.setTop (mkF m 22 #[.val (.ref a), .val (.ref b0), .val (.long x), .second, .val .null] [(.long x), (.ref a)])) (fun _ kk => XS.lloadN X34.here hx rfl (hb hby down_acc_21) rfl kk) ?_
  obtain ⟨T40, h41, X42, e43, W44, st45⟩ := putF X34 hx hZ hown (host := "") (Or.inl (own_w hw 65 rfl)) Via.refl e35 (O38).2.2.2.1 (O38).1 (Or.inl (own_w hw 66 rfl)) (own_w hw 33 rfl) (ty := .long) (by decide) rfl rfl (g := (mkF m 22 #[.val (.ref a), .val (.ref b0), .val (.long x), .second, .val .null] [(.long x), (.ref a)])) rfl rfl (hb hby down_acc_22)
  refine own_st st45 ?_
  show own_Out _ _ _ _ (T40.setTop (mkF m 25 #[.val (.ref a), .val (.ref b0), .val (.long x), .second, .val .null] []))
  have O46 : own_A Z h41 a (.ref b0) (.ref a22) x .null := own_A_base hw W44 O38
  have N47 := Fr.snoc X42 N39 ga
  refine own_st (G := T40.setTop (mkF m 26 #[.val (.ref a), .val (.ref b0), .val (.long x), .second, .val .null] [(.ref a)])) (fun _ kk => XS.aloadN X42.here hx rfl (hb hby down_acc_25) rfl rfl kk) ?_
  refine own_st (G := T40.setTop (mkF m 28 #[.val (.ref a), .val (.ref b0), .val (.long x), .second, .val .null] [.null, (.ref a)])) (fun _ kk => XS.aload X42.here hx rfl (hb hby down_acc_26) rfl rfl kk) ?_
  obtain ⟨T48, h49, X50, e51, W52, st53⟩ := putF X42 hx hZ hown (host := "") (Or.inl (own_w hw 67 rfl)) Via.refl e43 (O46).2.2.2.2 (O46).1 (Or.inr ⟨(own_w hw 68 rfl), rfl, hnm⟩) (own_w hw 33 rfl) (ty := .object "java/lang/String") (by decide) rfl rfl (g := (mkF m 28 #[.val (.ref a), .val (.ref b0), .val (.long x), .second, .val .null] [.null, (.ref a)])) rfl rfl (hb hby down_acc_28)
  refine own_st st53 ?_
  show own_Out _ _ _ _ (T48.setTop (mkF m 31 #[.val (.ref a), .val (.ref b0), .val (.long x), .second, .val .null] []))
  have O54 : own_A Z h49 a (.ref b0) (.ref a22) x .null := own_A_turnedAway hw W52 O46
  have N55 := Fr.snoc X50 N47 ga
  refine own_ret0 X50 hx hret hlk (hb hby down_acc_31) (by decide) (by decide) ?_
  rw [e51]
  exact ⟨rfl, N55, _, O54⟩
theorem pn_own_ta : plainFor (⟨"com/example/seqd/seqd/amqp/ConnectionBytes$Account", "turnedAway", "()Ljava/lang/String;"⟩ : MethodName) = true := by first | exact plainFor_of_name (by first | (simp [plainName, overriddenIn]; done) | decide +kernel) | decide +kernel
theorem down_ta_0 : decode prog_6_method_2_code 0 = .ok (.aload_n 0, 1) := by decide +kernel
theorem down_ta_1 : decode prog_6_method_2_code 1 = .ok (.getfield 24, 3) := by decide +kernel
theorem down_ta_4 : decode prog_6_method_2_code 4 = .ok (.areturn, 1) := by decide +kernel
def Q_own_ta (Z : State)  (a : Addr)  (b0 : Addr) (mm : Value) (x : Int64) (h0 : Heap) (n0 : Nat) (v : Option Value) (h : Heap) (L : List Loc) : Prop := v = some .null ∧ Fr n0 L ∧ own_A Z h a (.ref b0) mm x .null
set_option maxRecDepth 65536 in
set_option maxHeartbeats 40000000 in
theorem own_ta (l : Launch) (Z : State) (a0 : Array Value) (hw : ∀ d ∈ tables_1, d.before a0 Z = true) (ws : List Jvm.Cond)  (a : Addr)  (b0 : Addr) (mm : Value) (x : Int64) (h0 : Heap) (n0 : Nat) (ga : n0 ≤ a) (O : own_A Z h0 a (.ref b0) mm x .null)  :
    MetFree l (⟨"com/example/seqd/seqd/amqp/ConnectionBytes$Account", "turnedAway", "()Ljava/lang/String;"⟩ : MethodName) (head1 (Jvm.Cond.code (⟨"com/example/seqd/seqd/amqp/ConnectionBytes$Account", "turnedAway", "()Ljava/lang/String;"⟩ : MethodName) prog_6_method_2_code 1 (some (.object "java/lang/String")) :: ws) ({ frames := 0, cells := 0, slots := 0, locals := 0 } : Room)) (fun aa U => aa = #[(.ref a)] ∧ Z.Warmed39 U.vm ∧ U.heap = h0) (fun _ _ _ _ _ => True) (fun _ U o U' => ∃ v L, o = .returned v ∧ Q_own_ta Z a b0 mm x h0 n0 v U'.heap L ∧ FrameEnd U o U' L ({ frames := 0, cells := 0, slots := 0, locals := 0 } : Room).cells ({ frames := 0, cells := 0, slots := 0, locals := 0 } : Room).slots) := by
  refine own_body (x := (⟨"com/example/seqd/seqd/amqp/ConnectionBytes$Account", "turnedAway", "()Ljava/lang/String;"⟩ : MethodName)) (maxL := 1) (as' := #[(.ref a)]) (Q := Q_own_ta Z a b0 mm x h0 n0) pn_own_ta #[.val (.ref a)] (fun m => by first | (simp [entryFrame, mkF, argsToLocals, Value.category]; done) | rfl) ?_
  intro p e s m below meth c T0 X0 hx hby hml hret hlk hown hnm hZ e0
  replace hml : c.maxLocals = 1 := hml
  replace hown : s.vm.findClass "com/example/seqd/seqd/amqp/ConnectionBytes$Account" = some m.cls := hown
  have N0 := Fr.nil n0
  refine own_st (G := T0.setTop (mkF m 1 #[.val (.ref a)] [(.ref a)])) (fun _ kk => XS.aloadN X0.here hx rfl (hb hby down_ta_0) rfl rfl kk) ?_
  obtain ⟨T1, X2, e3, st4⟩ := getF X0 hx hZ hown (host := "") (Or.inl (own_w hw 67 rfl)) Via.refl e0 (O).2.2.2.2 (g := (mkF m 1 #[.val (.ref a)] [(.ref a)])) rfl rfl (hb hby down_ta_1)
  refine own_st st4 ?_
  show own_Out _ _ _ _ (T1.setTop (mkF m 4 #[.val (.ref a)] [.null]))
  refine own_retA X2 hx hret rfl rfl hlk (hb hby down_ta_4) (by decide) (by decide) ?_
  rw [e3]
  exact ⟨rfl, N0, O⟩
def own_conn (t : Int32) : Int64 := (if t = (0 : Int32) then ((327680 : Int64) + (0 : Int64)) else ((327680 : Int64) + (65536 : Int64)))
theorem pn_own_rco : plainFor (⟨"com/example/seqd/seqd/amqp/ConnectionBytes", "connection", "(Z)J"⟩ : MethodName) = true := by first | exact plainFor_of_name (by first | (simp [plainName, overriddenIn]; done) | decide +kernel) | decide +kernel
theorem down_rco_0 : decode prog_5_method_2_code 0 = .ok (.ldc2_w 38, 3) := by decide +kernel
theorem down_rco_3 : decode prog_5_method_2_code 3 = .ok (.iload_n 0, 1) := by decide +kernel
theorem down_rco_4 : decode prog_5_method_2_code 4 = .ok (.ifCond .eq 9, 3) := by decide +kernel
theorem down_rco_7 : decode prog_5_method_2_code 7 = .ok (.ldc2_w 16, 3) := by decide +kernel
theorem down_rco_10 : decode prog_5_method_2_code 10 = .ok (.goto 4, 3) := by decide +kernel
theorem down_rco_13 : decode prog_5_method_2_code 13 = .ok (.lconst 0, 1) := by decide +kernel
theorem down_rco_14 : decode prog_5_method_2_code 14 = .ok (.ladd, 1) := by decide +kernel
theorem down_rco_15 : decode prog_5_method_2_code 15 = .ok (.lreturn, 1) := by decide +kernel
def Q_own_rco (Z : State) (t : Int32)  (h0 : Heap) (n0 : Nat) (v : Option Value) (h : Heap) (L : List Loc) : Prop := v = some (.long (own_conn t)) ∧ L = [] ∧ h = h0
set_option maxRecDepth 65536 in
set_option maxHeartbeats 40000000 in
theorem own_rco (l : Launch) (Z : State) (a0 : Array Value) (hw : ∀ d ∈ tables_1, d.before a0 Z = true) (ws : List Jvm.Cond) (t : Int32)  (h0 : Heap) (n0 : Nat)  :
    MetFree l (⟨"com/example/seqd/seqd/amqp/ConnectionBytes", "connection", "(Z)J"⟩ : MethodName) (head1 (Jvm.Cond.code (⟨"com/example/seqd/seqd/amqp/ConnectionBytes", "connection", "(Z)J"⟩ : MethodName) prog_5_method_2_code 1 (some (.long)) :: ws) ({ frames := 0, cells := 0, slots := 0, locals := 0 } : Room)) (fun aa U => aa = #[(.int t)] ∧ Z.Warmed39 U.vm ∧ U.heap = h0) (fun _ _ _ _ _ => True) (fun _ U o U' => ∃ v L, o = .returned v ∧ Q_own_rco Z t h0 n0 v U'.heap L ∧ FrameEnd U o U' L ({ frames := 0, cells := 0, slots := 0, locals := 0 } : Room).cells ({ frames := 0, cells := 0, slots := 0, locals := 0 } : Room).slots) := by
  refine own_body (x := (⟨"com/example/seqd/seqd/amqp/ConnectionBytes", "connection", "(Z)J"⟩ : MethodName)) (maxL := 1) (as' := #[(.int t)]) (Q := Q_own_rco Z t h0 n0) pn_own_rco #[.val (.int t)] (fun m => by first | (simp [entryFrame, mkF, argsToLocals, Value.category]; done) | rfl) ?_
  intro p e s m below meth c T0 X0 hx hby hml hret hlk hown hnm hZ e0
  replace hml : c.maxLocals = 1 := hml
  replace hown : s.vm.findClass "com/example/seqd/seqd/amqp/ConnectionBytes" = some m.cls := hown
  have N0 := Fr.nil n0
  refine own_st (G := T0.setTop (mkF m 3 #[.val (.int t)] [(.long (327680 : Int64))])) (fun _ kk => X0.ldc2Long hx hown (mvT hZ (own_w hw 4 rfl)) (g := (mkF m 0 #[.val (.int t)] [])) rfl (hb hby down_rco_0) _ kk) ?_
  refine own_st (G := T0.setTop (mkF m 4 #[.val (.int t)] [(.int t), (.long (327680 : Int64))])) (fun _ kk => XS.iloadN X0.here hx rfl (hb hby down_rco_3) rfl kk) ?_
  by_cases hc1 : t = (0 : Int32)
  · skip
    refine own_st (G := T0.setTop (mkF m 13 #[.val (.int t)] [(.long (327680 : Int64))])) (fun _ kk => XS.ifYes X0.here hx rfl (pc0 := 4) (pc' := 13) rfl (hb hby down_rco_4) rfl (XT.i0_eq_t hc1) (by decide) (by decide) kk) ?_
    refine own_st (G := T0.setTop (mkF m 14 #[.val (.int t)] [(.long (0 : Int64)), (.long (327680 : Int64))])) (fun _ kk => XT.lconstV X0.here hx rfl (0 : Int64) (hb hby down_rco_13) (by decide) kk) ?_
    refine own_st (G := T0.setTop (mkF m 15 #[.val (.int t)] [(.long ((327680 : Int64) + (0 : Int64)))])) (fun _ kk => XS.ladd X0.here hx rfl (hb hby down_rco_14) rfl kk) ?_
    refine own_retJ X0 hx hret hlk (hb hby down_rco_15) (by decide) (by decide) ?_
    exact ⟨by (rw [show (own_conn t) = ((327680 : Int64) + (0 : Int64)) from by unfold own_conn; rw [if_pos hc1]]; first | done | rfl), rfl, e0⟩
  · skip
    refine own_st (G := T0.setTop (mkF m 7 #[.val (.int t)] [(.long (327680 : Int64))])) (fun _ kk => XS.ifNo X0.here hx rfl (hb hby down_rco_4) rfl (XT.i0_eq_f hc1) kk) ?_
    refine own_st (G := T0.setTop (mkF m 10 #[.val (.int t)] [(.long (65536 : Int64)), (.long (327680 : Int64))])) (fun _ kk => X0.ldc2Long hx hown (mvT hZ (own_w hw 17 rfl)) (g := (mkF m 7 #[.val (.int t)] [(.long (327680 : Int64))])) rfl (hb hby down_rco_7) _ kk) ?_
    refine own_st (G := T0.setTop (mkF m 14 #[.val (.int t)] [(.long (65536 : Int64)), (.long (327680 : Int64))])) (fun _ kk => XS.goto X0.here hx rfl (pc0 := 10) (pc' := 14) rfl (hb hby down_rco_10) (by decide) (by decide) kk) ?_
    refine own_st (G := T0.setTop (mkF m 15 #[.val (.int t)] [(.long ((327680 : Int64) + (65536 : Int64)))])) (fun _ kk => XS.ladd X0.here hx rfl (hb hby down_rco_14) rfl kk) ?_
    refine own_retJ X0 hx hret hlk (hb hby down_rco_15) (by decide) (by decide) ?_
    exact ⟨by (rw [show (own_conn t) = ((327680 : Int64) + (65536 : Int64)) from by unfold own_conn; rw [if_neg hc1]]; first | done | rfl), rfl, e0⟩
theorem pn_own_ini0 : plainFor (⟨"com/example/seqd/seqd/amqp/ConnectionBytes", "<init>", "(JZ)V"⟩ : MethodName) = true := by first | exact plainFor_of_name (by first | (simp [plainName, overriddenIn]; done) | decide +kernel) | decide +kernel
theorem down_ini_0 : decode prog_5_method_1_code 0 = .ok (.aload_n 0, 1) := by decide +kernel
theorem down_ini_1 : decode prog_5_method_1_code 1 = .ok (.invokespecial 3, 3) := by decide +kernel
theorem down_ini_4 : decode prog_5_method_1_code 4 = .ok (.aload_n 0, 1) := by decide +kernel
theorem down_ini_5 : decode prog_5_method_1_code 5 = .ok (.iload_n 3, 1) := by decide +kernel
theorem down_ini_6 : decode prog_5_method_1_code 6 = .ok (.invokestatic 9, 3) := by decide +kernel
theorem down_ini_9 : decode prog_5_method_1_code 9 = .ok (.putfield 13, 3) := by decide +kernel
theorem down_ini_12 : decode prog_5_method_1_code 12 = .ok (.aload_n 0, 1) := by decide +kernel
theorem down_ini_13 : decode prog_5_method_1_code 13 = .ok (.ldc2_w 16, 3) := by decide +kernel
theorem down_ini_16 : decode prog_5_method_1_code 16 = .ok (.iload_n 3, 1) := by decide +kernel
theorem down_ini_17 : decode prog_5_method_1_code 17 = .ok (.ifCond .eq 9, 3) := by decide +kernel
theorem down_ini_26 : decode prog_5_method_1_code 26 = .ok (.lconst 0, 1) := by decide +kernel
theorem down_ini_27 : decode prog_5_method_1_code 27 = .ok (.ladd, 1) := by decide +kernel
theorem down_ini_28 : decode prog_5_method_1_code 28 = .ok (.putfield 18, 3) := by decide +kernel
theorem down_ini_31 : decode prog_5_method_1_code 31 = .ok (.lload_n 1, 1) := by decide +kernel
theorem down_ini_32 : decode prog_5_method_1_code 32 = .ok (.aload_n 0, 1) := by decide +kernel
theorem down_ini_33 : decode prog_5_method_1_code 33 = .ok (.getfield 13, 3) := by decide +kernel
theorem down_ini_36 : decode prog_5_method_1_code 36 = .ok (.lcmp, 1) := by decide +kernel
theorem down_ini_37 : decode prog_5_method_1_code 37 = .ok (.ifCond .ge 21, 3) := by decide +kernel
theorem down_ini_58 : decode prog_5_method_1_code 58 = .ok (.aload_n 0, 1) := by decide +kernel
theorem down_ini_59 : decode prog_5_method_1_code 59 = .ok (.lload_n 1, 1) := by decide +kernel
theorem down_ini_60 : decode prog_5_method_1_code 60 = .ok (.putfield 30, 3) := by decide +kernel
theorem down_ini_63 : decode prog_5_method_1_code 63 = .ok (.aload_n 0, 1) := by decide +kernel
theorem down_ini_64 : decode prog_5_method_1_code 64 = .ok (.lload_n 1, 1) := by decide +kernel
theorem down_ini_65 : decode prog_5_method_1_code 65 = .ok (.lload_n 1, 1) := by decide +kernel
theorem down_ini_66 : decode prog_5_method_1_code 66 = .ok (.ldc2_w 33, 3) := by decide +kernel
theorem down_ini_69 : decode prog_5_method_1_code 69 = .ok (.ldiv, 1) := by decide +kernel
theorem down_ini_70 : decode prog_5_method_1_code 70 = .ok (.lsub, 1) := by decide +kernel
theorem down_ini_71 : decode prog_5_method_1_code 71 = .ok (.putfield 35, 3) := by decide +kernel
theorem down_ini_74 : decode prog_5_method_1_code 74 = .ok (.return_, 1) := by decide +kernel
def Q_own_ini0 (Z : State)  (a : Addr) (f0 : Int64) (f1 : Int64) (f2 : Int64) (f3 : Int64) (f4 : Int64)  (h0 : Heap) (n0 : Nat) (v : Option Value) (h : Heap) (L : List Loc) : Prop := v = none ∧ Fr n0 L ∧ own_C Z h a (327680 : Int64) (65536 : Int64) (327680 : Int64) (245760 : Int64) f4 ∧ Unt h a
set_option maxRecDepth 65536 in
set_option maxHeartbeats 40000000 in
theorem own_ini0 (l : Launch) (Z : State) (a0 : Array Value) (hw : ∀ d ∈ tables_1, d.before a0 Z = true) (ws : List Jvm.Cond)  (a : Addr) (f0 : Int64) (f1 : Int64) (f2 : Int64) (f3 : Int64) (f4 : Int64)  (h0 : Heap) (n0 : Nat) (ga : n0 ≤ a) (O : own_C Z h0 a f0 f1 f2 f3 f4) (U : Unt h0 a) :
    MetFree l (⟨"com/example/seqd/seqd/amqp/ConnectionBytes", "<init>", "(JZ)V"⟩ : MethodName) (head1 (Jvm.Cond.code (⟨"com/example/seqd/seqd/amqp/ConnectionBytes", "<init>", "(JZ)V"⟩ : MethodName) prog_5_method_1_code 4 none :: ws) ({ frames := 1, cells := 0, slots := 0, locals := 15 } : Room)) (fun aa U => aa = #[(.ref a), (.long (327680 : Int64)), (.int (0 : Int32))] ∧ Z.Warmed39 U.vm ∧ U.heap = h0) (fun _ _ _ _ _ => True) (fun _ U o U' => ∃ v L, o = .returned v ∧ Q_own_ini0 Z a f0 f1 f2 f3 f4 h0 n0 v U'.heap L ∧ FrameEnd U o U' L ({ frames := 1, cells := 0, slots := 0, locals := 15 } : Room).cells ({ frames := 1, cells := 0, slots := 0, locals := 15 } : Room).slots) := by
  refine own_body (x := (⟨"com/example/seqd/seqd/amqp/ConnectionBytes", "<init>", "(JZ)V"⟩ : MethodName)) (maxL := 4) (as' := #[(.ref a), (.long (327680 : Int64)), (.int (0 : Int32))]) (Q := Q_own_ini0 Z a f0 f1 f2 f3 f4 h0 n0) pn_own_ini0 #[.val (.ref a), .val (.long (327680 : Int64)), .second, .val (.int (0 : Int32))] (fun m => by first | (simp [entryFrame, mkF, argsToLocals, Value.category]; done) | rfl) ?_
  intro p e s m below meth c T0 X0 hx hby hml hret hlk hown hnm hZ e0
  replace hml : c.maxLocals = 4 := hml
  replace hown : s.vm.findClass "com/example/seqd/seqd/amqp/ConnectionBytes" = some m.cls := hown
  have N0 := Fr.nil n0
  refine own_st (G := T0.setTop (mkF m 1 #[.val (.ref a), .val (.long (327680 : Int64)), .second, .val (.int (0 : Int32))] [(.ref a)])) (fun _ kk => XS.aloadN X0.here hx rfl (hb hby down_ini_0) rfl rfl kk) ?_
  obtain ⟨T1, X2, e3, st4⟩ := initO X0 hx hZ hown (own_w hw 11 rfl) (own_w hw 12 rfl) (own_w hw 13 rfl) e0 (g := (mkF m 1 #[.val (.ref a), .val (.long (327680 : Int64)), .second, .val (.int (0 : Int32))] [(.ref a)])) rfl (by rw [hml]; rfl) rfl (hb hby down_ini_1) (by decide) (W := 0) (by show 2 * 0 + _ ≤ _; exact Nat.le_of_eq rfl) (by decide)
  refine own_st st4 ?_
  show own_Out _ _ _ _ (T1.setTop (mkF m 4 #[.val (.ref a), .val (.long (327680 : Int64)), .second, .val (.int (0 : Int32))] []))
  refine own_st (G := T1.setTop (mkF m 5 #[.val (.ref a), .val (.long (327680 : Int64)), .second, .val (.int (0 : Int32))] [(.ref a)])) (fun _ kk => XS.aloadN X2.here hx rfl (hb hby down_ini_4) rfl rfl kk) ?_
  refine own_st (G := T1.setTop (mkF m 6 #[.val (.ref a), .val (.long (327680 : Int64)), .second, .val (.int (0 : Int32))] [(.int (0 : Int32)), (.ref a)])) (fun _ kk => XS.iloadN X2.here hx rfl (hb hby down_ini_5) rfl kk) ?_
  refine own_callS X2 hx hZ (y := (⟨"com/example/seqd/seqd/amqp/ConnectionBytes", "connection", "(Z)J"⟩ : MethodName)) (as' := [(.int (0 : Int32))]) hown (own_w hw 14 rfl) (own_w hw 1 rfl) (own_w hw 2 rfl) (own_w hw 3 rfl) (by decide) (own_rco l Z a0 hw [] (0 : Int32) h0 n0) 1 (by decide) (by decide) (by decide) (by decide) (rest := [(.ref a)]) (by rw [hml]; rfl) (lenOf (by decide : parseMethodDescriptor "(Z)J" = some ⟨[.boolean], some (.long)⟩) rfl) rfl (Nat.le_of_eq rfl) (hb hby down_ini_6) e3 ?_
  intro T7 L8 v10 X9 hQ
  obtain ⟨rfl, rfl, eq5⟩ := hQ
  show own_Out _ _ _ _ (T7.setTop (mkF m 9 #[.val (.ref a), .val (.long (327680 : Int64)), .second, .val (.int (0 : Int32))] [(.long (own_conn (0 : Int32))), (.ref a)]))
  have N6 := Fr.app N0 (Fr.nil n0)
  rw [show own_conn (0 : Int32) = (327680 : Int64) from by decide +kernel]
  obtain ⟨T11, h12, X13, e14, W15, st16⟩ := putF X9 hx hZ hown (host := "") (Or.inl (own_w hw 15 rfl)) Via.refl eq5 (O).2.1 (O).1 (Or.inr ⟨(own_w hw 16 rfl), rfl, hnm⟩) (own_w hw 7 rfl) (ty := .long) (by decide) rfl rfl (g := (mkF m 9 #[.val (.ref a), .val (.long (327680 : Int64)), .second, .val (.int (0 : Int32))] [(.long (327680 : Int64)), (.ref a)])) rfl rfl (hb hby down_ini_9)
  refine own_st st16 ?_
  show own_Out _ _ _ _ (T11.setTop (mkF m 12 #[.val (.ref a), .val (.long (327680 : Int64)), .second, .val (.int (0 : Int32))] []))
  have O17 : own_C Z h12 a (327680 : Int64) f1 f2 f3 f4 := own_C_connection hw W15 O
  have N18 := Fr.snoc X13 N6 ga
  have U19 := Unt.wr W15 U
  refine own_st (G := T11.setTop (mkF m 13 #[.val (.ref a), .val (.long (327680 : Int64)), .second, .val (.int (0 : Int32))] [(.ref a)])) (fun _ kk => XS.aloadN X13.here hx rfl (hb hby down_ini_12) rfl rfl kk) ?_
  refine own_st (G := T11.setTop (mkF m 16 #[.val (.ref a), .val (.long (327680 : Int64)), .second, .val (.int (0 : Int32))] [(.long (65536 : Int64)), (.ref a)])) (fun _ kk => X13.ldc2Long hx hown (mvT hZ (own_w hw 17 rfl)) (g := (mkF m 13 #[.val (.ref a), .val (.long (327680 : Int64)), .second, .val (.int (0 : Int32))] [(.ref a)])) rfl (hb hby down_ini_13) _ kk) ?_
  refine own_st (G := T11.setTop (mkF m 17 #[.val (.ref a), .val (.long (327680 : Int64)), .second, .val (.int (0 : Int32))] [(.int (0 : Int32)), (.long (65536 : Int64)), (.ref a)])) (fun _ kk => XS.iloadN X13.here hx rfl (hb hby down_ini_16) rfl kk) ?_
  refine own_st (G := T11.setTop (mkF m 26 #[.val (.ref a), .val (.long (327680 : Int64)), .second, .val (.int (0 : Int32))] [(.long (65536 : Int64)), (.ref a)])) (fun _ kk => XS.ifYes X13.here hx rfl (pc0 := 17) (pc' := 26) rfl (hb hby down_ini_17) rfl (XT.i0_eq_t (by decide : (0 : Int32) = (0 : Int32))) (by decide) (by decide) kk) ?_
  refine own_st (G := T11.setTop (mkF m 27 #[.val (.ref a), .val (.long (327680 : Int64)), .second, .val (.int (0 : Int32))] [(.long (0 : Int64)), (.long (65536 : Int64)), (.ref a)])) (fun _ kk => XT.lconstV X13.here hx rfl (0 : Int64) (hb hby down_ini_26) (by decide) kk) ?_
  refine own_st (G := T11.setTop (mkF m 28 #[.val (.ref a), .val (.long (327680 : Int64)), .second, .val (.int (0 : Int32))] [(.long ((65536 : Int64) + (0 : Int64))), (.ref a)])) (fun _ kk => XS.ladd X13.here hx rfl (hb hby down_ini_27) rfl kk) ?_
  rw [show ((65536 : Int64) + (0 : Int64)) = (65536 : Int64) from by decide +kernel]
  obtain ⟨T20, h21, X22, e23, W24, st25⟩ := putF X13 hx hZ hown (host := "") (Or.inl (own_w hw 18 rfl)) Via.refl e14 (O17).2.2.1 (O17).1 (Or.inr ⟨(own_w hw 19 rfl), rfl, hnm⟩) (own_w hw 7 rfl) (ty := .long) (by decide) rfl rfl (g := (mkF m 28 #[.val (.ref a), .val (.long (327680 : Int64)), .second, .val (.int (0 : Int32))] [(.long (65536 : Int64)), (.ref a)])) rfl rfl (hb hby down_ini_28)
  refine own_st st25 ?_
  show own_Out _ _ _ _ (T20.setTop (mkF m 31 #[.val (.ref a), .val (.long (327680 : Int64)), .second, .val (.int (0 : Int32))] []))
  have O26 : own_C Z h21 a (327680 : Int64) (65536 : Int64) f2 f3 f4 := own_C_turnedAway hw W24 O17
  have N27 := Fr.snoc X22 N18 ga
  have U28 := Unt.wr W24 U19
  refine own_st (G := T20.setTop (mkF m 32 #[.val (.ref a), .val (.long (327680 : Int64)), .second, .val (.int (0 : Int32))] [(.long (327680 : Int64))])) (fun _ kk => XS.lloadN X22.here hx rfl (hb hby down_ini_31) rfl kk) ?_
  refine own_st (G := T20.setTop (mkF m 33 #[.val (.ref a), .val (.long (327680 : Int64)), .second, .val (.int (0 : Int32))] [(.ref a), (.long (327680 : Int64))])) (fun _ kk => XS.aloadN X22.here hx rfl (hb hby down_ini_32) rfl rfl kk) ?_
  obtain ⟨T29, X30, e31, st32⟩ := getF X22 hx hZ hown (host := "") (Or.inl (own_w hw 15 rfl)) Via.refl e23 (O26).2.1 (g := (mkF m 33 #[.val (.ref a), .val (.long (327680 : Int64)), .second, .val (.int (0 : Int32))] [(.ref a), (.long (327680 : Int64))])) rfl rfl (hb hby down_ini_33)
  refine own_st st32 ?_
  show own_Out _ _ _ _ (T29.setTop (mkF m 36 #[.val (.ref a), .val (.long (327680 : Int64)), .second, .val (.int (0 : Int32))] [(.long (327680 : Int64)), (.long (327680 : Int64))]))
  refine own_st (G := T29.setTop (mkF m 37 #[.val (.ref a), .val (.long (327680 : Int64)), .second, .val (.int (0 : Int32))] [(.int (BdW.cmpL (327680 : Int64) (327680 : Int64)))])) (fun _ kk => XT.lcmp X30.here hx rfl (hb hby down_ini_36) rfl kk) ?_
  refine own_st (G := T29.setTop (mkF m 58 #[.val (.ref a), .val (.long (327680 : Int64)), .second, .val (.int (0 : Int32))] [])) (fun _ kk => XS.ifYes X30.here hx rfl (pc0 := 37) (pc' := 58) rfl (hb hby down_ini_37) rfl (XT.ll_ge_t (by decide : ¬ (327680 : Int64) < (327680 : Int64))) (by decide) (by decide) kk) ?_
  refine own_st (G := T29.setTop (mkF m 59 #[.val (.ref a), .val (.long (327680 : Int64)), .second, .val (.int (0 : Int32))] [(.ref a)])) (fun _ kk => XS.aloadN X30.here hx rfl (hb hby down_ini_58) rfl rfl kk) ?_
  refine own_st (G := T29.setTop (mkF m 60 #[.val (.ref a), .val (.long (327680 : Int64)), .second, .val (.int (0 : Int32))] [(.long (327680 : Int64)), (.ref a)])) (fun _ kk => XS.lloadN X30.here hx rfl (hb hby down_ini_59) rfl kk) ?_
  obtain ⟨T33, h34, X35, e36, W37, st38⟩ := putF X30 hx hZ hown (host := "") (Or.inl (own_w hw 20 rfl)) Via.refl e31 (O26).2.2.2.1 (O26).1 (Or.inr ⟨(own_w hw 21 rfl), rfl, hnm⟩) (own_w hw 7 rfl) (ty := .long) (by decide) rfl rfl (g := (mkF m 60 #[.val (.ref a), .val (.long (327680 : Int64)), .second, .val (.int (0 : Int32))] [(.long (327680 : Int64)), (.ref a)])) rfl rfl (hb hby down_ini_60)
  refine own_st st38 ?_
  show own_Out _ _ _ _ (T33.setTop (mkF m 63 #[.val (.ref a), .val (.long (327680 : Int64)), .second, .val (.int (0 : Int32))] []))
  have O39 : own_C Z h34 a (327680 : Int64) (65536 : Int64) (327680 : Int64) f3 f4 := own_C_limit hw W37 O26
  have N40 := Fr.snoc X35 N27 ga
  have U41 := Unt.wr W37 U28
  refine own_st (G := T33.setTop (mkF m 64 #[.val (.ref a), .val (.long (327680 : Int64)), .second, .val (.int (0 : Int32))] [(.ref a)])) (fun _ kk => XS.aloadN X35.here hx rfl (hb hby down_ini_63) rfl rfl kk) ?_
  refine own_st (G := T33.setTop (mkF m 65 #[.val (.ref a), .val (.long (327680 : Int64)), .second, .val (.int (0 : Int32))] [(.long (327680 : Int64)), (.ref a)])) (fun _ kk => XS.lloadN X35.here hx rfl (hb hby down_ini_64) rfl kk) ?_
  refine own_st (G := T33.setTop (mkF m 66 #[.val (.ref a), .val (.long (327680 : Int64)), .second, .val (.int (0 : Int32))] [(.long (327680 : Int64)), (.long (327680 : Int64)), (.ref a)])) (fun _ kk => XS.lloadN X35.here hx rfl (hb hby down_ini_65) rfl kk) ?_
  refine own_st (G := T33.setTop (mkF m 69 #[.val (.ref a), .val (.long (327680 : Int64)), .second, .val (.int (0 : Int32))] [(.long (4 : Int64)), (.long (327680 : Int64)), (.long (327680 : Int64)), (.ref a)])) (fun _ kk => X35.ldc2Long hx hown (mvT hZ (own_w hw 22 rfl)) (g := (mkF m 66 #[.val (.ref a), .val (.long (327680 : Int64)), .second, .val (.int (0 : Int32))] [(.long (327680 : Int64)), (.long (327680 : Int64)), (.ref a)])) rfl (hb hby down_ini_66) _ kk) ?_
  refine own_st (G := T33.setTop (mkF m 70 #[.val (.ref a), .val (.long (327680 : Int64)), .second, .val (.int (0 : Int32))] [(.long ((327680 : Int64) / (4 : Int64))), (.long (327680 : Int64)), (.ref a)])) (fun _ kk => XS.ldiv X35.here hx rfl (hb hby down_ini_69) rfl (by decide) kk) ?_
  rw [show ((327680 : Int64) / (4 : Int64)) = (81920 : Int64) from by decide +kernel]
  refine own_st (G := T33.setTop (mkF m 71 #[.val (.ref a), .val (.long (327680 : Int64)), .second, .val (.int (0 : Int32))] [(.long ((327680 : Int64) - (81920 : Int64))), (.ref a)])) (fun _ kk => XS.lsub X35.here hx rfl (hb hby down_ini_70) rfl kk) ?_
  rw [show ((327680 : Int64) - (81920 : Int64)) = (245760 : Int64) from by decide +kernel]
  obtain ⟨T42, h43, X44, e45, W46, st47⟩ := putF X35 hx hZ hown (host := "") (Or.inl (own_w hw 23 rfl)) Via.refl e36 (O39).2.2.2.2.1 (O39).1 (Or.inr ⟨(own_w hw 24 rfl), rfl, hnm⟩) (own_w hw 7 rfl) (ty := .long) (by decide) rfl rfl (g := (mkF m 71 #[.val (.ref a), .val (.long (327680 : Int64)), .second, .val (.int (0 : Int32))] [(.long (245760 : Int64)), (.ref a)])) rfl rfl (hb hby down_ini_71)
  refine own_st st47 ?_
  show own_Out _ _ _ _ (T42.setTop (mkF m 74 #[.val (.ref a), .val (.long (327680 : Int64)), .second, .val (.int (0 : Int32))] []))
  have O48 : own_C Z h43 a (327680 : Int64) (65536 : Int64) (327680 : Int64) (245760 : Int64) f4 := own_C_admitBelow hw W46 O39
  have N49 := Fr.snoc X44 N40 ga
  have U50 := Unt.wr W46 U41
  refine own_ret0 X44 hx hret hlk (hb hby down_ini_74) (by decide) (by decide) ?_
  rw [e45]
  exact ⟨rfl, N49, O48, U50⟩
theorem pn_own_ini1 : plainFor (⟨"com/example/seqd/seqd/amqp/ConnectionBytes", "<init>", "(JZ)V"⟩ : MethodName) = true := by first | exact plainFor_of_name (by first | (simp [plainName, overriddenIn]; done) | decide +kernel) | decide +kernel
theorem down_ini_20 : decode prog_5_method_1_code 20 = .ok (.ldc2_w 16, 3) := by decide +kernel
theorem down_ini_23 : decode prog_5_method_1_code 23 = .ok (.goto 4, 3) := by decide +kernel
def Q_own_ini1 (Z : State)  (a : Addr) (f0 : Int64) (f1 : Int64) (f2 : Int64) (f3 : Int64) (f4 : Int64)  (h0 : Heap) (n0 : Nat) (v : Option Value) (h : Heap) (L : List Loc) : Prop := v = none ∧ Fr n0 L ∧ own_C Z h a (393216 : Int64) (131072 : Int64) (393216 : Int64) (294912 : Int64) f4 ∧ Unt h a
set_option maxRecDepth 65536 in
set_option maxHeartbeats 40000000 in
theorem own_ini1 (l : Launch) (Z : State) (a0 : Array Value) (hw : ∀ d ∈ tables_1, d.before a0 Z = true) (ws : List Jvm.Cond)  (a : Addr) (f0 : Int64) (f1 : Int64) (f2 : Int64) (f3 : Int64) (f4 : Int64)  (h0 : Heap) (n0 : Nat) (ga : n0 ≤ a) (O : own_C Z h0 a f0 f1 f2 f3 f4) (U : Unt h0 a) :
    MetFree l (⟨"com/example/seqd/seqd/amqp/ConnectionBytes", "<init>", "(JZ)V"⟩ : MethodName) (head1 (Jvm.Cond.code (⟨"com/example/seqd/seqd/amqp/ConnectionBytes", "<init>", "(JZ)V"⟩ : MethodName) prog_5_method_1_code 4 none :: ws) ({ frames := 1, cells := 0, slots := 0, locals := 15 } : Room)) (fun aa U => aa = #[(.ref a), (.long (393216 : Int64)), (.int (1 : Int32))] ∧ Z.Warmed39 U.vm ∧ U.heap = h0) (fun _ _ _ _ _ => True) (fun _ U o U' => ∃ v L, o = .returned v ∧ Q_own_ini1 Z a f0 f1 f2 f3 f4 h0 n0 v U'.heap L ∧ FrameEnd U o U' L ({ frames := 1, cells := 0, slots := 0, locals := 15 } : Room).cells ({ frames := 1, cells := 0, slots := 0, locals := 15 } : Room).slots) := by
  refine own_body (x := (⟨"com/example/seqd/seqd/amqp/ConnectionBytes", "<init>", "(JZ)V"⟩ : MethodName)) (maxL := 4) (as' := #[(.ref a), (.long (393216 : Int64)), (.int (1 : Int32))]) (Q := Q_own_ini1 Z a f0 f1 f2 f3 f4 h0 n0) pn_own_ini1 #[.val (.ref a), .val (.long (393216 : Int64)), .second, .val (.int (1 : Int32))] (fun m => by first | (simp [entryFrame, mkF, argsToLocals, Value.category]; done) | rfl) ?_
  intro p e s m below meth c T0 X0 hx hby hml hret hlk hown hnm hZ e0
  replace hml : c.maxLocals = 4 := hml
  replace hown : s.vm.findClass "com/example/seqd/seqd/amqp/ConnectionBytes" = some m.cls := hown
  have N0 := Fr.nil n0
  refine own_st (G := T0.setTop (mkF m 1 #[.val (.ref a), .val (.long (393216 : Int64)), .second, .val (.int (1 : Int32))] [(.ref a)])) (fun _ kk => XS.aloadN X0.here hx rfl (hb hby down_ini_0) rfl rfl kk) ?_
  obtain ⟨T1, X2, e3, st4⟩ := initO X0 hx hZ hown (own_w hw 11 rfl) (own_w hw 12 rfl) (own_w hw 13 rfl) e0 (g := (mkF m 1 #[.val (.ref a), .val (.long (393216 : Int64)), .second, .val (.int (1 : Int32))] [(.ref a)])) rfl (by rw [hml]; rfl) rfl (hb hby down_ini_1) (by decide) (W := 0) (by show 2 * 0 + _ ≤ _; exact Nat.le_of_eq rfl) (by decide)
  refine own_st st4 ?_
  show own_Out _ _ _ _ (T1.setTop (mkF m 4 #[.val (.ref a), .val (.long (393216 : Int64)), .second, .val (.int (1 : Int32))] []))
  refine own_st (G := T1.setTop (mkF m 5 #[.val (.ref a), .val (.long (393216 : Int64)), .second, .val (.int (1 : Int32))] [(.ref a)])) (fun _ kk => XS.aloadN X2.here hx rfl (hb hby down_ini_4) rfl rfl kk) ?_
  refine own_st (G := T1.setTop (mkF m 6 #[.val (.ref a), .val (.long (393216 : Int64)), .second, .val (.int (1 : Int32))] [(.int (1 : Int32)), (.ref a)])) (fun _ kk => XS.iloadN X2.here hx rfl (hb hby down_ini_5) rfl kk) ?_
  refine own_callS X2 hx hZ (y := (⟨"com/example/seqd/seqd/amqp/ConnectionBytes", "connection", "(Z)J"⟩ : MethodName)) (as' := [(.int (1 : Int32))]) hown (own_w hw 14 rfl) (own_w hw 1 rfl) (own_w hw 2 rfl) (own_w hw 3 rfl) (by decide) (own_rco l Z a0 hw [] (1 : Int32) h0 n0) 1 (by decide) (by decide) (by decide) (by decide) (rest := [(.ref a)]) (by rw [hml]; rfl) (lenOf (by decide : parseMethodDescriptor "(Z)J" = some ⟨[.boolean], some (.long)⟩) rfl) rfl (Nat.le_of_eq rfl) (hb hby down_ini_6) e3 ?_
  intro T7 L8 v10 X9 hQ
  obtain ⟨rfl, rfl, eq5⟩ := hQ
  show own_Out _ _ _ _ (T7.setTop (mkF m 9 #[.val (.ref a), .val (.long (393216 : Int64)), .second, .val (.int (1 : Int32))] [(.long (own_conn (1 : Int32))), (.ref a)]))
  have N6 := Fr.app N0 (Fr.nil n0)
  rw [show own_conn (1 : Int32) = (393216 : Int64) from by decide +kernel]
  obtain ⟨T11, h12, X13, e14, W15, st16⟩ := putF X9 hx hZ hown (host := "") (Or.inl (own_w hw 15 rfl)) Via.refl eq5 (O).2.1 (O).1 (Or.inr ⟨(own_w hw 16 rfl), rfl, hnm⟩) (own_w hw 7 rfl) (ty := .long) (by decide) rfl rfl (g := (mkF m 9 #[.val (.ref a), .val (.long (393216 : Int64)), .second, .val (.int (1 : Int32))] [(.long (393216 : Int64)), (.ref a)])) rfl rfl (hb hby down_ini_9)
  refine own_st st16 ?_
  show own_Out _ _ _ _ (T11.setTop (mkF m 12 #[.val (.ref a), .val (.long (393216 : Int64)), .second, .val (.int (1 : Int32))] []))
  have O17 : own_C Z h12 a (393216 : Int64) f1 f2 f3 f4 := own_C_connection hw W15 O
  have N18 := Fr.snoc X13 N6 ga
  have U19 := Unt.wr W15 U
  refine own_st (G := T11.setTop (mkF m 13 #[.val (.ref a), .val (.long (393216 : Int64)), .second, .val (.int (1 : Int32))] [(.ref a)])) (fun _ kk => XS.aloadN X13.here hx rfl (hb hby down_ini_12) rfl rfl kk) ?_
  refine own_st (G := T11.setTop (mkF m 16 #[.val (.ref a), .val (.long (393216 : Int64)), .second, .val (.int (1 : Int32))] [(.long (65536 : Int64)), (.ref a)])) (fun _ kk => X13.ldc2Long hx hown (mvT hZ (own_w hw 17 rfl)) (g := (mkF m 13 #[.val (.ref a), .val (.long (393216 : Int64)), .second, .val (.int (1 : Int32))] [(.ref a)])) rfl (hb hby down_ini_13) _ kk) ?_
  refine own_st (G := T11.setTop (mkF m 17 #[.val (.ref a), .val (.long (393216 : Int64)), .second, .val (.int (1 : Int32))] [(.int (1 : Int32)), (.long (65536 : Int64)), (.ref a)])) (fun _ kk => XS.iloadN X13.here hx rfl (hb hby down_ini_16) rfl kk) ?_
  refine own_st (G := T11.setTop (mkF m 20 #[.val (.ref a), .val (.long (393216 : Int64)), .second, .val (.int (1 : Int32))] [(.long (65536 : Int64)), (.ref a)])) (fun _ kk => XS.ifNo X13.here hx rfl (hb hby down_ini_17) rfl (XT.i0_eq_f (by decide : ¬ (1 : Int32) = (0 : Int32))) kk) ?_
  refine own_st (G := T11.setTop (mkF m 23 #[.val (.ref a), .val (.long (393216 : Int64)), .second, .val (.int (1 : Int32))] [(.long (65536 : Int64)), (.long (65536 : Int64)), (.ref a)])) (fun _ kk => X13.ldc2Long hx hown (mvT hZ (own_w hw 17 rfl)) (g := (mkF m 20 #[.val (.ref a), .val (.long (393216 : Int64)), .second, .val (.int (1 : Int32))] [(.long (65536 : Int64)), (.ref a)])) rfl (hb hby down_ini_20) _ kk) ?_
  refine own_st (G := T11.setTop (mkF m 27 #[.val (.ref a), .val (.long (393216 : Int64)), .second, .val (.int (1 : Int32))] [(.long (65536 : Int64)), (.long (65536 : Int64)), (.ref a)])) (fun _ kk => XS.goto X13.here hx rfl (pc0 := 23) (pc' := 27) rfl (hb hby down_ini_23) (by decide) (by decide) kk) ?_
  refine own_st (G := T11.setTop (mkF m 28 #[.val (.ref a), .val (.long (393216 : Int64)), .second, .val (.int (1 : Int32))] [(.long ((65536 : Int64) + (65536 : Int64))), (.ref a)])) (fun _ kk => XS.ladd X13.here hx rfl (hb hby down_ini_27) rfl kk) ?_
  rw [show ((65536 : Int64) + (65536 : Int64)) = (131072 : Int64) from by decide +kernel]
  obtain ⟨T20, h21, X22, e23, W24, st25⟩ := putF X13 hx hZ hown (host := "") (Or.inl (own_w hw 18 rfl)) Via.refl e14 (O17).2.2.1 (O17).1 (Or.inr ⟨(own_w hw 19 rfl), rfl, hnm⟩) (own_w hw 7 rfl) (ty := .long) (by decide) rfl rfl (g := (mkF m 28 #[.val (.ref a), .val (.long (393216 : Int64)), .second, .val (.int (1 : Int32))] [(.long (131072 : Int64)), (.ref a)])) rfl rfl (hb hby down_ini_28)
  refine own_st st25 ?_
  show own_Out _ _ _ _ (T20.setTop (mkF m 31 #[.val (.ref a), .val (.long (393216 : Int64)), .second, .val (.int (1 : Int32))] []))
  have O26 : own_C Z h21 a (393216 : Int64) (131072 : Int64) f2 f3 f4 := own_C_turnedAway hw W24 O17
  have N27 := Fr.snoc X22 N18 ga
  have U28 := Unt.wr W24 U19
  refine own_st (G := T20.setTop (mkF m 32 #[.val (.ref a), .val (.long (393216 : Int64)), .second, .val (.int (1 : Int32))] [(.long (393216 : Int64))])) (fun _ kk => XS.lloadN X22.here hx rfl (hb hby down_ini_31) rfl kk) ?_
  refine own_st (G := T20.setTop (mkF m 33 #[.val (.ref a), .val (.long (393216 : Int64)), .second, .val (.int (1 : Int32))] [(.ref a), (.long (393216 : Int64))])) (fun _ kk => XS.aloadN X22.here hx rfl (hb hby down_ini_32) rfl rfl kk) ?_
  obtain ⟨T29, X30, e31, st32⟩ := getF X22 hx hZ hown (host := "") (Or.inl (own_w hw 15 rfl)) Via.refl e23 (O26).2.1 (g := (mkF m 33 #[.val (.ref a), .val (.long (393216 : Int64)), .second, .val (.int (1 : Int32))] [(.ref a), (.long (393216 : Int64))])) rfl rfl (hb hby down_ini_33)
  refine own_st st32 ?_
  show own_Out _ _ _ _ (T29.setTop (mkF m 36 #[.val (.ref a), .val (.long (393216 : Int64)), .second, .val (.int (1 : Int32))] [(.long (393216 : Int64)), (.long (393216 : Int64))]))
  refine own_st (G := T29.setTop (mkF m 37 #[.val (.ref a), .val (.long (393216 : Int64)), .second, .val (.int (1 : Int32))] [(.int (BdW.cmpL (393216 : Int64) (393216 : Int64)))])) (fun _ kk => XT.lcmp X30.here hx rfl (hb hby down_ini_36) rfl kk) ?_
  refine own_st (G := T29.setTop (mkF m 58 #[.val (.ref a), .val (.long (393216 : Int64)), .second, .val (.int (1 : Int32))] [])) (fun _ kk => XS.ifYes X30.here hx rfl (pc0 := 37) (pc' := 58) rfl (hb hby down_ini_37) rfl (XT.ll_ge_t (by decide : ¬ (393216 : Int64) < (393216 : Int64))) (by decide) (by decide) kk) ?_
  refine own_st (G := T29.setTop (mkF m 59 #[.val (.ref a), .val (.long (393216 : Int64)), .second, .val (.int (1 : Int32))] [(.ref a)])) (fun _ kk => XS.aloadN X30.here hx rfl (hb hby down_ini_58) rfl rfl kk) ?_
  refine own_st (G := T29.setTop (mkF m 60 #[.val (.ref a), .val (.long (393216 : Int64)), .second, .val (.int (1 : Int32))] [(.long (393216 : Int64)), (.ref a)])) (fun _ kk => XS.lloadN X30.here hx rfl (hb hby down_ini_59) rfl kk) ?_
  obtain ⟨T33, h34, X35, e36, W37, st38⟩ := putF X30 hx hZ hown (host := "") (Or.inl (own_w hw 20 rfl)) Via.refl e31 (O26).2.2.2.1 (O26).1 (Or.inr ⟨(own_w hw 21 rfl), rfl, hnm⟩) (own_w hw 7 rfl) (ty := .long) (by decide) rfl rfl (g := (mkF m 60 #[.val (.ref a), .val (.long (393216 : Int64)), .second, .val (.int (1 : Int32))] [(.long (393216 : Int64)), (.ref a)])) rfl rfl (hb hby down_ini_60)
  refine own_st st38 ?_
  show own_Out _ _ _ _ (T33.setTop (mkF m 63 #[.val (.ref a), .val (.long (393216 : Int64)), .second, .val (.int (1 : Int32))] []))
  have O39 : own_C Z h34 a (393216 : Int64) (131072 : Int64) (393216 : Int64) f3 f4 := own_C_limit hw W37 O26
  have N40 := Fr.snoc X35 N27 ga
  have U41 := Unt.wr W37 U28
  refine own_st (G := T33.setTop (mkF m 64 #[.val (.ref a), .val (.long (393216 : Int64)), .second, .val (.int (1 : Int32))] [(.ref a)])) (fun _ kk => XS.aloadN X35.here hx rfl (hb hby down_ini_63) rfl rfl kk) ?_
  refine own_st (G := T33.setTop (mkF m 65 #[.val (.ref a), .val (.long (393216 : Int64)), .second, .val (.int (1 : Int32))] [(.long (393216 : Int64)), (.ref a)])) (fun _ kk => XS.lloadN X35.here hx rfl (hb hby down_ini_64) rfl kk) ?_
  refine own_st (G := T33.setTop (mkF m 66 #[.val (.ref a), .val (.long (393216 : Int64)), .second, .val (.int (1 : Int32))] [(.long (393216 : Int64)), (.long (393216 : Int64)), (.ref a)])) (fun _ kk => XS.lloadN X35.here hx rfl (hb hby down_ini_65) rfl kk) ?_
  refine own_st (G := T33.setTop (mkF m 69 #[.val (.ref a), .val (.long (393216 : Int64)), .second, .val (.int (1 : Int32))] [(.long (4 : Int64)), (.long (393216 : Int64)), (.long (393216 : Int64)), (.ref a)])) (fun _ kk => X35.ldc2Long hx hown (mvT hZ (own_w hw 22 rfl)) (g := (mkF m 66 #[.val (.ref a), .val (.long (393216 : Int64)), .second, .val (.int (1 : Int32))] [(.long (393216 : Int64)), (.long (393216 : Int64)), (.ref a)])) rfl (hb hby down_ini_66) _ kk) ?_
  refine own_st (G := T33.setTop (mkF m 70 #[.val (.ref a), .val (.long (393216 : Int64)), .second, .val (.int (1 : Int32))] [(.long ((393216 : Int64) / (4 : Int64))), (.long (393216 : Int64)), (.ref a)])) (fun _ kk => XS.ldiv X35.here hx rfl (hb hby down_ini_69) rfl (by decide) kk) ?_
  rw [show ((393216 : Int64) / (4 : Int64)) = (98304 : Int64) from by decide +kernel]
  refine own_st (G := T33.setTop (mkF m 71 #[.val (.ref a), .val (.long (393216 : Int64)), .second, .val (.int (1 : Int32))] [(.long ((393216 : Int64) - (98304 : Int64))), (.ref a)])) (fun _ kk => XS.lsub X35.here hx rfl (hb hby down_ini_70) rfl kk) ?_
  rw [show ((393216 : Int64) - (98304 : Int64)) = (294912 : Int64) from by decide +kernel]
  obtain ⟨T42, h43, X44, e45, W46, st47⟩ := putF X35 hx hZ hown (host := "") (Or.inl (own_w hw 23 rfl)) Via.refl e36 (O39).2.2.2.2.1 (O39).1 (Or.inr ⟨(own_w hw 24 rfl), rfl, hnm⟩) (own_w hw 7 rfl) (ty := .long) (by decide) rfl rfl (g := (mkF m 71 #[.val (.ref a), .val (.long (393216 : Int64)), .second, .val (.int (1 : Int32))] [(.long (294912 : Int64)), (.ref a)])) rfl rfl (hb hby down_ini_71)
  refine own_st st47 ?_
  show own_Out _ _ _ _ (T42.setTop (mkF m 74 #[.val (.ref a), .val (.long (393216 : Int64)), .second, .val (.int (1 : Int32))] []))
  have O48 : own_C Z h43 a (393216 : Int64) (131072 : Int64) (393216 : Int64) (294912 : Int64) f4 := own_C_admitBelow hw W46 O39
  have N49 := Fr.snoc X44 N40 ga
  have U50 := Unt.wr W46 U41
  refine own_ret0 X44 hx hret hlk (hb hby down_ini_74) (by decide) (by decide) ?_
  rw [e45]
  exact ⟨rfl, N49, O48, U50⟩
theorem pn_own_admit : plainFor (⟨"com/example/seqd/seqd/amqp/ConnectionBytes", "admit", "()Lcom/example/seqd/seqd/amqp/ConnectionBytes$Account;"⟩ : MethodName) = true := by first | exact plainFor_of_name (by first | (simp [plainName, overriddenIn]; done) | decide +kernel) | decide +kernel
theorem down_admit_0 : decode prog_5_method_3_code 0 = .ok (.aconst_null, 1) := by decide +kernel
theorem down_admit_1 : decode prog_5_method_3_code 1 = .ok (.astore_n 1, 1) := by decide +kernel
theorem down_admit_2 : decode prog_5_method_3_code 2 = .ok (.aload_n 0, 1) := by decide +kernel
theorem down_admit_3 : decode prog_5_method_3_code 3 = .ok (.getfield 40, 3) := by decide +kernel
theorem down_admit_6 : decode prog_5_method_3_code 6 = .ok (.aload_n 0, 1) := by decide +kernel
theorem down_admit_7 : decode prog_5_method_3_code 7 = .ok (.getfield 35, 3) := by decide +kernel
theorem down_admit_10 : decode prog_5_method_3_code 10 = .ok (.lcmp, 1) := by decide +kernel
theorem down_admit_11 : decode prog_5_method_3_code 11 = .ok (.ifCond .ge 50, 3) := by decide +kernel
theorem down_admit_14 : decode prog_5_method_3_code 14 = .ok (.aload_n 0, 1) := by decide +kernel
theorem down_admit_15 : decode prog_5_method_3_code 15 = .ok (.getfield 40, 3) := by decide +kernel
theorem down_admit_18 : decode prog_5_method_3_code 18 = .ok (.aload_n 0, 1) := by decide +kernel
theorem down_admit_19 : decode prog_5_method_3_code 19 = .ok (.getfield 13, 3) := by decide +kernel
theorem down_admit_22 : decode prog_5_method_3_code 22 = .ok (.ladd, 1) := by decide +kernel
theorem down_admit_23 : decode prog_5_method_3_code 23 = .ok (.aload_n 0, 1) := by decide +kernel
theorem down_admit_24 : decode prog_5_method_3_code 24 = .ok (.getfield 30, 3) := by decide +kernel
theorem down_admit_27 : decode prog_5_method_3_code 27 = .ok (.lcmp, 1) := by decide +kernel
theorem down_admit_28 : decode prog_5_method_3_code 28 = .ok (.ifCond .gt 33, 3) := by decide +kernel
theorem down_admit_31 : decode prog_5_method_3_code 31 = .ok (.aload_n 0, 1) := by decide +kernel
theorem down_admit_32 : decode prog_5_method_3_code 32 = .ok (.dup, 1) := by decide +kernel
theorem down_admit_33 : decode prog_5_method_3_code 33 = .ok (.getfield 40, 3) := by decide +kernel
theorem down_admit_36 : decode prog_5_method_3_code 36 = .ok (.aload_n 0, 1) := by decide +kernel
theorem down_admit_37 : decode prog_5_method_3_code 37 = .ok (.getfield 13, 3) := by decide +kernel
theorem down_admit_40 : decode prog_5_method_3_code 40 = .ok (.ladd, 1) := by decide +kernel
theorem down_admit_41 : decode prog_5_method_3_code 41 = .ok (.putfield 40, 3) := by decide +kernel
theorem down_admit_44 : decode prog_5_method_3_code 44 = .ok (.new 43, 3) := by decide +kernel
theorem down_admit_47 : decode prog_5_method_3_code 47 = .ok (.dup, 1) := by decide +kernel
theorem down_admit_48 : decode prog_5_method_3_code 48 = .ok (.aload_n 0, 1) := by decide +kernel
theorem down_admit_49 : decode prog_5_method_3_code 49 = .ok (.aload_n 0, 1) := by decide +kernel
theorem down_admit_50 : decode prog_5_method_3_code 50 = .ok (.getfield 13, 3) := by decide +kernel
theorem down_admit_53 : decode prog_5_method_3_code 53 = .ok (.aconst_null, 1) := by decide +kernel
theorem down_admit_54 : decode prog_5_method_3_code 54 = .ok (.invokespecial 45, 3) := by decide +kernel
theorem down_admit_57 : decode prog_5_method_3_code 57 = .ok (.astore_n 1, 1) := by decide +kernel
theorem down_admit_58 : decode prog_5_method_3_code 58 = .ok (.goto 55, 3) := by decide +kernel
theorem down_admit_113 : decode prog_5_method_3_code 113 = .ok (.aload_n 1, 1) := by decide +kernel
theorem down_admit_114 : decode prog_5_method_3_code 114 = .ok (.areturn, 1) := by decide +kernel
def Q_own_admit (Z : State)  (a : Addr) (f0 : Int64) (f1 : Int64) (f2 : Int64) (f3 : Int64) (f4 : Int64)  (h0 : Heap) (n0 : Nat) (v : Option Value) (h : Heap) (L : List Loc) : Prop := ∃ (r : Addr) (mm : Value), v = some (.ref r) ∧ Fr n0 L ∧ n0 ≤ r ∧ own_A Z h r (.ref a) mm f0 .null
set_option maxRecDepth 65536 in
set_option maxHeartbeats 40000000 in
theorem own_admit (l : Launch) (Z : State) (a0 : Array Value) (hw : ∀ d ∈ tables_1, d.before a0 Z = true) (ws : List Jvm.Cond)  (a : Addr) (f0 : Int64) (f1 : Int64) (f2 : Int64) (f3 : Int64) (f4 : Int64)  (h0 : Heap) (n0 : Nat) (ga : n0 ≤ a) (O : own_C Z h0 a f0 f1 f2 f3 f4) (h1 : f4 < f3) (h2 : ¬ f2 < (f4 + f0)) :
    MetFree l (⟨"com/example/seqd/seqd/amqp/ConnectionBytes", "admit", "()Lcom/example/seqd/seqd/amqp/ConnectionBytes$Account;"⟩ : MethodName) (head1 (Jvm.Cond.codeSync (⟨"com/example/seqd/seqd/amqp/ConnectionBytes", "admit", "()Lcom/example/seqd/seqd/amqp/ConnectionBytes$Account;"⟩ : MethodName) prog_5_method_3_code 2 (some (.object "com/example/seqd/seqd/amqp/ConnectionBytes$Account")) :: Jvm.Cond.instanceMethod (⟨"com/example/seqd/seqd/amqp/ConnectionBytes", "admit", "()Lcom/example/seqd/seqd/amqp/ConnectionBytes$Account;"⟩ : MethodName) :: ws) ({ frames := 4, cells := 3, slots := 74, locals := 57 } : Room)) (fun aa U => aa = #[(.ref a)] ∧ Z.Warmed39 U.vm ∧ U.heap = h0 ∧ ∃ cell : Cell, h0[a]? = some cell ∧ cell.enterable U.cur) (fun _ _ _ _ _ => True) (fun _ U o U' => ∃ v L, o = .returned v ∧ Q_own_admit Z a f0 f1 f2 f3 f4 h0 n0 v U'.heap L ∧ FrameEnd U o U' L ({ frames := 4, cells := 3, slots := 74, locals := 57 } : Room).cells ({ frames := 4, cells := 3, slots := 74, locals := 57 } : Room).slots) := by
  refine own_bodyS (x := (⟨"com/example/seqd/seqd/amqp/ConnectionBytes", "admit", "()Lcom/example/seqd/seqd/amqp/ConnectionBytes$Account;"⟩ : MethodName)) (maxL := 2) (a := a) (as' := #[(.ref a)]) (Q := Q_own_admit Z a f0 f1 f2 f3 f4 h0 n0) pn_own_admit (List.mem_cons_self ..) rfl #[.val (.ref a), .unset] (fun m => by first | (simp [entryFrameSync, entryFrame, argsToLocals, Value.category]; done) | rfl) ?_
  intro p e s m below meth c T0 cell X0 hx hby hml hret hlk hown hZ M0 hcl hen
  replace hml : c.maxLocals = 2 := hml
  replace hown : (s.setCell a (cell.withEntry s.cur)).vm.findClass "com/example/seqd/seqd/amqp/ConnectionBytes" = some m.cls := hown
  have N0 := Fr.nil n0
  have O1 := own_C_mon M0 O
  refine own_st (G := T0.setTop (mkL a m 1 #[.val (.ref a), .unset] [.null])) (fun _ kk => XS.aconstNull X0.here hx rfl (hb hby down_admit_0) kk) ?_
  refine own_st (G := T0.setTop (mkL a m 2 #[.val (.ref a), .val .null] [])) (fun _ kk => XS.astoreN X0.here hx rfl (hb hby down_admit_1) rfl rfl (l' := #[.val (.ref a), .val .null]) rfl kk) ?_
  refine own_st (G := T0.setTop (mkL a m 3 #[.val (.ref a), .val .null] [(.ref a)])) (fun _ kk => XS.aloadN X0.here hx rfl (hb hby down_admit_2) rfl rfl kk) ?_
  obtain ⟨T1, X2, e3, st4⟩ := getF X0 hx hZ hown (host := "") (Or.inl (own_w hw 30 rfl)) Via.refl rfl (O1).2.2.2.2.2 (g := (mkL a m 3 #[.val (.ref a), .val .null] [(.ref a)])) rfl rfl (hb hby down_admit_3)
  refine own_st st4 ?_
  show own_Out _ _ _ _ (T1.setTop (mkL a m 6 #[.val (.ref a), .val .null] [(.long f4)]))
  refine own_st (G := T1.setTop (mkL a m 7 #[.val (.ref a), .val .null] [(.ref a), (.long f4)])) (fun _ kk => XS.aloadN X2.here hx rfl (hb hby down_admit_6) rfl rfl kk) ?_
  obtain ⟨T5, X6, e7, st8⟩ := getF X2 hx hZ hown (host := "") (Or.inl (own_w hw 23 rfl)) Via.refl e3 (O1).2.2.2.2.1 (g := (mkL a m 7 #[.val (.ref a), .val .null] [(.ref a), (.long f4)])) rfl rfl (hb hby down_admit_7)
  refine own_st st8 ?_
  show own_Out _ _ _ _ (T5.setTop (mkL a m 10 #[.val (.ref a), .val .null] [(.long f3), (.long f4)]))
  refine own_st (G := T5.setTop (mkL a m 11 #[.val (.ref a), .val .null] [(.int (BdW.cmpL f4 f3))])) (fun _ kk => XT.lcmp X6.here hx rfl (hb hby down_admit_10) rfl kk) ?_
  have hk9 : (f4 < f3) := h1
  refine own_st (G := T5.setTop (mkL a m 14 #[.val (.ref a), .val .null] [])) (fun _ kk => XS.ifNo X6.here hx rfl (hb hby down_admit_11) rfl (XT.ll_ge_f hk9) kk) ?_
  refine own_st (G := T5.setTop (mkL a m 15 #[.val (.ref a), .val .null] [(.ref a)])) (fun _ kk => XS.aloadN X6.here hx rfl (hb hby down_admit_14) rfl rfl kk) ?_
  obtain ⟨T10, X11, e12, st13⟩ := getF X6 hx hZ hown (host := "") (Or.inl (own_w hw 30 rfl)) Via.refl e7 (O1).2.2.2.2.2 (g := (mkL a m 15 #[.val (.ref a), .val .null] [(.ref a)])) rfl rfl (hb hby down_admit_15)
  refine own_st st13 ?_
  show own_Out _ _ _ _ (T10.setTop (mkL a m 18 #[.val (.ref a), .val .null] [(.long f4)]))
  refine own_st (G := T10.setTop (mkL a m 19 #[.val (.ref a), .val .null] [(.ref a), (.long f4)])) (fun _ kk => XS.aloadN X11.here hx rfl (hb hby down_admit_18) rfl rfl kk) ?_
  obtain ⟨T14, X15, e16, st17⟩ := getF X11 hx hZ hown (host := "") (Or.inl (own_w hw 15 rfl)) Via.refl e12 (O1).2.1 (g := (mkL a m 19 #[.val (.ref a), .val .null] [(.ref a), (.long f4)])) rfl rfl (hb hby down_admit_19)
  refine own_st st17 ?_
  show own_Out _ _ _ _ (T14.setTop (mkL a m 22 #[.val (.ref a), .val .null] [(.long f0), (.long f4)]))
  refine own_st (G := T14.setTop (mkL a m 23 #[.val (.ref a), .val .null] [(.long (f4 + f0))])) (fun _ kk => XS.ladd X15.here hx rfl (hb hby down_admit_22) rfl kk) ?_
  refine own_st (G := T14.setTop (mkL a m 24 #[.val (.ref a), .val .null] [(.ref a), (.long (f4 + f0))])) (fun _ kk => XS.aloadN X15.here hx rfl (hb hby down_admit_23) rfl rfl kk) ?_
  obtain ⟨T18, X19, e20, st21⟩ := getF X15 hx hZ hown (host := "") (Or.inl (own_w hw 20 rfl)) Via.refl e16 (O1).2.2.2.1 (g := (mkL a m 24 #[.val (.ref a), .val .null] [(.ref a), (.long (f4 + f0))])) rfl rfl (hb hby down_admit_24)
  refine own_st st21 ?_
  show own_Out _ _ _ _ (T18.setTop (mkL a m 27 #[.val (.ref a), .val .null] [(.long f2), (.long (f4 + f0))]))
  refine own_st (G := T18.setTop (mkL a m 28 #[.val (.ref a), .val .null] [(.int (BdW.cmpL (f4 + f0) f2))])) (fun _ kk => XT.lcmp X19.here hx rfl (hb hby down_admit_27) rfl kk) ?_
  have hk22 : ¬ (f2 < (f4 + f0)) := h2
  refine own_st (G := T18.setTop (mkL a m 31 #[.val (.ref a), .val .null] [])) (fun _ kk => XS.ifNo X19.here hx rfl (hb hby down_admit_28) rfl (XT.ll_gt_f hk22) kk) ?_
  refine own_st (G := T18.setTop (mkL a m 32 #[.val (.ref a), .val .null] [(.ref a)])) (fun _ kk => XS.aloadN X19.here hx rfl (hb hby down_admit_31) rfl rfl kk) ?_
  refine own_st (G := T18.setTop (mkL a m 33 #[.val (.ref a), .val .null] [(.ref a), (.ref a)])) (fun _ kk => XS.dup X19.here hx rfl (hb hby down_admit_32) rfl rfl kk) ?_
  obtain ⟨T23, X24, e25, st26⟩ := getF X19 hx hZ hown (host := "") (Or.inl (own_w hw 30 rfl)) Via.refl e20 (O1).2.2.2.2.2 (g := (mkL a m 33 #[.val (.ref a), .val .null] [(.ref a), (.ref a)])) rfl rfl (hb hby down_admit_33)
  refine own_st st26 ?_
  show own_Out _ _ _ _ (T23.setTop (mkL a m 36 #[.val (.ref a), .val .null] [(.long f4), (.ref a)]))
  refine own_st (G := T23.setTop (mkL a m 37 #[.val (.ref a), .val .null] [(.ref a), (.long f4), (.ref a)])) (fun _ kk => XS.aloadN X24.here hx rfl (hb hby down_admit_36) rfl rfl kk) ?_
  obtain ⟨T27, X28, e29, st30⟩ := getF X24 hx hZ hown (host := "") (Or.inl (own_w hw 15 rfl)) Via.refl e25 (O1).2.1 (g := (mkL a m 37 #[.val (.ref a), .val .null] [(.ref a), (.long f4), (.ref a)])) rfl rfl (hb hby down_admit_37)
  refine own_st st30 ?_
  show own_Out _ _ _ _ (T27.setTop (mkL a m 40 #[.val (.ref a), .val .null] [(.long f0), (.long f4), (.ref a)]))
  refine own_st (G := T27.setTop (mkL a m 41 #[.val (.ref a), .val .null] [(.long (f4 + f0)), (.ref a)])) (fun _ kk => XS.ladd X28.here hx rfl (hb hby down_admit_40) rfl kk) ?_
  obtain ⟨T31, h32, X33, e34, W35, st36⟩ := putF X28 hx hZ hown (host := "") (Or.inl (own_w hw 30 rfl)) Via.refl e29 (O1).2.2.2.2.2 (O1).1 (Or.inl (own_w hw 31 rfl)) (own_w hw 7 rfl) (ty := .long) (by decide) rfl rfl (g := (mkL a m 41 #[.val (.ref a), .val .null] [(.long (f4 + f0)), (.ref a)])) rfl rfl (hb hby down_admit_41)
  refine own_st st36 ?_
  show own_Out _ _ _ _ (T31.setTop (mkL a m 44 #[.val (.ref a), .val .null] []))
  have O37 : own_C Z h32 a f0 f1 f2 f3 (f4 + f0) := own_C_held hw W35 O1
  have N38 := Fr.snoc X33 N0 ga
  obtain ⟨T39, h40, X41, e42, E43, A44, D45, U47, st46⟩ := newO X33 hx hZ hown (own_w hw 32 rfl) (own_w hw 33 rfl) (own_w hw 34 rfl) e34 (g := (mkL a m 44 #[.val (.ref a), .val .null] [])) rfl (hb hby down_admit_44) (by decide) (by decide)
  obtain ⟨a48, g49⟩ : ∃ z, z = h32.size := ⟨_, rfl⟩
  rw [← g49] at A44 D45 U47 st46
  refine own_st st46 ?_
  show own_Out _ _ _ _ (T39.setTop (mkL a m 47 #[.val (.ref a), .val .null] [(.ref a48)]))
  have O50 := own_C_ext E43 O37
  have gr : n0 ≤ a48 := by rw [g49]; exact Nat.le_trans ga (Nat.le_of_lt (O37).1.lt)
  have OA0 : own_A Z h40 a48 .null .null (0 : Int64) .null := ⟨A44, D45 (Or.inr (own_w hw 39 rfl)) (ty := .object "com/example/seqd/seqd/amqp/ConnectionBytes") (by decide), D45 (Or.inr (own_w hw 64 rfl)) (ty := .object "java/util/Map") (by decide), D45 (Or.inl (own_w hw 66 rfl)) (ty := .long) (by decide), D45 (Or.inr (own_w hw 68 rfl)) (ty := .object "java/lang/String") (by decide)⟩
  refine own_st (G := T39.setTop (mkL a m 48 #[.val (.ref a), .val .null] [(.ref a48), (.ref a48)])) (fun _ kk => XS.dup X41.here hx rfl (hb hby down_admit_47) rfl rfl kk) ?_
  refine own_st (G := T39.setTop (mkL a m 49 #[.val (.ref a), .val .null] [(.ref a), (.ref a48), (.ref a48)])) (fun _ kk => XS.aloadN X41.here hx rfl (hb hby down_admit_48) rfl rfl kk) ?_
  refine own_st (G := T39.setTop (mkL a m 50 #[.val (.ref a), .val .null] [(.ref a), (.ref a), (.ref a48), (.ref a48)])) (fun _ kk => XS.aloadN X41.here hx rfl (hb hby down_admit_49) rfl rfl kk) ?_
  obtain ⟨T51, X52, e53, st54⟩ := getF X41 hx hZ hown (host := "") (Or.inl (own_w hw 15 rfl)) Via.refl e42 (O50).2.1 (g := (mkL a m 50 #[.val (.ref a), .val .null] [(.ref a), (.ref a), (.ref a48), (.ref a48)])) rfl rfl (hb hby down_admit_50)
  refine own_st st54 ?_
  show own_Out _ _ _ _ (T51.setTop (mkL a m 53 #[.val (.ref a), .val .null] [(.long f0), (.ref a), (.ref a48), (.ref a48)]))
  refine own_st (G := T51.setTop (mkL a m 54 #[.val (.ref a), .val .null] [.null, (.long f0), (.ref a), (.ref a48), (.ref a48)])) (fun _ kk => XS.aconstNull X52.here hx rfl (hb hby down_admit_53) kk) ?_
  refine own_callIR X52 hx hZ (y := (⟨"com/example/seqd/seqd/amqp/ConnectionBytes$Account", "<init>", "(Lcom/example/seqd/seqd/amqp/ConnectionBytes;JLjava/lang/String;)V"⟩ : MethodName)) (b := a48) (as' := [(.ref a), (.long f0), .null]) rfl hown (own_w hw 35 rfl) (own_w hw 36 rfl) (own_w hw 37 rfl) (own_w hw 34 rfl) (by decide) (own_acc l Z a0 hw [] f0 a48 a h40 n0 gr OA0) 3 (by decide) (by decide) (by decide) (by decide) (g := (mkL a m 54 #[.val (.ref a), .val .null] [.null, (.long f0), (.ref a), (.ref a48), (.ref a48)])) rfl (by rw [hml]; rfl) (rest := [(.ref a48)]) (lenOf (by decide : parseMethodDescriptor "(Lcom/example/seqd/seqd/amqp/ConnectionBytes;JLjava/lang/String;)V" = some ⟨[.object "com/example/seqd/seqd/amqp/ConnectionBytes", .long, .object "java/lang/String"], none⟩) rfl) rfl (Nat.le_of_eq rfl) (hb hby down_admit_54) e53 ?_
  intro T58 L59 v61 X60 hQ
  obtain ⟨rfl, N55', x56, OA57⟩ := hQ
  show own_Out _ _ _ _ (T58.setTop (mkL a m 57 #[.val (.ref a), .val .null] [(.ref a48)]))
  have N55 := Fr.app N38 N55'
  refine own_st (G := T58.setTop (mkL a m 58 #[.val (.ref a), .val (.ref a48)] [])) (fun _ kk => XS.astoreN X60.here hx rfl (hb hby down_admit_57) rfl rfl (l' := #[.val (.ref a), .val (.ref a48)]) rfl kk) ?_
  refine own_st (G := T58.setTop (mkL a m 113 #[.val (.ref a), .val (.ref a48)] [])) (fun _ kk => XS.goto X60.here hx rfl (pc0 := 58) (pc' := 113) rfl (hb hby down_admit_58) (by decide) (by decide) kk) ?_
  refine own_st (G := T58.setTop (mkL a m 114 #[.val (.ref a), .val (.ref a48)] [(.ref a48)])) (fun _ kk => XS.aloadN X60.here hx rfl (hb hby down_admit_113) rfl rfl kk) ?_
  refine own_retAS X60 hx hcl hen hlk hret rfl rfl (hb hby down_admit_114) (by decide) (by decide) ?_
  exact fun h' M1 => ⟨_, _, rfl, N55, gr, own_A_mon M1 OA57⟩
theorem pn_own_law : plainFor x = true := by first | exact plainFor_of_name (by first | (simp [plainName, overriddenIn]; done) | decide +kernel) | decide +kernel
def Q_own_law (Z : State) (p0 : Int32)  (h0 : Heap) (n0 : Nat) (v : Option Value) (h : Heap) (L : List Loc) : Prop := v = some (.int 1) ∧ Fr n0 L
set_option maxRecDepth 65536 in
set_option maxHeartbeats 40000000 in
theorem own_law (l : Launch) (Z : State) (a0 : Array Value) (hw : ∀ d ∈ tables_1, d.before a0 Z = true) (ws : List Jvm.Cond) (p0 : Int32)  (h0 : Heap) (n0 : Nat) (Z0 : n0 ≤ h0.size) :
    MetFree l x (head1 (Jvm.Cond.code x code maxLocals ret :: ws) room_1) (fun aa U => aa = #[(.int p0)] ∧ Z.Warmed39 U.vm ∧ U.heap = h0) (fun _ _ _ _ _ => True) (fun _ U o U' => ∃ v L, o = .returned v ∧ Q_own_law Z p0 h0 n0 v U'.heap L ∧ FrameEnd U o U' L room_1.cells room_1.slots) := by
  refine own_body (x := x) (maxL := maxLocals) (as' := #[(.int p0)]) (Q := Q_own_law Z p0 h0 n0) pn_own_law #[.val (.int p0), .unset, .unset, .unset, .unset, .unset, .unset, .unset] (fun m => by first | (simp [entryFrame, mkF, argsToLocals, Value.category, maxLocals]; done) | rfl) ?_
  intro p e s m below meth c T0 X0 hx hby hml hret hlk hown hnm hZ e0
  replace hml : c.maxLocals = 8 := hml
  replace hown : s.vm.findClass "com/example/seqd/seqd/amqp/ConnectionBytesConnectionPinLaw" = some m.cls := hown
  have N0 := Fr.nil n0
  refine own_st (G := T0.setTop (mkF m 1 #[.val (.int p0), .unset, .unset, .unset, .unset, .unset, .unset, .unset] [(.int p0)])) (fun _ kk => XS.iloadN X0.here hx rfl (hb hby at_0) rfl kk) ?_
  refine own_st (G := T0.setTop (mkF m 2 #[.val (.int p0), .unset, .unset, .unset, .unset, .unset, .unset, .unset] [(.int (1 : Int32)), (.int p0)])) (fun _ kk => XT.iconstV X0.here hx rfl (1 : Int32) (hb hby at_1) (by decide) kk) ?_
  refine own_st (G := T0.setTop (mkF m 3 #[.val (.int p0), .unset, .unset, .unset, .unset, .unset, .unset, .unset] [(.int (p0 &&& (1 : Int32)))])) (fun _ kk => XS.iand X0.here hx rfl (hb hby at_2) rfl kk) ?_
  by_cases hc1 : (p0 &&& (1 : Int32)) = (0 : Int32)
  · skip
    refine own_st (G := T0.setTop (mkF m 10 #[.val (.int p0), .unset, .unset, .unset, .unset, .unset, .unset, .unset] [])) (fun _ kk => XS.ifYes X0.here hx rfl (pc0 := 3) (pc' := 10) rfl (hb hby at_3) rfl (XT.i0_eq_t hc1) (by decide) (by decide) kk) ?_
    refine own_st (G := T0.setTop (mkF m 11 #[.val (.int p0), .unset, .unset, .unset, .unset, .unset, .unset, .unset] [(.int (0 : Int32))])) (fun _ kk => XT.iconstV X0.here hx rfl (0 : Int32) (hb hby at_10) (by decide) kk) ?_
    refine own_st (G := T0.setTop (mkF m 12 #[.val (.int p0), .val (.int (0 : Int32)), .unset, .unset, .unset, .unset, .unset, .unset] [])) (fun _ kk => XS.istoreN X0.here hx rfl (hb hby at_11) rfl (l' := #[.val (.int p0), .val (.int (0 : Int32)), .unset, .unset, .unset, .unset, .unset, .unset]) rfl kk) ?_
    refine own_st (G := T0.setTop (mkF m 13 #[.val (.int p0), .val (.int (0 : Int32)), .unset, .unset, .unset, .unset, .unset, .unset] [(.int (0 : Int32))])) (fun _ kk => XS.iloadN X0.here hx rfl (hb hby at_12) rfl kk) ?_
    refine own_callS X0 hx hZ (y := (⟨"com/example/seqd/seqd/amqp/ConnectionBytes", "connection", "(Z)J"⟩ : MethodName)) (as' := [(.int (0 : Int32))]) hown (own_w hw 0 rfl) (own_w hw 1 rfl) (own_w hw 2 rfl) (own_w hw 3 rfl) (by decide) (own_rco l Z a0 hw [] (0 : Int32) h0 n0) 0 (by decide) (by decide) (by decide) (by decide) (rest := []) (by rw [hml]; rfl) (lenOf (by decide : parseMethodDescriptor "(Z)J" = some ⟨[.boolean], some (.long)⟩) rfl) rfl (Nat.le_of_eq rfl) (hb hby at_13) e0 ?_
    intro T4 L5 v7 X6 hQ
    obtain ⟨rfl, rfl, eq2⟩ := hQ
    show own_Out _ _ _ _ (T4.setTop (mkF m 16 #[.val (.int p0), .val (.int (0 : Int32)), .unset, .unset, .unset, .unset, .unset, .unset] [(.long (own_conn (0 : Int32)))]))
    have N3 := Fr.app N0 (Fr.nil n0)
    rw [show own_conn (0 : Int32) = (327680 : Int64) from by decide +kernel]
    refine own_st (G := T4.setTop (mkF m 17 #[.val (.int p0), .val (.int (0 : Int32)), .val (.long (327680 : Int64)), .second, .unset, .unset, .unset, .unset] [])) (fun _ kk => XS.lstoreN X6.here hx rfl (hb hby at_16) rfl (l' := #[.val (.int p0), .val (.int (0 : Int32)), .val (.long (327680 : Int64)), .second, .unset, .unset, .unset, .unset]) rfl kk) ?_
    refine own_st (G := T4.setTop (mkF m 18 #[.val (.int p0), .val (.int (0 : Int32)), .val (.long (327680 : Int64)), .second, .unset, .unset, .unset, .unset] [(.int (0 : Int32))])) (fun _ kk => XS.iloadN X6.here hx rfl (hb hby at_17) rfl kk) ?_
    refine own_st (G := T4.setTop (mkF m 27 #[.val (.int p0), .val (.int (0 : Int32)), .val (.long (327680 : Int64)), .second, .unset, .unset, .unset, .unset] [])) (fun _ kk => XS.ifYes X6.here hx rfl (pc0 := 18) (pc' := 27) rfl (hb hby at_18) rfl (XT.i0_eq_t (by decide : (0 : Int32) = (0 : Int32))) (by decide) (by decide) kk) ?_
    refine own_st (G := T4.setTop (mkF m 30 #[.val (.int p0), .val (.int (0 : Int32)), .val (.long (327680 : Int64)), .second, .unset, .unset, .unset, .unset] [(.long (327680 : Int64))])) (fun _ kk => X6.ldc2Long hx hown (mvT hZ (own_w hw 5 rfl)) (g := (mkF m 27 #[.val (.int p0), .val (.int (0 : Int32)), .val (.long (327680 : Int64)), .second, .unset, .unset, .unset, .unset] [])) rfl (hb hby at_27) _ kk) ?_
    refine own_st (G := T4.setTop (mkF m 32 #[.val (.int p0), .val (.int (0 : Int32)), .val (.long (327680 : Int64)), .second, .val (.long (327680 : Int64)), .second, .unset, .unset] [])) (fun _ kk => XS.lstore X6.here hx rfl (hb hby at_30) rfl (l' := #[.val (.int p0), .val (.int (0 : Int32)), .val (.long (327680 : Int64)), .second, .val (.long (327680 : Int64)), .second, .unset, .unset]) rfl kk) ?_
    refine own_st (G := T4.setTop (mkF m 33 #[.val (.int p0), .val (.int (0 : Int32)), .val (.long (327680 : Int64)), .second, .val (.long (327680 : Int64)), .second, .unset, .unset] [(.long (327680 : Int64))])) (fun _ kk => XS.lloadN X6.here hx rfl (hb hby at_32) rfl kk) ?_
    refine own_st (G := T4.setTop (mkF m 35 #[.val (.int p0), .val (.int (0 : Int32)), .val (.long (327680 : Int64)), .second, .val (.long (327680 : Int64)), .second, .unset, .unset] [(.long (327680 : Int64)), (.long (327680 : Int64))])) (fun _ kk => XS.lload X6.here hx rfl (hb hby at_33) rfl kk) ?_
    refine own_st (G := T4.setTop (mkF m 36 #[.val (.int p0), .val (.int (0 : Int32)), .val (.long (327680 : Int64)), .second, .val (.long (327680 : Int64)), .second, .unset, .unset] [(.int (BdW.cmpL (327680 : Int64) (327680 : Int64)))])) (fun _ kk => XT.lcmp X6.here hx rfl (hb hby at_35) rfl kk) ?_
    refine own_st (G := T4.setTop (mkF m 41 #[.val (.int p0), .val (.int (0 : Int32)), .val (.long (327680 : Int64)), .second, .val (.long (327680 : Int64)), .second, .unset, .unset] [])) (fun _ kk => XS.ifYes X6.here hx rfl (pc0 := 36) (pc' := 41) rfl (hb hby at_36) rfl (XT.ll_eq_t (by decide : (327680 : Int64) = (327680 : Int64))) (by decide) (by decide) kk) ?_
    obtain ⟨T8, h9, X10, e11, E12, A13, D14, U16, st15⟩ := newO X6 hx hZ hown (own_w hw 6 rfl) (own_w hw 7 rfl) (own_w hw 2 rfl) eq2 (g := (mkF m 41 #[.val (.int p0), .val (.int (0 : Int32)), .val (.long (327680 : Int64)), .second, .val (.long (327680 : Int64)), .second, .unset, .unset] [])) rfl (hb hby at_41) (by decide) (by decide)
    obtain ⟨a17, g18⟩ : ∃ z, z = h0.size := ⟨_, rfl⟩
    rw [← g18] at A13 D14 U16 st15
    refine own_st st15 ?_
    show own_Out _ _ _ _ (T8.setTop (mkF m 44 #[.val (.int p0), .val (.int (0 : Int32)), .val (.long (327680 : Int64)), .second, .val (.long (327680 : Int64)), .second, .unset, .unset] [(.ref a17)]))
    have O19 : own_C Z h9 a17 (0 : Int64) (0 : Int64) (0 : Int64) (0 : Int64) (0 : Int64) := ⟨A13, D14 (Or.inr (own_w hw 16 rfl)) (ty := .long) (by decide), D14 (Or.inr (own_w hw 19 rfl)) (ty := .long) (by decide), D14 (Or.inr (own_w hw 21 rfl)) (ty := .long) (by decide), D14 (Or.inr (own_w hw 24 rfl)) (ty := .long) (by decide), D14 (Or.inl (own_w hw 31 rfl)) (ty := .long) (by decide)⟩
    have ga20 : n0 ≤ a17 := Nat.le_trans Z0 (Nat.le_of_eq g18.symm)
    refine own_st (G := T8.setTop (mkF m 45 #[.val (.int p0), .val (.int (0 : Int32)), .val (.long (327680 : Int64)), .second, .val (.long (327680 : Int64)), .second, .unset, .unset] [(.ref a17), (.ref a17)])) (fun _ kk => XS.dup X10.here hx rfl (hb hby at_44) rfl rfl kk) ?_
    refine own_st (G := T8.setTop (mkF m 46 #[.val (.int p0), .val (.int (0 : Int32)), .val (.long (327680 : Int64)), .second, .val (.long (327680 : Int64)), .second, .unset, .unset] [(.long (327680 : Int64)), (.ref a17), (.ref a17)])) (fun _ kk => XS.lloadN X10.here hx rfl (hb hby at_45) rfl kk) ?_
    refine own_st (G := T8.setTop (mkF m 47 #[.val (.int p0), .val (.int (0 : Int32)), .val (.long (327680 : Int64)), .second, .val (.long (327680 : Int64)), .second, .unset, .unset] [(.int (0 : Int32)), (.long (327680 : Int64)), (.ref a17), (.ref a17)])) (fun _ kk => XS.iloadN X10.here hx rfl (hb hby at_46) rfl kk) ?_
    refine own_callI X10 hx hZ (y := (⟨"com/example/seqd/seqd/amqp/ConnectionBytes", "<init>", "(JZ)V"⟩ : MethodName)) (b := a17) (as' := [(.long (327680 : Int64)), (.int (0 : Int32))]) rfl hown (own_w hw 8 rfl) (own_w hw 9 rfl) (own_w hw 10 rfl) (own_w hw 2 rfl) (by decide) (own_ini0 l Z a0 hw [] a17 (0 : Int64) (0 : Int64) (0 : Int64) (0 : Int64) (0 : Int64) h9 n0 ga20 O19 U16) 1 (by decide) (by decide) (by decide) (by decide) (rest := [(.ref a17)]) (by rw [hml]; rfl) (lenOf (by decide : parseMethodDescriptor "(JZ)V" = some ⟨[.long, .boolean], none⟩) rfl) rfl (Nat.le_of_eq rfl) (hb hby at_47) e11 ?_
    intro T24 L25 v27 X26 hQ
    obtain ⟨rfl, N21', O22, U23⟩ := hQ
    show own_Out _ _ _ _ (T24.setTop (mkF m 50 #[.val (.int p0), .val (.int (0 : Int32)), .val (.long (327680 : Int64)), .second, .val (.long (327680 : Int64)), .second, .unset, .unset] [(.ref a17)]))
    have N21 := Fr.app N3 N21'
    refine own_st (G := T24.setTop (mkF m 52 #[.val (.int p0), .val (.int (0 : Int32)), .val (.long (327680 : Int64)), .second, .val (.long (327680 : Int64)), .second, .val (.ref a17), .unset] [])) (fun _ kk => XS.astore X26.here hx rfl (hb hby at_50) rfl rfl (l' := #[.val (.int p0), .val (.int (0 : Int32)), .val (.long (327680 : Int64)), .second, .val (.long (327680 : Int64)), .second, .val (.ref a17), .unset]) rfl kk) ?_
    refine own_st (G := T24.setTop (mkF m 54 #[.val (.int p0), .val (.int (0 : Int32)), .val (.long (327680 : Int64)), .second, .val (.long (327680 : Int64)), .second, .val (.ref a17), .unset] [(.ref a17)])) (fun _ kk => XS.aload X26.here hx rfl (hb hby at_52) rfl rfl kk) ?_
    refine own_callVS X26 hx hZ (y := (⟨"com/example/seqd/seqd/amqp/ConnectionBytes", "admit", "()Lcom/example/seqd/seqd/amqp/ConnectionBytes$Account;"⟩ : MethodName)) (b := a17) (as' := []) hown (own_w hw 25 rfl) (own_w hw 26 rfl) (own_w hw 28 rfl) (own_w hw 27 rfl) (own_w hw 29 rfl) (own_w hw 2 rfl) (by decide) (own_admit l Z a0 hw [] a17 (327680 : Int64) (65536 : Int64) (327680 : Int64) (245760 : Int64) (0 : Int64) T24.heap n0 ga20 O22 (by decide +kernel) (by decide +kernel)) (O22).1 U23 0 (by decide) (by decide) (by decide) (by decide) (rest := []) (by rw [hml]; rfl) (lenOf (by decide : parseMethodDescriptor "()Lcom/example/seqd/seqd/amqp/ConnectionBytes$Account;" = some ⟨[], some (.object "com/example/seqd/seqd/amqp/ConnectionBytes$Account")⟩) rfl) rfl (Nat.le_of_eq rfl) (hb hby at_54) rfl ?_
    intro T32 L33 v35 X34 hQ
    obtain ⟨r29, x30, rfl, N28', hgr, OA31⟩ := hQ
    show own_Out _ _ _ _ (T32.setTop (mkF m 57 #[.val (.int p0), .val (.int (0 : Int32)), .val (.long (327680 : Int64)), .second, .val (.long (327680 : Int64)), .second, .val (.ref a17), .unset] [(.ref r29)]))
    have N28 := Fr.app N21 N28'
    refine own_st (G := T32.setTop (mkF m 59 #[.val (.int p0), .val (.int (0 : Int32)), .val (.long (327680 : Int64)), .second, .val (.long (327680 : Int64)), .second, .val (.ref a17), .val (.ref r29)] [])) (fun _ kk => XS.astore X34.here hx rfl (hb hby at_57) rfl rfl (l' := #[.val (.int p0), .val (.int (0 : Int32)), .val (.long (327680 : Int64)), .second, .val (.long (327680 : Int64)), .second, .val (.ref a17), .val (.ref r29)]) rfl kk) ?_
    refine own_st (G := T32.setTop (mkF m 61 #[.val (.int p0), .val (.int (0 : Int32)), .val (.long (327680 : Int64)), .second, .val (.long (327680 : Int64)), .second, .val (.ref a17), .val (.ref r29)] [(.ref r29)])) (fun _ kk => XS.aload X34.here hx rfl (hb hby at_59) rfl rfl kk) ?_
    refine own_st (G := T32.setTop (mkF m 64 #[.val (.int p0), .val (.int (0 : Int32)), .val (.long (327680 : Int64)), .second, .val (.long (327680 : Int64)), .second, .val (.ref a17), .val (.ref r29)] [])) (fun _ kk => XS.ifnullNo X34.here hx rfl (hb hby at_61) rfl kk) ?_
    refine own_st (G := T32.setTop (mkF m 66 #[.val (.int p0), .val (.int (0 : Int32)), .val (.long (327680 : Int64)), .second, .val (.long (327680 : Int64)), .second, .val (.ref a17), .val (.ref r29)] [(.ref r29)])) (fun _ kk => XS.aload X34.here hx rfl (hb hby at_64) rfl rfl kk) ?_
    refine own_callV X34 hx hZ (y := (⟨"com/example/seqd/seqd/amqp/ConnectionBytes$Account", "turnedAway", "()Ljava/lang/String;"⟩ : MethodName)) (b := r29) (as' := []) hown (own_w hw 69 rfl) (own_w hw 70 rfl) (own_w hw 72 rfl) (own_w hw 71 rfl) (own_w hw 73 rfl) (own_w hw 34 rfl) (by decide) (own_ta l Z a0 hw [] r29 a17 x30 (327680 : Int64) T32.heap n0 hgr OA31) (OA31).1 0 (by decide) (by decide) (by decide) (by decide) (rest := []) (by rw [hml]; rfl) (lenOf (by decide : parseMethodDescriptor "()Ljava/lang/String;" = some ⟨[], some (.object "java/lang/String")⟩) rfl) rfl (Nat.le_of_eq rfl) (hb hby at_66) rfl ?_
    intro T38 L39 v41 X40 hQ
    obtain ⟨rfl, N36', OA37⟩ := hQ
    show own_Out _ _ _ _ (T38.setTop (mkF m 69 #[.val (.int p0), .val (.int (0 : Int32)), .val (.long (327680 : Int64)), .second, .val (.long (327680 : Int64)), .second, .val (.ref a17), .val (.ref r29)] [.null]))
    have N36 := Fr.app N28 N36'
    refine own_st (G := T38.setTop (mkF m 72 #[.val (.int p0), .val (.int (0 : Int32)), .val (.long (327680 : Int64)), .second, .val (.long (327680 : Int64)), .second, .val (.ref a17), .val (.ref r29)] [])) (fun _ kk => XS.ifnonnullNo X40.here hx rfl (hb hby at_69) rfl kk) ?_
    refine own_st (G := T38.setTop (mkF m 73 #[.val (.int p0), .val (.int (0 : Int32)), .val (.long (327680 : Int64)), .second, .val (.long (327680 : Int64)), .second, .val (.ref a17), .val (.ref r29)] [(.int (1 : Int32))])) (fun _ kk => XT.iconstV X40.here hx rfl (1 : Int32) (hb hby at_72) (by decide) kk) ?_
    refine own_st (G := T38.setTop (mkF m 77 #[.val (.int p0), .val (.int (0 : Int32)), .val (.long (327680 : Int64)), .second, .val (.long (327680 : Int64)), .second, .val (.ref a17), .val (.ref r29)] [(.int (1 : Int32))])) (fun _ kk => XS.goto X40.here hx rfl (pc0 := 73) (pc' := 77) rfl (hb hby at_73) (by decide) (by decide) kk) ?_
    refine own_retB X40 hx hret (by simp) hlk (hb hby at_77) (by decide) (by decide) ?_
    exact ⟨rfl, N36⟩
  · skip
    refine own_st (G := T0.setTop (mkF m 6 #[.val (.int p0), .unset, .unset, .unset, .unset, .unset, .unset, .unset] [])) (fun _ kk => XS.ifNo X0.here hx rfl (hb hby at_3) rfl (XT.i0_eq_f hc1) kk) ?_
    refine own_st (G := T0.setTop (mkF m 7 #[.val (.int p0), .unset, .unset, .unset, .unset, .unset, .unset, .unset] [(.int (1 : Int32))])) (fun _ kk => XT.iconstV X0.here hx rfl (1 : Int32) (hb hby at_6) (by decide) kk) ?_
    refine own_st (G := T0.setTop (mkF m 11 #[.val (.int p0), .unset, .unset, .unset, .unset, .unset, .unset, .unset] [(.int (1 : Int32))])) (fun _ kk => XS.goto X0.here hx rfl (pc0 := 7) (pc' := 11) rfl (hb hby at_7) (by decide) (by decide) kk) ?_
    refine own_st (G := T0.setTop (mkF m 12 #[.val (.int p0), .val (.int (1 : Int32)), .unset, .unset, .unset, .unset, .unset, .unset] [])) (fun _ kk => XS.istoreN X0.here hx rfl (hb hby at_11) rfl (l' := #[.val (.int p0), .val (.int (1 : Int32)), .unset, .unset, .unset, .unset, .unset, .unset]) rfl kk) ?_
    refine own_st (G := T0.setTop (mkF m 13 #[.val (.int p0), .val (.int (1 : Int32)), .unset, .unset, .unset, .unset, .unset, .unset] [(.int (1 : Int32))])) (fun _ kk => XS.iloadN X0.here hx rfl (hb hby at_12) rfl kk) ?_
    refine own_callS X0 hx hZ (y := (⟨"com/example/seqd/seqd/amqp/ConnectionBytes", "connection", "(Z)J"⟩ : MethodName)) (as' := [(.int (1 : Int32))]) hown (own_w hw 0 rfl) (own_w hw 1 rfl) (own_w hw 2 rfl) (own_w hw 3 rfl) (by decide) (own_rco l Z a0 hw [] (1 : Int32) h0 n0) 0 (by decide) (by decide) (by decide) (by decide) (rest := []) (by rw [hml]; rfl) (lenOf (by decide : parseMethodDescriptor "(Z)J" = some ⟨[.boolean], some (.long)⟩) rfl) rfl (Nat.le_of_eq rfl) (hb hby at_13) e0 ?_
    intro T44 L45 v47 X46 hQ
    obtain ⟨rfl, rfl, eq42⟩ := hQ
    show own_Out _ _ _ _ (T44.setTop (mkF m 16 #[.val (.int p0), .val (.int (1 : Int32)), .unset, .unset, .unset, .unset, .unset, .unset] [(.long (own_conn (1 : Int32)))]))
    have N43 := Fr.app N0 (Fr.nil n0)
    rw [show own_conn (1 : Int32) = (393216 : Int64) from by decide +kernel]
    refine own_st (G := T44.setTop (mkF m 17 #[.val (.int p0), .val (.int (1 : Int32)), .val (.long (393216 : Int64)), .second, .unset, .unset, .unset, .unset] [])) (fun _ kk => XS.lstoreN X46.here hx rfl (hb hby at_16) rfl (l' := #[.val (.int p0), .val (.int (1 : Int32)), .val (.long (393216 : Int64)), .second, .unset, .unset, .unset, .unset]) rfl kk) ?_
    refine own_st (G := T44.setTop (mkF m 18 #[.val (.int p0), .val (.int (1 : Int32)), .val (.long (393216 : Int64)), .second, .unset, .unset, .unset, .unset] [(.int (1 : Int32))])) (fun _ kk => XS.iloadN X46.here hx rfl (hb hby at_17) rfl kk) ?_
    refine own_st (G := T44.setTop (mkF m 21 #[.val (.int p0), .val (.int (1 : Int32)), .val (.long (393216 : Int64)), .second, .unset, .unset, .unset, .unset] [])) (fun _ kk => XS.ifNo X46.here hx rfl (hb hby at_18) rfl (XT.i0_eq_f (by decide : ¬ (1 : Int32) = (0 : Int32))) kk) ?_
    refine own_st (G := T44.setTop (mkF m 24 #[.val (.int p0), .val (.int (1 : Int32)), .val (.long (393216 : Int64)), .second, .unset, .unset, .unset, .unset] [(.long (393216 : Int64))])) (fun _ kk => X46.ldc2Long hx hown (mvT hZ (own_w hw 74 rfl)) (g := (mkF m 21 #[.val (.int p0), .val (.int (1 : Int32)), .val (.long (393216 : Int64)), .second, .unset, .unset, .unset, .unset] [])) rfl (hb hby at_21) _ kk) ?_
    refine own_st (G := T44.setTop (mkF m 30 #[.val (.int p0), .val (.int (1 : Int32)), .val (.long (393216 : Int64)), .second, .unset, .unset, .unset, .unset] [(.long (393216 : Int64))])) (fun _ kk => XS.goto X46.here hx rfl (pc0 := 24) (pc' := 30) rfl (hb hby at_24) (by decide) (by decide) kk) ?_
    refine own_st (G := T44.setTop (mkF m 32 #[.val (.int p0), .val (.int (1 : Int32)), .val (.long (393216 : Int64)), .second, .val (.long (393216 : Int64)), .second, .unset, .unset] [])) (fun _ kk => XS.lstore X46.here hx rfl (hb hby at_30) rfl (l' := #[.val (.int p0), .val (.int (1 : Int32)), .val (.long (393216 : Int64)), .second, .val (.long (393216 : Int64)), .second, .unset, .unset]) rfl kk) ?_
    refine own_st (G := T44.setTop (mkF m 33 #[.val (.int p0), .val (.int (1 : Int32)), .val (.long (393216 : Int64)), .second, .val (.long (393216 : Int64)), .second, .unset, .unset] [(.long (393216 : Int64))])) (fun _ kk => XS.lloadN X46.here hx rfl (hb hby at_32) rfl kk) ?_
    refine own_st (G := T44.setTop (mkF m 35 #[.val (.int p0), .val (.int (1 : Int32)), .val (.long (393216 : Int64)), .second, .val (.long (393216 : Int64)), .second, .unset, .unset] [(.long (393216 : Int64)), (.long (393216 : Int64))])) (fun _ kk => XS.lload X46.here hx rfl (hb hby at_33) rfl kk) ?_
    refine own_st (G := T44.setTop (mkF m 36 #[.val (.int p0), .val (.int (1 : Int32)), .val (.long (393216 : Int64)), .second, .val (.long (393216 : Int64)), .second, .unset, .unset] [(.int (BdW.cmpL (393216 : Int64) (393216 : Int64)))])) (fun _ kk => XT.lcmp X46.here hx rfl (hb hby at_35) rfl kk) ?_
    refine own_st (G := T44.setTop (mkF m 41 #[.val (.int p0), .val (.int (1 : Int32)), .val (.long (393216 : Int64)), .second, .val (.long (393216 : Int64)), .second, .unset, .unset] [])) (fun _ kk => XS.ifYes X46.here hx rfl (pc0 := 36) (pc' := 41) rfl (hb hby at_36) rfl (XT.ll_eq_t (by decide : (393216 : Int64) = (393216 : Int64))) (by decide) (by decide) kk) ?_
    obtain ⟨T48, h49, X50, e51, E52, A53, D54, U56, st55⟩ := newO X46 hx hZ hown (own_w hw 6 rfl) (own_w hw 7 rfl) (own_w hw 2 rfl) eq42 (g := (mkF m 41 #[.val (.int p0), .val (.int (1 : Int32)), .val (.long (393216 : Int64)), .second, .val (.long (393216 : Int64)), .second, .unset, .unset] [])) rfl (hb hby at_41) (by decide) (by decide)
    obtain ⟨a57, g58⟩ : ∃ z, z = h0.size := ⟨_, rfl⟩
    rw [← g58] at A53 D54 U56 st55
    refine own_st st55 ?_
    show own_Out _ _ _ _ (T48.setTop (mkF m 44 #[.val (.int p0), .val (.int (1 : Int32)), .val (.long (393216 : Int64)), .second, .val (.long (393216 : Int64)), .second, .unset, .unset] [(.ref a57)]))
    have O59 : own_C Z h49 a57 (0 : Int64) (0 : Int64) (0 : Int64) (0 : Int64) (0 : Int64) := ⟨A53, D54 (Or.inr (own_w hw 16 rfl)) (ty := .long) (by decide), D54 (Or.inr (own_w hw 19 rfl)) (ty := .long) (by decide), D54 (Or.inr (own_w hw 21 rfl)) (ty := .long) (by decide), D54 (Or.inr (own_w hw 24 rfl)) (ty := .long) (by decide), D54 (Or.inl (own_w hw 31 rfl)) (ty := .long) (by decide)⟩
    have ga60 : n0 ≤ a57 := Nat.le_trans Z0 (Nat.le_of_eq g58.symm)
    refine own_st (G := T48.setTop (mkF m 45 #[.val (.int p0), .val (.int (1 : Int32)), .val (.long (393216 : Int64)), .second, .val (.long (393216 : Int64)), .second, .unset, .unset] [(.ref a57), (.ref a57)])) (fun _ kk => XS.dup X50.here hx rfl (hb hby at_44) rfl rfl kk) ?_
    refine own_st (G := T48.setTop (mkF m 46 #[.val (.int p0), .val (.int (1 : Int32)), .val (.long (393216 : Int64)), .second, .val (.long (393216 : Int64)), .second, .unset, .unset] [(.long (393216 : Int64)), (.ref a57), (.ref a57)])) (fun _ kk => XS.lloadN X50.here hx rfl (hb hby at_45) rfl kk) ?_
    refine own_st (G := T48.setTop (mkF m 47 #[.val (.int p0), .val (.int (1 : Int32)), .val (.long (393216 : Int64)), .second, .val (.long (393216 : Int64)), .second, .unset, .unset] [(.int (1 : Int32)), (.long (393216 : Int64)), (.ref a57), (.ref a57)])) (fun _ kk => XS.iloadN X50.here hx rfl (hb hby at_46) rfl kk) ?_
    refine own_callI X50 hx hZ (y := (⟨"com/example/seqd/seqd/amqp/ConnectionBytes", "<init>", "(JZ)V"⟩ : MethodName)) (b := a57) (as' := [(.long (393216 : Int64)), (.int (1 : Int32))]) rfl hown (own_w hw 8 rfl) (own_w hw 9 rfl) (own_w hw 10 rfl) (own_w hw 2 rfl) (by decide) (own_ini1 l Z a0 hw [] a57 (0 : Int64) (0 : Int64) (0 : Int64) (0 : Int64) (0 : Int64) h49 n0 ga60 O59 U56) 1 (by decide) (by decide) (by decide) (by decide) (rest := [(.ref a57)]) (by rw [hml]; rfl) (lenOf (by decide : parseMethodDescriptor "(JZ)V" = some ⟨[.long, .boolean], none⟩) rfl) rfl (Nat.le_of_eq rfl) (hb hby at_47) e51 ?_
    intro T64 L65 v67 X66 hQ
    obtain ⟨rfl, N61', O62, U63⟩ := hQ
    show own_Out _ _ _ _ (T64.setTop (mkF m 50 #[.val (.int p0), .val (.int (1 : Int32)), .val (.long (393216 : Int64)), .second, .val (.long (393216 : Int64)), .second, .unset, .unset] [(.ref a57)]))
    have N61 := Fr.app N43 N61'
    refine own_st (G := T64.setTop (mkF m 52 #[.val (.int p0), .val (.int (1 : Int32)), .val (.long (393216 : Int64)), .second, .val (.long (393216 : Int64)), .second, .val (.ref a57), .unset] [])) (fun _ kk => XS.astore X66.here hx rfl (hb hby at_50) rfl rfl (l' := #[.val (.int p0), .val (.int (1 : Int32)), .val (.long (393216 : Int64)), .second, .val (.long (393216 : Int64)), .second, .val (.ref a57), .unset]) rfl kk) ?_
    refine own_st (G := T64.setTop (mkF m 54 #[.val (.int p0), .val (.int (1 : Int32)), .val (.long (393216 : Int64)), .second, .val (.long (393216 : Int64)), .second, .val (.ref a57), .unset] [(.ref a57)])) (fun _ kk => XS.aload X66.here hx rfl (hb hby at_52) rfl rfl kk) ?_
    refine own_callVS X66 hx hZ (y := (⟨"com/example/seqd/seqd/amqp/ConnectionBytes", "admit", "()Lcom/example/seqd/seqd/amqp/ConnectionBytes$Account;"⟩ : MethodName)) (b := a57) (as' := []) hown (own_w hw 25 rfl) (own_w hw 26 rfl) (own_w hw 28 rfl) (own_w hw 27 rfl) (own_w hw 29 rfl) (own_w hw 2 rfl) (by decide) (own_admit l Z a0 hw [] a57 (393216 : Int64) (131072 : Int64) (393216 : Int64) (294912 : Int64) (0 : Int64) T64.heap n0 ga60 O62 (by decide +kernel) (by decide +kernel)) (O62).1 U63 0 (by decide) (by decide) (by decide) (by decide) (rest := []) (by rw [hml]; rfl) (lenOf (by decide : parseMethodDescriptor "()Lcom/example/seqd/seqd/amqp/ConnectionBytes$Account;" = some ⟨[], some (.object "com/example/seqd/seqd/amqp/ConnectionBytes$Account")⟩) rfl) rfl (Nat.le_of_eq rfl) (hb hby at_54) rfl ?_
    intro T72 L73 v75 X74 hQ
    obtain ⟨r69, x70, rfl, N68', hgr, OA71⟩ := hQ
    show own_Out _ _ _ _ (T72.setTop (mkF m 57 #[.val (.int p0), .val (.int (1 : Int32)), .val (.long (393216 : Int64)), .second, .val (.long (393216 : Int64)), .second, .val (.ref a57), .unset] [(.ref r69)]))
    have N68 := Fr.app N61 N68'
    refine own_st (G := T72.setTop (mkF m 59 #[.val (.int p0), .val (.int (1 : Int32)), .val (.long (393216 : Int64)), .second, .val (.long (393216 : Int64)), .second, .val (.ref a57), .val (.ref r69)] [])) (fun _ kk => XS.astore X74.here hx rfl (hb hby at_57) rfl rfl (l' := #[.val (.int p0), .val (.int (1 : Int32)), .val (.long (393216 : Int64)), .second, .val (.long (393216 : Int64)), .second, .val (.ref a57), .val (.ref r69)]) rfl kk) ?_
    refine own_st (G := T72.setTop (mkF m 61 #[.val (.int p0), .val (.int (1 : Int32)), .val (.long (393216 : Int64)), .second, .val (.long (393216 : Int64)), .second, .val (.ref a57), .val (.ref r69)] [(.ref r69)])) (fun _ kk => XS.aload X74.here hx rfl (hb hby at_59) rfl rfl kk) ?_
    refine own_st (G := T72.setTop (mkF m 64 #[.val (.int p0), .val (.int (1 : Int32)), .val (.long (393216 : Int64)), .second, .val (.long (393216 : Int64)), .second, .val (.ref a57), .val (.ref r69)] [])) (fun _ kk => XS.ifnullNo X74.here hx rfl (hb hby at_61) rfl kk) ?_
    refine own_st (G := T72.setTop (mkF m 66 #[.val (.int p0), .val (.int (1 : Int32)), .val (.long (393216 : Int64)), .second, .val (.long (393216 : Int64)), .second, .val (.ref a57), .val (.ref r69)] [(.ref r69)])) (fun _ kk => XS.aload X74.here hx rfl (hb hby at_64) rfl rfl kk) ?_
    refine own_callV X74 hx hZ (y := (⟨"com/example/seqd/seqd/amqp/ConnectionBytes$Account", "turnedAway", "()Ljava/lang/String;"⟩ : MethodName)) (b := r69) (as' := []) hown (own_w hw 69 rfl) (own_w hw 70 rfl) (own_w hw 72 rfl) (own_w hw 71 rfl) (own_w hw 73 rfl) (own_w hw 34 rfl) (by decide) (own_ta l Z a0 hw [] r69 a57 x70 (393216 : Int64) T72.heap n0 hgr OA71) (OA71).1 0 (by decide) (by decide) (by decide) (by decide) (rest := []) (by rw [hml]; rfl) (lenOf (by decide : parseMethodDescriptor "()Ljava/lang/String;" = some ⟨[], some (.object "java/lang/String")⟩) rfl) rfl (Nat.le_of_eq rfl) (hb hby at_66) rfl ?_
    intro T78 L79 v81 X80 hQ
    obtain ⟨rfl, N76', OA77⟩ := hQ
    show own_Out _ _ _ _ (T78.setTop (mkF m 69 #[.val (.int p0), .val (.int (1 : Int32)), .val (.long (393216 : Int64)), .second, .val (.long (393216 : Int64)), .second, .val (.ref a57), .val (.ref r69)] [.null]))
    have N76 := Fr.app N68 N76'
    refine own_st (G := T78.setTop (mkF m 72 #[.val (.int p0), .val (.int (1 : Int32)), .val (.long (393216 : Int64)), .second, .val (.long (393216 : Int64)), .second, .val (.ref a57), .val (.ref r69)] [])) (fun _ kk => XS.ifnonnullNo X80.here hx rfl (hb hby at_69) rfl kk) ?_
    refine own_st (G := T78.setTop (mkF m 73 #[.val (.int p0), .val (.int (1 : Int32)), .val (.long (393216 : Int64)), .second, .val (.long (393216 : Int64)), .second, .val (.ref a57), .val (.ref r69)] [(.int (1 : Int32))])) (fun _ kk => XT.iconstV X80.here hx rfl (1 : Int32) (hb hby at_72) (by decide) kk) ?_
    refine own_st (G := T78.setTop (mkF m 77 #[.val (.int p0), .val (.int (1 : Int32)), .val (.long (393216 : Int64)), .second, .val (.long (393216 : Int64)), .second, .val (.ref a57), .val (.ref r69)] [(.int (1 : Int32))])) (fun _ kk => XS.goto X80.here hx rfl (pc0 := 73) (pc' := 77) rfl (hb hby at_73) (by decide) (by decide) kk) ?_
    refine own_retB X80 hx hret (by simp) hlk (hb hby at_77) (by decide) (by decide) ?_
    exact ⟨rfl, N76⟩
set_option maxRecDepth 65536 in
set_option maxHeartbeats 40000000 in
theorem comes_1 {Post : Tables → Env → Array Value → State → Outcome → State → Prop} (hpost : ∀ tb e args s v u, (limb_1_1.after args s (.returned v) u = true ∧ limb_1_2.after args s (.returned v) u = true ∧ True) → FrameEnd s (.returned v) u (Jvm.fieldLocs frame_1_writes args s ++ Jvm.arrayLocs frame_1_arrays args s ++ Jvm.staticLocs frame_1_statics s) 16 256 → Post tb e args s (.returned v) u) :
    ArmFor flags0 classFile x code maxLocals ret World_1 tables_1 room_1 Calls_1 rest_1 Pre_1 Post := by
  intro l hfl _ _ p e ha hc hk s m args below hf hA hF happ hP
  obtain ⟨hcalls, hrest, hpre⟩ := hP
  obtain ⟨-, -, -, hnamed, -, -, -, hat⟩ := (Spec.applies_iff hf).mp happ
  obtain ⟨hg, hn⟩ := and_e (Cond.before_iff.mp (show (Jvm.Cond.and given_1 narrow_1).before args s = true from hpre))
  obtain ⟨hct, hk0⟩ := and_e hg
  have ha0 := hk0
  obtain ⟨w0, rfl⟩ : ∃ w0 : Value, args = #[w0] := by
    have hs : args.size = 1 := by simpa [Cond.value, given_1] using hct
    obtain ⟨L⟩ := args
    match L, hs with
    | [w0], _ => exact ⟨w0, rfl⟩
  have hw := fun d (hd : d ∈ tables_1) => atoms_spec (ws := Jvm.Cond.code x code maxLocals ret :: tables_1) hat d (List.mem_cons_of_mem _ hd)
  obtain ⟨i0, e0⟩ := is_v ha0
  obtain rfl : w0 = (.int i0) := Option.some.inj e0
  obtain ⟨n, o, h1, h2, h3, _, L, rfl, ⟨rfl, N⟩, hq⟩ := own_law l s _ hw tables_1 i0 s.heap s.heap.size (Nat.le_refl _) p e ha hc hk s m _ below hf ((Spec.applies_iff_loose hf).mp happ).1 ⟨rfl, State.Warmed39.refl s, rfl⟩ trivial
  refine ⟨n, _, h1, h2, h3, hpost _ _ _ _ _ _ ⟨Cond.after_iff.mpr rfl, Cond.after_iff.mpr (eq_i res_at (Term.int_eval (1)) rfl), trivial⟩ ⟨hq.1, hq.2.1, (hq.2.2.sift fun y hy => Or.inr (N y hy)).mono (by decide) (by decide)⟩⟩
theorem main_1_1 : Claimed_1_1 := comes_1 fun _ _ _ _ _ _ h hF => ⟨h.1, hF⟩
theorem main_1_2 : Claimed_1_2 := comes_1 fun _ _ _ _ _ _ h hF => ⟨h.2.1, hF⟩
end Jvm.Pilot.@@N@@
namespace Jvm.Pilot.@@N@@
open Jvm Jvm.ClassFile Sem Op Lib Jvm.Free Jvm.Stand Jvm.Pilot.@@N@@.Jvm.D
/-! MADE BY PROGRAM (witnessworld.py) out of the Statement's table words and the real class files: 14 classes; the members and pool entries that the words name. The judged class is class 1, her method 1. -/
namespace start1
open Jvm.ClassFile
def u (s : String) : CpInfo := .utf8 (stringToUtf16 s)
/-- a pool by its gaps: so many unusable entries, then the entry; so many at the end -/
def gap : Nat → List CpInfo → List CpInfo
  | 0, r => r
  | n + 1, r => .unusable :: gap n r
def poolList (es : List (Nat × CpInfo)) (last : Nat) : List CpInfo := es.foldr (fun e r => gap e.1 (e.2 :: r)) (gap last [])
def pool (es : List (Nat × CpInfo)) (last : Nat) : Array CpInfo := ⟨poolList es last⟩
def fileOf (pool : Array CpInfo) (this : Nat) (attrs : Array Attribute := #[]) (ms : Array MethodInfo := #[]) (fl : Nat := 33) (sup : Nat := 0) (ifs : Array Nat := #[]) (fds : Array FieldInfo := #[]) : ClassFile where
  minorVersion := 0
  majorVersion := 65
  constantPool := pool
  accessFlags := fl
  thisClass := this
  superClass := sup
  interfaces := ifs
  fields := fds
  methods := ms
  attributes := attrs
def plain (name : String) (sup : Option ClassId) : Class where
  name := name
  kind := .ordinary
  loader := none
  accessFlags := 33
  super := sup
  interfaces := #[]
  cf := none
  fields := #[]
  methods := #[]
  instanceTypes := #[]
  staticTypes := #[]
  resolved := #[]
  callSites := []
  init := .initialized
  statics := none
  mirror := none

def pool0 : Array CpInfo := pool [(5, u "<init>"), (0, u "()V"), (1, .class_ 10), (1, u "java/lang/Object")] 113

def k0c0 : Code := { maxStack := 0, maxLocals := 1, code := object_method_1_code, exceptionTable := #[], attributes := #[] }
def k0m0 : Method := { name := "<init>", desc := "()V", sig := { parameters := [], returnType := none }, accessFlags := 1, code := some k0c0 }
/-- java/lang/Object -/
def k0 : Class := { plain "java/lang/Object" none with
  accessFlags := 33
  interfaces := #[]
  cf := some (fileOf pool0 8 #[] #[{ accessFlags := 1, nameIndex := 5, descriptorIndex := 6, attributes := #[] }] 33 0 #[] #[])
  fields := #[]
  methods := #[k0m0]
  instanceTypes := #[]
  staticTypes := #[]
  resolved := Array.replicate 124 none
  statics := none }

def pool1 : Array CpInfo := pool [(2, .class_ 4), (1, u "java/lang/Object"), (0, u "<init>"), (0, u "()V"), (0, .methodref 8 9), (0, .class_ 10), (0, .nameAndType 11 12), (0, u "com/example/seqd/seqd/amqp/ConnectionBytes"), (0, u "connection"), (0, u "(Z)J"), (0, .long 393216), (1, .long 327680), (1, .methodref 8 18), (0, .nameAndType 5 19), (0, u "(JZ)V"), (0, .methodref 8 21), (0, .nameAndType 22 23), (0, u "admit"), (0, u "()Lcom/example/seqd/seqd/amqp/ConnectionBytes$Account;"), (0, .methodref 25 26), (0, .class_ 27), (0, .nameAndType 28 29), (0, u "com/example/seqd/seqd/amqp/ConnectionBytes$Account"), (0, u "turnedAway"), (0, u "()Ljava/lang/String;"), (0, .class_ 31), (0, u "com/example/seqd/seqd/amqp/ConnectionBytesConnectionPinLaw"), (2, u "law"), (0, u "(I)Z")] 5

def k1m0 : Method := { name := "<init>", desc := "()V", sig := { parameters := [], returnType := none }, accessFlags := 1, code := none }
def k1c1 : Code := { maxStack := 5, maxLocals := 8, code := code, exceptionTable := #[], attributes := #[] }
def k1m1 : Method := { name := "law", desc := "(I)Z", sig := { parameters := [.int], returnType := some .boolean }, accessFlags := 9, code := some k1c1 }
/-- com/example/seqd/seqd/amqp/ConnectionBytesConnectionPinLaw -/
def k1 : Class := { plain "com/example/seqd/seqd/amqp/ConnectionBytesConnectionPinLaw" (some 0) with
  accessFlags := 49
  interfaces := #[]
  cf := some (fileOf pool1 30 #[] #[{ accessFlags := 1, nameIndex := 5, descriptorIndex := 6, attributes := #[] }, { accessFlags := 9, nameIndex := 34, descriptorIndex := 35, attributes := #[] }] 49 2 #[] #[])
  fields := #[]
  methods := #[k1m0, k1m1]
  instanceTypes := #[]
  staticTypes := #[]
  resolved := Array.replicate 41 none
  statics := none }

def pool2 : Array CpInfo := pool [(1, .class_ 2), (0, u "com/example/seqd/seqd/amqp/ConnectionBytes"), (0, .methodref 4 5), (0, .class_ 6), (0, .nameAndType 7 8), (0, u "java/lang/Object"), (0, u "<init>"), (0, u "()V"), (0, .methodref 1 10), (0, .nameAndType 11 12), (0, u "connection"), (0, u "(Z)J"), (0, .fieldref 1 14), (0, .nameAndType 11 15), (0, u "J"), (0, .long 65536), (1, .fieldref 1 19), (0, .nameAndType 20 15), (0, u "turnedAway"), (9, .fieldref 1 31), (0, .nameAndType 32 15), (0, u "limit"), (0, .long 4), (1, .fieldref 1 36), (0, .nameAndType 37 15), (0, u "admitBelow"), (0, .long 327680), (1, .fieldref 1 41), (0, .nameAndType 42 15), (0, u "held"), (0, .class_ 44), (0, u "com/example/seqd/seqd/amqp/ConnectionBytes$Account"), (0, .methodref 43 46), (0, .nameAndType 7 47), (0, u "(Lcom/example/seqd/seqd/amqp/ConnectionBytes;JLjava/lang/String;)V"), (8, u "FRAME"), (0, u "I"), (2, u "CONNECTION"), (0, u "TURNED_AWAY"), (0, u "TLS"), (0, u "SESSION"), (2, u "LINK"), (0, u "TRANSACTION"), (2, u "(JZ)V"), (3, u "admit"), (0, u "()Lcom/example/seqd/seqd/amqp/ConnectionBytes$Account;")] 27

def k2c0 : Code := { maxStack := 7, maxLocals := 4, code := prog_5_method_1_code, exceptionTable := #[], attributes := #[] }
def k2m0 : Method := { name := "<init>", desc := "(JZ)V", sig := { parameters := [.long, .boolean], returnType := none }, accessFlags := 1, code := some k2c0 }
def k2c1 : Code := { maxStack := 4, maxLocals := 1, code := prog_5_method_2_code, exceptionTable := #[], attributes := #[] }
def k2m1 : Method := { name := "connection", desc := "(Z)J", sig := { parameters := [.boolean], returnType := some .long }, accessFlags := 9, code := some k2c1 }
def k2c2 : Code := { maxStack := 6, maxLocals := 2, code := ⟨#[0x01, 0x4c, 0x2a, 0xb4, 0x00, 0x28, 0x2a, 0xb4, 0x00, 0x23, 0x94, 0x9c, 0x00, 0x32, 0x2a, 0xb4, 0x00, 0x28, 0x2a, 0xb4, 0x00, 0x0d, 0x61, 0x2a, 0xb4, 0x00, 0x1e, 0x94, 0x9d, 0x00, 0x21, 0x2a, 0x59, 0xb4, 0x00, 0x28, 0x2a, 0xb4, 0x00, 0x0d, 0x61, 0xb5, 0x00, 0x28, 0xbb, 0x00, 0x2b, 0x59, 0x2a, 0x2a, 0xb4, 0x00, 0x0d, 0x01, 0xb7, 0x00, 0x2d, 0x4c, 0xa7, 0x00, 0x37, 0x2a, 0xb4, 0x00, 0x28, 0x2a, 0xb4, 0x00, 0x12, 0x61, 0x2a, 0xb4, 0x00, 0x1e, 0x94, 0x9d, 0x00, 0x26, 0x2a, 0x59, 0xb4, 0x00, 0x28, 0x2a, 0xb4, 0x00, 0x12, 0x61, 0xb5, 0x00, 0x28, 0xbb, 0x00, 0x2b, 0x59, 0x2a, 0x2a, 0xb4, 0x00, 0x12, 0x2a, 0xb6, 0x00, 0x30, 0xba, 0x00, 0x34, 0x00, 0x00, 0xb7, 0x00, 0x2d, 0x4c, 0x2b, 0xb0]⟩, exceptionTable := #[], attributes := #[] }
def k2m2 : Method := { name := "admit", desc := "()Lcom/example/seqd/seqd/amqp/ConnectionBytes$Account;", sig := { parameters := [], returnType := some (.object "com/example/seqd/seqd/amqp/ConnectionBytes$Account") }, accessFlags := 32, code := some k2c2 }
/-- com/example/seqd/seqd/amqp/ConnectionBytes -/
def k2 : Class := { plain "com/example/seqd/seqd/amqp/ConnectionBytes" (some 0) with
  accessFlags := 49
  interfaces := #[]
  cf := some (fileOf pool2 1 #[.nestMembers #[43]] #[{ accessFlags := 1, nameIndex := 7, descriptorIndex := 70, attributes := #[] }, { accessFlags := 9, nameIndex := 11, descriptorIndex := 12, attributes := #[] }, { accessFlags := 32, nameIndex := 74, descriptorIndex := 75, attributes := #[] }] 49 4 #[] #[{ accessFlags := 24, nameIndex := 56, descriptorIndex := 57, attributes := #[] }, { accessFlags := 25, nameIndex := 60, descriptorIndex := 15, attributes := #[] }, { accessFlags := 24, nameIndex := 61, descriptorIndex := 15, attributes := #[] }, { accessFlags := 24, nameIndex := 62, descriptorIndex := 15, attributes := #[] }, { accessFlags := 24, nameIndex := 63, descriptorIndex := 15, attributes := #[] }, { accessFlags := 24, nameIndex := 66, descriptorIndex := 15, attributes := #[] }, { accessFlags := 24, nameIndex := 67, descriptorIndex := 15, attributes := #[] }, { accessFlags := 18, nameIndex := 32, descriptorIndex := 15, attributes := #[] }, { accessFlags := 18, nameIndex := 37, descriptorIndex := 15, attributes := #[] }, { accessFlags := 18, nameIndex := 11, descriptorIndex := 15, attributes := #[] }, { accessFlags := 18, nameIndex := 20, descriptorIndex := 15, attributes := #[] }, { accessFlags := 2, nameIndex := 42, descriptorIndex := 15, attributes := #[] }])
  fields := #[{ name := "FRAME", type := .int, accessFlags := 24, slot := 0, constantValue := 0 }, { name := "CONNECTION", type := .long, accessFlags := 25, slot := 1, constantValue := 0 }, { name := "TURNED_AWAY", type := .long, accessFlags := 24, slot := 2, constantValue := 0 }, { name := "TLS", type := .long, accessFlags := 24, slot := 3, constantValue := 0 }, { name := "SESSION", type := .long, accessFlags := 24, slot := 4, constantValue := 0 }, { name := "LINK", type := .long, accessFlags := 24, slot := 5, constantValue := 0 }, { name := "TRANSACTION", type := .long, accessFlags := 24, slot := 6, constantValue := 0 }, { name := "limit", type := .long, accessFlags := 18, slot := 0, constantValue := 0 }, { name := "admitBelow", type := .long, accessFlags := 18, slot := 1, constantValue := 0 }, { name := "connection", type := .long, accessFlags := 18, slot := 2, constantValue := 0 }, { name := "turnedAway", type := .long, accessFlags := 18, slot := 3, constantValue := 0 }, { name := "held", type := .long, accessFlags := 2, slot := 4, constantValue := 0 }]
  methods := #[k2m0, k2m1, k2m2]
  instanceTypes := #[.long, .long, .long, .long, .long]
  staticTypes := #[.int, .long, .long, .long, .long, .long, .long]
  resolved := ((Array.replicate 103 none).set! 43 (some (.cls 3))).set! 45 (some (.method ⟨3, 0⟩))
  statics := none }

def pool3 : Array CpInfo := pool [(1, .fieldref 2 3), (0, .class_ 4), (0, .nameAndType 5 6), (0, u "com/example/seqd/seqd/amqp/ConnectionBytes$Account"), (0, u "this$0"), (0, u "Lcom/example/seqd/seqd/amqp/ConnectionBytes;"), (0, .methodref 8 9), (0, .class_ 10), (0, .nameAndType 11 12), (0, u "java/lang/Object"), (0, u "<init>"), (0, u "()V"), (0, .class_ 14), (0, u "java/util/IdentityHashMap"), (0, .methodref 13 9), (0, .fieldref 2 17), (0, .nameAndType 18 19), (0, u "items"), (0, u "Ljava/util/Map;"), (0, .fieldref 2 21), (0, .nameAndType 22 23), (0, u "base"), (0, u "J"), (0, .fieldref 2 25), (0, .nameAndType 26 27), (0, u "turnedAway"), (0, u "Ljava/lang/String;"), (17, .class_ 47), (1, u "com/example/seqd/seqd/amqp/ConnectionBytes"), (39, u "()Ljava/lang/String;"), (6, u "(Lcom/example/seqd/seqd/amqp/ConnectionBytes;JLjava/lang/String;)V")] 29

def k3c0 : Code := { maxStack := 3, maxLocals := 5, code := prog_6_method_1_code, exceptionTable := #[], attributes := #[] }
def k3m0 : Method := { name := "<init>", desc := "(Lcom/example/seqd/seqd/amqp/ConnectionBytes;JLjava/lang/String;)V", sig := { parameters := [(.object "com/example/seqd/seqd/amqp/ConnectionBytes"), .long, (.object "java/lang/String")], returnType := none }, accessFlags := 2, code := some k3c0 }
def k3c1 : Code := { maxStack := 1, maxLocals := 1, code := prog_6_method_2_code, exceptionTable := #[], attributes := #[] }
def k3m1 : Method := { name := "turnedAway", desc := "()Ljava/lang/String;", sig := { parameters := [], returnType := some (.object "java/lang/String") }, accessFlags := 0, code := some k3c1 }
/-- com/example/seqd/seqd/amqp/ConnectionBytes$Account -/
def k3 : Class := { plain "com/example/seqd/seqd/amqp/ConnectionBytes$Account" (some 0) with
  accessFlags := 48
  interfaces := #[]
  cf := some (fileOf pool3 2 #[.nestHost 45] #[{ accessFlags := 2, nameIndex := 11, descriptorIndex := 94, attributes := #[] }, { accessFlags := 0, nameIndex := 26, descriptorIndex := 87, attributes := #[] }] 48 8 #[] #[{ accessFlags := 18, nameIndex := 18, descriptorIndex := 19, attributes := #[] }, { accessFlags := 18, nameIndex := 26, descriptorIndex := 27, attributes := #[] }, { accessFlags := 2, nameIndex := 22, descriptorIndex := 23, attributes := #[] }, { accessFlags := 4112, nameIndex := 5, descriptorIndex := 6, attributes := #[] }])
  fields := #[{ name := "items", type := (.object "java/util/Map"), accessFlags := 18, slot := 0, constantValue := 0 }, { name := "turnedAway", type := (.object "java/lang/String"), accessFlags := 18, slot := 1, constantValue := 0 }, { name := "base", type := .long, accessFlags := 2, slot := 2, constantValue := 0 }, { name := "this$0", type := (.object "com/example/seqd/seqd/amqp/ConnectionBytes"), accessFlags := 4112, slot := 3, constantValue := 0 }]
  methods := #[k3m0, k3m1]
  instanceTypes := #[(.object "java/util/Map"), (.object "java/lang/String"), .long, (.object "com/example/seqd/seqd/amqp/ConnectionBytes")]
  staticTypes := #[]
  resolved := Array.replicate 124 none
  statics := none }

def pool4 : Array CpInfo := pool [(2, .class_ 4), (1, u "java/util/Map"), (31, .class_ 37), (0, u "java/util/Map$Entry"), (55, .class_ 94), (0, u "java/lang/Object")] 168

/-- java/util/Map -/
def k4 : Class := { plain "java/util/Map" (some 0) with
  accessFlags := 1537
  interfaces := #[]
  cf := some (fileOf pool4 2 #[.nestMembers #[36]] #[] 1537 93 #[] #[])
  fields := #[]
  methods := #[]
  instanceTypes := #[]
  staticTypes := #[]
  resolved := Array.replicate 263 none
  statics := none }

def pool5 : Array CpInfo := pool [(1, .methodref 2 3), (0, .class_ 4), (0, .nameAndType 5 6), (0, u "java/lang/Object"), (0, u "<init>"), (0, u "()V"), (1, .class_ 10), (1, u "java/util/AbstractMap"), (42, .class_ 54), (0, u "java/util/Map"), (9, u "keySet"), (0, u "Ljava/util/Set;"), (0, .class_ 67), (0, u "java/util/AbstractMap$1"), (5, u "values"), (0, u "Ljava/util/Collection;"), (0, .class_ 76), (0, u "java/util/AbstractMap$2"), (104, .class_ 182), (0, u "java/util/AbstractMap$ViewCollection"), (0, .class_ 184), (0, u "java/util/AbstractMap$SimpleImmutableEntry"), (0, .class_ 186), (0, u "java/util/AbstractMap$SimpleEntry"), (0, .class_ 188), (0, u "java/util/AbstractMap$2$1"), (0, .class_ 190), (0, u "java/util/AbstractMap$1$1")] 5

def k5c0 : Code := { maxStack := 1, maxLocals := 1, code := jdk_71_method_1_code, exceptionTable := #[], attributes := #[] }
def k5m0 : Method := { name := "<init>", desc := "()V", sig := { parameters := [], returnType := none }, accessFlags := 4, code := some k5c0 }
/-- java/util/AbstractMap -/
def k5 : Class := { plain "java/util/AbstractMap" (some 0) with
  accessFlags := 1057
  interfaces := #[4]
  cf := some (fileOf pool5 8 #[.nestMembers #[181, 183, 185, 75, 187, 66, 189]] #[{ accessFlags := 4, nameIndex := 5, descriptorIndex := 6, attributes := #[] }] 1057 2 #[53] #[{ accessFlags := 128, nameIndex := 64, descriptorIndex := 65, attributes := #[] }, { accessFlags := 128, nameIndex := 73, descriptorIndex := 74, attributes := #[] }])
  fields := #[{ name := "keySet", type := (.object "java/util/Set"), accessFlags := 128, slot := 0, constantValue := 0 }, { name := "values", type := (.object "java/util/Collection"), accessFlags := 128, slot := 1, constantValue := 0 }]
  methods := #[k5m0]
  instanceTypes := #[(.object "java/util/Set"), (.object "java/util/Collection")]
  staticTypes := #[]
  resolved := Array.replicate 196 none
  statics := none }

def pool6 : Array CpInfo := pool [(1, .class_ 2), (0, u "java/io/Serializable"), (0, .class_ 4), (0, u "java/lang/Object")] 2

/-- java/io/Serializable -/
def k6 : Class := { plain "java/io/Serializable" (some 0) with
  accessFlags := 1537
  interfaces := #[]
  cf := some (fileOf pool6 1 #[] #[] 1537 3 #[] #[])
  fields := #[]
  methods := #[]
  instanceTypes := #[]
  staticTypes := #[]
  resolved := Array.replicate 7 none
  statics := none }

def pool7 : Array CpInfo := pool [(1, .class_ 2), (0, u "java/lang/Cloneable"), (0, .class_ 4), (0, u "java/lang/Object")] 2

/-- java/lang/Cloneable -/
def k7 : Class := { plain "java/lang/Cloneable" (some 0) with
  accessFlags := 1537
  interfaces := #[]
  cf := some (fileOf pool7 1 #[] #[] 1537 3 #[] #[])
  fields := #[]
  methods := #[]
  instanceTypes := #[]
  staticTypes := #[]
  resolved := Array.replicate 7 none
  statics := none }

def pool8 : Array CpInfo := pool [(2, .class_ 4), (1, u "java/util/IdentityHashMap"), (0, u "NULL_KEY"), (0, u "Ljava/lang/Object;"), (0, .methodref 8 9), (0, .class_ 10), (0, .nameAndType 11 12), (0, u "java/util/AbstractMap"), (0, u "<init>"), (0, u "()V"), (0, .methodref 2 14), (0, .nameAndType 15 16), (0, u "init"), (0, u "(I)V"), (32, .class_ 50), (0, u "java/lang/Object"), (0, .fieldref 2 52), (0, .nameAndType 53 54), (0, u "table"), (0, u "[Ljava/lang/Object;"), (1, .class_ 58), (1, u "java/util/Map"), (0, u "size"), (11, u "I"), (24, u "modCount"), (9, u "entrySet"), (50, u "Ljava/util/Set;"), (12, .class_ 171), (0, u "java/util/IdentityHashMap$KeySet"), (7, .class_ 180), (0, u "java/util/IdentityHashMap$Values"), (1, .class_ 183), (0, u "java/util/IdentityHashMap$EntrySet"), (69, .class_ 254), (0, u "java/io/Serializable"), (0, .class_ 256), (0, u "java/lang/Cloneable"), (0, u "DEFAULT_CAPACITY"), (2, u "MINIMUM_CAPACITY"), (1, u "MAXIMUM_CAPACITY"), (2, u "serialVersionUID"), (0, u "J"), (102, .class_ 370), (0, u "java/util/IdentityHashMap$EntrySpliterator"), (0, .class_ 372), (0, u "java/util/IdentityHashMap$ValueSpliterator"), (0, .class_ 374), (0, u "java/util/IdentityHashMap$KeySpliterator"), (0, .class_ 376), (0, u "java/util/IdentityHashMap$IdentityHashMapSpliterator"), (0, .class_ 378), (0, u "java/util/IdentityHashMap$EntryIterator"), (0, .class_ 380), (0, u "java/util/IdentityHashMap$EntryIterator$Entry"), (0, .class_ 382), (0, u "java/util/IdentityHashMap$ValueIterator"), (0, .class_ 384), (0, u "java/util/IdentityHashMap$KeyIterator"), (0, .class_ 386), (0, u "java/util/IdentityHashMap$IdentityHashMapIterator")] 16

def k8c0 : Code := { maxStack := 2, maxLocals := 1, code := jdk_2581_method_3_code, exceptionTable := #[], attributes := #[] }
def k8m0 : Method := { name := "<init>", desc := "()V", sig := { parameters := [], returnType := none }, accessFlags := 1, code := some k8c0 }
def k8c1 : Code := { maxStack := 3, maxLocals := 2, code := jdk_2581_method_6_code, exceptionTable := #[], attributes := #[] }
def k8m1 : Method := { name := "init", desc := "(I)V", sig := { parameters := [.int], returnType := none }, accessFlags := 2, code := some k8c1 }
/-- java/util/IdentityHashMap -/
def k8 : Class := { plain "java/util/IdentityHashMap" (some 5) with
  accessFlags := 33
  interfaces := #[4, 6, 7]
  cf := some (fileOf pool8 2 #[.nestMembers #[369, 371, 373, 375, 182, 179, 170, 377, 379, 381, 383, 385]] #[{ accessFlags := 1, nameIndex := 11, descriptorIndex := 12, attributes := #[] }, { accessFlags := 2, nameIndex := 15, descriptorIndex := 16, attributes := #[] }] 33 8 #[56, 253, 255] #[{ accessFlags := 26, nameIndex := 257, descriptorIndex := 71, attributes := #[] }, { accessFlags := 26, nameIndex := 260, descriptorIndex := 71, attributes := #[] }, { accessFlags := 26, nameIndex := 262, descriptorIndex := 71, attributes := #[] }, { accessFlags := 128, nameIndex := 53, descriptorIndex := 54, attributes := #[] }, { accessFlags := 0, nameIndex := 59, descriptorIndex := 71, attributes := #[] }, { accessFlags := 128, nameIndex := 96, descriptorIndex := 71, attributes := #[] }, { accessFlags := 24, nameIndex := 5, descriptorIndex := 6, attributes := #[] }, { accessFlags := 130, nameIndex := 106, descriptorIndex := 157, attributes := #[] }, { accessFlags := 26, nameIndex := 265, descriptorIndex := 266, attributes := #[] }])
  fields := #[{ name := "DEFAULT_CAPACITY", type := .int, accessFlags := 26, slot := 0, constantValue := 0 }, { name := "MINIMUM_CAPACITY", type := .int, accessFlags := 26, slot := 1, constantValue := 0 }, { name := "MAXIMUM_CAPACITY", type := .int, accessFlags := 26, slot := 2, constantValue := 0 }, { name := "table", type := (.array (.object "java/lang/Object")), accessFlags := 128, slot := 2, constantValue := 0 }, { name := "size", type := .int, accessFlags := 0, slot := 3, constantValue := 0 }, { name := "modCount", type := .int, accessFlags := 128, slot := 4, constantValue := 0 }, { name := "NULL_KEY", type := (.object "java/lang/Object"), accessFlags := 24, slot := 3, constantValue := 0 }, { name := "entrySet", type := (.object "java/util/Set"), accessFlags := 130, slot := 5, constantValue := 0 }, { name := "serialVersionUID", type := .long, accessFlags := 26, slot := 4, constantValue := 0 }]
  methods := #[k8m0, k8m1]
  instanceTypes := #[(.object "java/util/Set"), (.object "java/util/Collection"), (.array (.object "java/lang/Object")), .int, .int, (.object "java/util/Set")]
  staticTypes := #[.int, .int, .int, (.object "java/lang/Object"), .long]
  resolved := Array.replicate 403 none
  statics := none }

/-- the primitive byte -/
def k9 : Class := { plain "byte" none with kind := .primitive 'B', accessFlags := 0x411 }
/-- [B -/
def k10 : Class := { plain "[B" (some 0) with kind := .array 9 .byte, interfaces := #[7, 6], accessFlags := 1041 }

/-- the primitive int -/
def k11 : Class := { plain "int" none with kind := .primitive 'I', accessFlags := 0x411 }
/-- [I -/
def k12 : Class := { plain "[I" (some 0) with kind := .array 11 .int, interfaces := #[7, 6], accessFlags := 1041 }

/-- [Ljava/lang/Object; -/
def k13 : Class := { plain "[Ljava/lang/Object;" (some 0) with kind := .array 0 (.object "java/lang/Object"), interfaces := #[7, 6], accessFlags := 1041 }

def heap : Heap := #[]
def classes : Array Class := #[k0, k1, k2, k3, k4, k5, k6, k7, k8, k9, k10, k11, k12, k13]
def interned : List (Array UInt16 × Addr) := []
def slotsUsed : Nat := 0
def theMethod : MethodId := ⟨1, 1⟩
def args0 : Array Value := #[.int 5]
def aboutOver (below : List Frame) : State where
  vm := { classes := classes, interned := interned.toArray }
  heap := heap
  slotsUsed := slotsUsed
  threads := #[{ frames := .invoking theMethod args0 :: below }]
def below0 : List Frame := [.native { method := ⟨0, 0⟩, args := #[] }]
def about1 : State := aboutOver below0
def p0 : Program := .bare "" "" ""
def e0 : Env := launch0.env 0 0 0
theorem w_frames : about1.frames = Frame.invoking theMethod args0 :: below0 := rfl
set_option maxRecDepth 65536 in
theorem w_args : argsFit about1.vm theMethod args0 = true := by decide +kernel
set_option maxRecDepth 65536 in
theorem w_heap : heapFits about1 = true := by decide +kernel
set_option maxRecDepth 65536 in
theorem w_runnable : about1.curStatus? = some .runnable := by decide +kernel
set_option maxRecDepth 65536 in
theorem w_alone : about1.alone = true := by decide +kernel
set_option maxRecDepth 65536 in
theorem w_named : about1.methodNamed? x = some theMethod := by decide +kernel
set_option maxRecDepth 65536 in
theorem w_hears : about1.hears theMethod below0 = true := by decide +kernel
set_option maxRecDepth 65536 in
theorem w_ripe : about1.ripe theMethod args0 below0 = true := by decide +kernel
theorem w_running : about1.status = .running := rfl
set_option maxRecDepth 65536 in
theorem w_room : about1.hasRoom e0.platform room_1 = true :=
  launch0.hasRoom_least _ room_1 (by decide +kernel) (by decide +kernel) (by decide +kernel) (by decide +kernel) (by decide +kernel) (by decide +kernel)
theorem allAtoms_all (ts : List Jvm.Cond) (a : Array Jvm.Value) (st : Jvm.State) : (allAtoms ts).before a st = ts.all (fun c => c.before a st) := by
  induction ts with
  | nil => rfl
  | cons c t ih =>
    show (Jvm.Cond.and c (allAtoms t)).before a st = _
    rw [Jvm.Cond.before_and, ih, List.all_cons]
def words1 : List Jvm.Cond := Jvm.Cond.code x code maxLocals ret :: tables_1
/-- a 'code' word, met by the world's own term for the bytes: nothing is compared byte by byte -/
theorem code_word {y : MethodName} {bytes : ByteArray} {mx : Nat} {rt : Option FieldType} {a : Array Value} {s : State} {m : MethodId} {meth : Method} {c : Code} (h1 : s.methodNamed? y = some m) (h2 : s.vm.method? m = some meth) (h3 : meth.code = some c) (h4 : c.code = bytes)
    (h5 : (c.maxLocals == mx && c.exceptionTable.isEmpty && decide (c.maxStack ≤ mostOperands) && decide (meth.sig.returnType = rt) && !meth.locks && decide (parseMethodDescriptor y.desc = some meth.sig)) = true) : (Jvm.Cond.code y bytes mx rt).before a s = true := by
  simp only [Bool.and_eq_true, beq_iff_eq, Bool.not_eq_true', decide_eq_true_eq] at h5
  obtain ⟨⟨⟨⟨⟨g1, g2⟩, g3⟩, g4⟩, g5⟩, g6⟩ := h5
  simp [Cond.before, Cond.holds, Cond.value, h1, h2, h3, h4, g1, g2, g3, g4, g5, g6]
theorem sync_word {y : MethodName} {bytes : ByteArray} {mx : Nat} {rt : Option FieldType} {a : Array Value} {s : State} {m : MethodId} {meth : Method} {c : Code} (h1 : s.methodNamed? y = some m) (h2 : s.vm.method? m = some meth) (h3 : meth.code = some c) (h4 : c.code = bytes)
    (h5 : (c.maxLocals == mx && c.exceptionTable.isEmpty && decide (c.maxStack ≤ mostOperands) && decide (meth.sig.returnType = rt) && meth.locks && decide (parseMethodDescriptor y.desc = some meth.sig)) = true) : (Jvm.Cond.codeSync y bytes mx rt).before a s = true := by
  simp only [Bool.and_eq_true, beq_iff_eq, Bool.not_eq_true', decide_eq_true_eq] at h5
  obtain ⟨⟨⟨⟨⟨g1, g2⟩, g3⟩, g4⟩, g5⟩, g6⟩ := h5
  simp [Cond.before, Cond.holds, Cond.value, h1, h2, h3, h4, g1, g2, g3, g4, g5, g6]
def isCode : Jvm.Cond → Bool
  | .code _ _ _ _ => true
  | .codeSync _ _ _ _ => true
  | _ => false
theorem all_split {L : List Jvm.Cond} {P : Jvm.Cond → Bool} (h1 : L.all (fun c => isCode c || P c) = true) (h2 : ∀ c ∈ L.filter isCode, P c = true) : L.all P = true := by
  refine List.all_eq_true.mpr fun c hc => ?_
  have h := List.all_eq_true.mp h1 c hc
  rcases Bool.eq_false_or_eq_true (isCode c) with hi | hi
  · exact h2 c (List.mem_filter.mpr ⟨hc, hi⟩)
  · simpa [hi] using h
set_option maxRecDepth 65536 in
theorem w_c0 : (Jvm.Cond.code x code maxLocals ret).before args0 about1 = true := code_word (m := ⟨1, 1⟩) (meth := k1m1) (c := k1c1) (by decide +kernel) rfl rfl rfl (by decide +kernel)
set_option maxRecDepth 65536 in
theorem w_c1 : (Jvm.Cond.code ({ cls := "com/example/seqd/seqd/amqp/ConnectionBytes", name := "connection", desc := "(Z)J" } : Jvm.MethodName) prog_5_method_2_code (1 : Nat) (Option.some Jvm.ClassFile.FieldType.long)).before args0 about1 = true := code_word (m := ⟨2, 1⟩) (meth := k2m1) (c := k2c1) (by decide +kernel) rfl rfl rfl (by decide +kernel)
set_option maxRecDepth 65536 in
theorem w_c2 : (Jvm.Cond.code ({ cls := "com/example/seqd/seqd/amqp/ConnectionBytes", name := "<init>", desc := "(JZ)V" } : Jvm.MethodName) prog_5_method_1_code (4 : Nat) (Option.none : Option Jvm.ClassFile.FieldType)).before args0 about1 = true := code_word (m := ⟨2, 0⟩) (meth := k2m0) (c := k2c0) (by decide +kernel) rfl rfl rfl (by decide +kernel)
set_option maxRecDepth 65536 in
theorem w_c3 : (Jvm.Cond.code ({ cls := "java/lang/Object", name := "<init>", desc := "()V" } : Jvm.MethodName) object_method_1_code (1 : Nat) (Option.none : Option Jvm.ClassFile.FieldType)).before args0 about1 = true := code_word (m := ⟨0, 0⟩) (meth := k0m0) (c := k0c0) (by decide +kernel) rfl rfl rfl (by decide +kernel)
set_option maxRecDepth 65536 in
theorem w_c4 : (Jvm.Cond.code ({ cls := "com/example/seqd/seqd/amqp/ConnectionBytes$Account", name := "<init>", desc := "(Lcom/example/seqd/seqd/amqp/ConnectionBytes;JLjava/lang/String;)V" } : Jvm.MethodName) prog_6_method_1_code (5 : Nat) (Option.none : Option Jvm.ClassFile.FieldType)).before args0 about1 = true := code_word (m := ⟨3, 0⟩) (meth := k3m0) (c := k3c0) (by decide +kernel) rfl rfl rfl (by decide +kernel)
set_option maxRecDepth 65536 in
theorem w_c5 : (Jvm.Cond.code ({ cls := "java/util/IdentityHashMap", name := "<init>", desc := "()V" } : Jvm.MethodName) jdk_2581_method_3_code (1 : Nat) (Option.none : Option Jvm.ClassFile.FieldType)).before args0 about1 = true := code_word (m := ⟨8, 0⟩) (meth := k8m0) (c := k8c0) (by decide +kernel) rfl rfl rfl (by decide +kernel)
set_option maxRecDepth 65536 in
theorem w_c6 : (Jvm.Cond.code ({ cls := "java/util/AbstractMap", name := "<init>", desc := "()V" } : Jvm.MethodName) jdk_71_method_1_code (1 : Nat) (Option.none : Option Jvm.ClassFile.FieldType)).before args0 about1 = true := code_word (m := ⟨5, 0⟩) (meth := k5m0) (c := k5c0) (by decide +kernel) rfl rfl rfl (by decide +kernel)
set_option maxRecDepth 65536 in
theorem w_c7 : (Jvm.Cond.code ({ cls := "java/util/IdentityHashMap", name := "init", desc := "(I)V" } : Jvm.MethodName) jdk_2581_method_6_code (2 : Nat) (Option.none : Option Jvm.ClassFile.FieldType)).before args0 about1 = true := code_word (m := ⟨8, 1⟩) (meth := k8m1) (c := k8c1) (by decide +kernel) rfl rfl rfl (by decide +kernel)
set_option maxRecDepth 65536 in
theorem w_c8 : (Jvm.Cond.code ({ cls := "com/example/seqd/seqd/amqp/ConnectionBytes$Account", name := "turnedAway", desc := "()Ljava/lang/String;" } : Jvm.MethodName) prog_6_method_2_code (1 : Nat) (Option.some (Jvm.ClassFile.FieldType.object "java/lang/String"))).before args0 about1 = true := code_word (m := ⟨3, 1⟩) (meth := k3m1) (c := k3c1) (by decide +kernel) rfl rfl rfl (by decide +kernel)
set_option maxRecDepth 65536 in
theorem w_s0 : (Jvm.Cond.codeSync ({ cls := "com/example/seqd/seqd/amqp/ConnectionBytes", name := "admit", desc := "()Lcom/example/seqd/seqd/amqp/ConnectionBytes$Account;" } : Jvm.MethodName) prog_5_method_3_code (2 : Nat) (Option.some (Jvm.ClassFile.FieldType.object "com/example/seqd/seqd/amqp/ConnectionBytes$Account"))).before args0 about1 = true := sync_word (m := ⟨2, 2⟩) (meth := k2m2) (c := k2c2) (by decide +kernel) rfl rfl rfl (by decide +kernel)
def codes1 : List Jvm.Cond := [Jvm.Cond.code x code maxLocals ret, Jvm.Cond.code ({ cls := "com/example/seqd/seqd/amqp/ConnectionBytes", name := "connection", desc := "(Z)J" } : Jvm.MethodName) prog_5_method_2_code (1 : Nat) (Option.some Jvm.ClassFile.FieldType.long), Jvm.Cond.code ({ cls := "com/example/seqd/seqd/amqp/ConnectionBytes", name := "<init>", desc := "(JZ)V" } : Jvm.MethodName) prog_5_method_1_code (4 : Nat) (Option.none : Option Jvm.ClassFile.FieldType), Jvm.Cond.code ({ cls := "java/lang/Object", name := "<init>", desc := "()V" } : Jvm.MethodName) object_method_1_code (1 : Nat) (Option.none : Option Jvm.ClassFile.FieldType), Jvm.Cond.codeSync ({ cls := "com/example/seqd/seqd/amqp/ConnectionBytes", name := "admit", desc := "()Lcom/example/seqd/seqd/amqp/ConnectionBytes$Account;" } : Jvm.MethodName) prog_5_method_3_code (2 : Nat) (Option.some (Jvm.ClassFile.FieldType.object "com/example/seqd/seqd/amqp/ConnectionBytes$Account")), Jvm.Cond.code ({ cls := "com/example/seqd/seqd/amqp/ConnectionBytes$Account", name := "<init>", desc := "(Lcom/example/seqd/seqd/amqp/ConnectionBytes;JLjava/lang/String;)V" } : Jvm.MethodName) prog_6_method_1_code (5 : Nat) (Option.none : Option Jvm.ClassFile.FieldType), Jvm.Cond.code ({ cls := "java/util/IdentityHashMap", name := "<init>", desc := "()V" } : Jvm.MethodName) jdk_2581_method_3_code (1 : Nat) (Option.none : Option Jvm.ClassFile.FieldType), Jvm.Cond.code ({ cls := "java/util/AbstractMap", name := "<init>", desc := "()V" } : Jvm.MethodName) jdk_71_method_1_code (1 : Nat) (Option.none : Option Jvm.ClassFile.FieldType), Jvm.Cond.code ({ cls := "java/util/IdentityHashMap", name := "init", desc := "(I)V" } : Jvm.MethodName) jdk_2581_method_6_code (2 : Nat) (Option.none : Option Jvm.ClassFile.FieldType), Jvm.Cond.code ({ cls := "com/example/seqd/seqd/amqp/ConnectionBytes$Account", name := "turnedAway", desc := "()Ljava/lang/String;" } : Jvm.MethodName) prog_6_method_2_code (1 : Nat) (Option.some (Jvm.ClassFile.FieldType.object "java/lang/String"))]
set_option maxRecDepth 65536 in
theorem codes_eq : words1.filter isCode = codes1 := rfl
theorem w_codes : ∀ c ∈ words1.filter isCode, c.before args0 about1 = true := by
  rw [codes_eq]
  intro c hc
  simp only [codes1, List.mem_cons, List.not_mem_nil, or_false] at hc
  rcases hc with rfl | rfl | rfl | rfl | rfl | rfl | rfl | rfl | rfl | rfl
  · exact w_c0
  · exact w_c1
  · exact w_c2
  · exact w_c3
  · exact w_s0
  · exact w_c4
  · exact w_c5
  · exact w_c6
  · exact w_c7
  · exact w_c8
set_option maxRecDepth 65536 in
theorem w_t1 : (words1.take 24).all (fun c => isCode c || c.before args0 about1) = true := by decide +kernel
set_option maxRecDepth 65536 in
theorem w_t2 : ((words1.drop 24).take 24).all (fun c => isCode c || c.before args0 about1) = true := by decide +kernel
set_option maxRecDepth 65536 in
theorem w_t3 : (((words1.drop 24).drop 24).take 24).all (fun c => isCode c || c.before args0 about1) = true := by decide +kernel
set_option maxRecDepth 65536 in
theorem w_t4 : (((words1.drop 24).drop 24).drop 24).all (fun c => isCode c || c.before args0 about1) = true := by decide +kernel
theorem w_tables : (allAtoms (Jvm.Cond.code x code maxLocals ret :: tables_1)).before args0 about1 = true := by
  rw [allAtoms_all]
  show words1.all (fun c => c.before args0 about1) = true
  refine all_split ?_ w_codes
  rw [← List.take_append_drop 24 words1, List.all_append, w_t1, ← List.take_append_drop 24 (words1.drop 24), List.all_append, w_t2, ← List.take_append_drop 24 ((words1.drop 24).drop 24), List.all_append, w_t3, w_t4]
  rfl
set_option maxRecDepth 65536 in
theorem w_case : (Jvm.Cond.and given_1 narrow_1).before args0 about1 = true := by decide +kernel
theorem w_applies : (headSpec (Jvm.Cond.code x code maxLocals ret :: tables_1) room_1).applies x e0.platform about1 = true :=
  (Spec.applies_iff w_frames).mpr ⟨w_running, w_runnable, w_alone, w_named, w_hears, w_ripe, w_room, w_tables⟩
theorem atStart : AtStart classFile x code maxLocals ret World_1 tables_1 room_1 Calls_1 rest_1 Pre_1 launch0 p0 e0 about1 theMethod args0 below0 :=
  ⟨lists_1, trivial, launch0.admits_env _ _ _, launch0.least_env, fairChoices_fair.cas, fairChoices_fair.clock, w_frames, w_args, w_heap, w_applies, trivial, trivial, w_case⟩
end start1
theorem witness_1 : WitnessClaimed_1 := ⟨start1.p0, start1.e0, start1.about1, start1.theMethod, start1.args0, start1.below0, start1.atStart⟩
end Jvm.Pilot.@@N@@
