import JvmDerived
import JvmDerived.Pilot.@@N@@Statement
import JvmDerived.Pilot.@@N@@Code
set_option linter.unusedVariables false
set_option linter.unusedSimpArgs false
@@BLOCK:NumsL.lean.txt@@
namespace Jvm.RoadKit
open Sem ClassFile Op Lib Jvm.Stand Jvm.Free Jvm.LawKit
section Own
variable {p : Program} {l : Launch} {e : Env} {R : Room} {s : State} {m : MethodId} {args : Array Value} {below : List Frame} {meth : Method} {c : Code} {T : State} {locs : List Loc} {cells slots : Nat} {Z : State} {a0 : Array Value} {h : Heap}
/-- from the state F the walked method comes to its end, and Q holds there -/
def own_Out (p : Program) (e : Env) (below : List Frame) (Q : Outcome → State → Prop) (F : State) : Prop :=
  ∃ s₂ o, Steps p.tables e below F s₂ ∧ s₂.status = .running ∧ Ended s₂ below o ∧ Q o s₂
/-- what a contract says of the end, out of a statement on the value, the heap and the written places -/
def own_Q (Q : Option Value → Heap → List Loc → Prop) (s : State) (k n : Nat) : Outcome → State → Prop :=
  fun o U => ∃ v L, o = .returned v ∧ Q v U.heap L ∧ FrameEnd s o U L k n
theorem own_st {Q : Outcome → State → Prop} {F G : State} (h : ∀ t, Steps p.tables e below G t → Steps p.tables e below F t) (k : own_Out p e below Q G) : own_Out p e below Q F := by
  obtain ⟨s2, o, h1, h2⟩ := k
  exact ⟨s2, o, h _ h1, h2⟩
theorem own_tr {Q : Outcome → State → Prop} {F G : State} (h : Steps p.tables e below F G) (k : own_Out p e below Q G) : own_Out p e below Q F :=
  own_st (fun _ q => h.trans q) k
theorem own_retB (X : Stand p l e R s m args below meth c T locs cells slots) (hx : p.tables.exec = Jvm.exec) {Q : Option Value → Heap → List Loc → Prop} {k n : Nat} {pc : Nat} {Ls : Array Slot} {z : Int32} {t : FieldType} {rest : List Value}
    (hret : meth.sig.returnType = some t) (ht : t = .boolean ∨ t = .byte ∨ t = .char ∨ t = .short) (hlk : meth.locks = false) (hd : decode c.code pc = .ok (.ireturn, 1)) (hc : cells ≤ k) (hs : slots ≤ n)
    (hq : Q (some (.int (nar t z))) T.heap locs) : own_Out p e below (own_Q Q s k n) (T.setTop (mkF m pc Ls (.int z :: rest))) := by
  obtain ⟨fs, hr, hrun, hended, hW, hsame⟩ := X.leave (v := some (.int (nar t z))) (fun h => by rw [hret] at h; cases h) hlk
  exact ⟨_, _, retN X hx (t := t) hret ht hd hr, hrun, hended, _, _, rfl, hq, ⟨_, rfl⟩, hW, hsame.mono hc hs⟩
theorem own_retV (X : Stand p l e R s m args below meth c T locs cells slots) (hx : p.tables.exec = Jvm.exec) {Q : Option Value → Heap → List Loc → Prop} {k n : Nat} {pc : Nat} {Ls : Array Slot} {w : Value} {t : FieldType} {i : Instr} {rest : List Value}
    (hret : meth.sig.returnType = some t) (hn : narrow t w = w)
    (hi : (i = .ireturn ∧ (t = .int ∨ t = .boolean ∨ t = .byte ∨ t = .char ∨ t = .short) ∧ ∃ z, w = .int z) ∨ (i = .lreturn ∧ t = .long ∧ ∃ z, w = .long z) ∨ (i = .dreturn ∧ t = .double ∧ ∃ z, w = .double z) ∨ (i = .freturn ∧ t = .float ∧ ∃ z, w = .float z) ∨ (i = .areturn ∧ t.isReference = true ∧ w.isRef = true))
    (hlk : meth.locks = false) (hd : decode c.code pc = .ok (i, 1)) (hc : cells ≤ k) (hs : slots ≤ n)
    (hq : Q (some w) T.heap locs) : own_Out p e below (own_Q Q s k n) (T.setTop (mkF m pc Ls (w :: rest))) := by
  obtain ⟨fs, hr, hrun, hended, hW, hsame⟩ := X.leave (v := some w) (fun h => by rw [hret] at h; cases h) hlk
  exact ⟨_, _, retOut X hx hret hn hi hd hr, hrun, hended, _, _, rfl, hq, ⟨_, rfl⟩, hW, hsame.mono hc hs⟩
theorem own_retI (X : Stand p l e R s m args below meth c T locs cells slots) (hx : p.tables.exec = Jvm.exec) {Q : Option Value → Heap → List Loc → Prop} {k n : Nat} {pc : Nat} {Ls : Array Slot} {z : Int32} {rest : List Value}
    (hret : meth.sig.returnType = some .int) (hlk : meth.locks = false) (hd : decode c.code pc = .ok (.ireturn, 1)) (hc : cells ≤ k) (hs : slots ≤ n)
    (hq : Q (some (.int z)) T.heap locs) : own_Out p e below (own_Q Q s k n) (T.setTop (mkF m pc Ls (.int z :: rest))) :=
  own_retV X hx hret rfl (Or.inl ⟨rfl, Or.inl rfl, _, rfl⟩) hlk hd hc hs hq
theorem own_retJ (X : Stand p l e R s m args below meth c T locs cells slots) (hx : p.tables.exec = Jvm.exec) {Q : Option Value → Heap → List Loc → Prop} {k n : Nat} {pc : Nat} {Ls : Array Slot} {z : Int64} {rest : List Value}
    (hret : meth.sig.returnType = some .long) (hlk : meth.locks = false) (hd : decode c.code pc = .ok (.lreturn, 1)) (hc : cells ≤ k) (hs : slots ≤ n)
    (hq : Q (some (.long z)) T.heap locs) : own_Out p e below (own_Q Q s k n) (T.setTop (mkF m pc Ls (.long z :: rest))) :=
  own_retV X hx hret rfl (Or.inr (Or.inl ⟨rfl, rfl, _, rfl⟩)) hlk hd hc hs hq
theorem own_retA (X : Stand p l e R s m args below meth c T locs cells slots) (hx : p.tables.exec = Jvm.exec) {Q : Option Value → Heap → List Loc → Prop} {k n : Nat} {pc : Nat} {Ls : Array Slot} {w : Value} {t : FieldType} {rest : List Value}
    (hret : meth.sig.returnType = some t) (ht : t.isReference = true) (hw : w.isRef = true) (hlk : meth.locks = false) (hd : decode c.code pc = .ok (.areturn, 1)) (hc : cells ≤ k) (hs : slots ≤ n)
    (hq : Q (some w) T.heap locs) : own_Out p e below (own_Q Q s k n) (T.setTop (mkF m pc Ls (w :: rest))) :=
  own_retV X hx hret (by cases t <;> first | (cases ht; done) | rfl | (cases w <;> rfl)) (Or.inr (Or.inr (Or.inr (Or.inr ⟨rfl, ht, hw⟩)))) hlk hd hc hs hq
theorem own_ret0 (X : Stand p l e R s m args below meth c T locs cells slots) (hx : p.tables.exec = Jvm.exec) {Q : Option Value → Heap → List Loc → Prop} {k n : Nat} {pc : Nat} {Ls : Array Slot}
    (hret : meth.sig.returnType = none) (hlk : meth.locks = false) (hd : decode c.code pc = .ok (.return_, 1)) (hc : cells ≤ k) (hs : slots ≤ n)
    (hq : Q none T.heap locs) : own_Out p e below (own_Q Q s k n) (T.setTop (mkF m pc Ls [])) := by
  obtain ⟨fs, hr, hrun, hended, hW, hsame⟩ := X.leave (v := none) (fun _ => rfl) hlk
  exact ⟨_, _, X.returnOut hx hret hd hr, hrun, hended, _, _, rfl, hq, ⟨_, rfl⟩, hW, hsame.mono hc hs⟩
/-- the head of every body's walk -/
theorem own_body {x : MethodName} {code : ByteArray} {maxL : Nat} {ret : Option FieldType} {ws : List Jvm.Cond} {rm : Room} {as' : Array Value} {Q : Option Value → Heap → List Loc → Prop} (hpn : plainFor x = true) (Lf : Array Slot)
    (hent : ∀ m, entryFrame m as' maxL = mkF m 0 Lf [])
    (body : ∀ p e s m below meth c T, Stand p l e rm s m as' below meth c T [] 0 0 → p.tables.exec = Jvm.exec → c.code = code → c.maxLocals = maxL → meth.sig.returnType = ret → meth.locks = false →
      s.vm.findClass x.cls = some m.cls → meth.name = x.name → Z.Warmed39 s.vm → T.heap = h → own_Out p e below (own_Q Q s rm.cells rm.slots) (T.setTop (mkF m 0 Lf []))) :
    MetFree l x (head1 (Jvm.Cond.code x code maxL ret :: ws) rm) (fun a U => a = as' ∧ Z.Warmed39 U.vm ∧ U.heap = h) (fun _ _ _ _ _ => True)
      (fun _ U o U' => ∃ v L, o = .returned v ∧ Q v U'.heap L ∧ FrameEnd U o U' L rm.cells rm.slots) := by
  refine MetFree.of_bodySF hpn hisR ?_
  intro p e s m args below meth c s₁ Bd hml0 hP hK
  obtain ⟨rfl, hZ, hh⟩ := hP
  have e0 : s₁.heap = h := by rw [← hh, Bd.state]; rfl
  obtain ⟨s2, o, h1, h2⟩ := body p e s m below meth c s₁ (Stand.of_body Bd) Bd.exec Bd.bytes hml0 Bd.returns (BodyLoose.notSynchronized Bd) (findClass_of_methodNamed Bd.named) (name_of_methodNamed Bd.named Bd.method).1 hZ e0
  exact ⟨s2, o, castTop (hent m) h1, h2⟩
/-- a static call by the callee's own contract -/
theorem own_callS (X : Stand p l e R s m args below meth c T locs cells slots) (hx : p.tables.exec = Jvm.exec) (hZ : Z.Warmed39 s.vm) {own : String} {index : Nat} {y : MethodName} {bytes : ByteArray} {maxL : Nat} {ret : Option FieldType} {rm : Room} {as' : List Value} {Q : Option Value → Heap → List Loc → Prop} {Qf : Outcome → State → Prop}
    (hown : s.vm.findClass own = some m.cls) (w1 : (Jvm.Cond.methodLink own index y).before a0 Z = true) (w2 : (Jvm.Cond.static y).before a0 Z = true) (w3 : (Jvm.Cond.initialized y.cls).before a0 Z = true) (w4 : (Jvm.Cond.code y bytes maxL ret).before a0 Z = true)
    (hy : y.cls ≠ "java/lang/invoke/MethodHandle" ∧ y.cls ≠ "java/lang/invoke/VarHandle")
    (hM : MetFree l y (head1 [Jvm.Cond.code y bytes maxL ret] rm) (fun a U => a = as'.toArray ∧ Z.Warmed39 U.vm ∧ U.heap = h) (fun _ _ _ _ _ => True) (fun _ U o U' => ∃ v L, o = .returned v ∧ Q v U'.heap L ∧ FrameEnd U o U' L rm.cells rm.slots))
    (W : Nat) (hf : rm.frames + 1 ≤ R.frames) (hl : W + (maxL + 11) + rm.locals ≤ R.locals) (hc : cells + rm.cells ≤ R.cells) (hs : slots + rm.slots ≤ R.slots)
    {pc : Nat} {Ls : Array Slot} {stk rest : List Value} (hsize : Ls.size = c.maxLocals) (hlen : ∀ sig, parseMethodDescriptor y.desc = some sig → as'.length = sig.parameters.length) (hstack : stk = as'.reverse ++ rest) (hW : (rest.map fun v => v.category).sum ≤ W) (hd : decode c.code pc = .ok (.invokestatic index, 3)) (eT : T.heap = h)
    (k : ∀ T' L v, Stand p l e R s m args below meth c T' (locs ++ L) (cells + rm.cells) (slots + rm.slots) → Q v T'.heap L → own_Out p e below Qf (T'.setTop (mkF m (pc + 3) Ls (v.toList ++ rest)))) :
    own_Out p e below Qf (T.setTop (mkF m pc Ls stk)) := by
  obtain ⟨v, _, ⟨T', L', k', n'⟩, -, X', ⟨Lc, hQ, hl', hy', hz'⟩, st⟩ := Jvm.LawKit.callS X hx (y := y) hown (mvT hZ w1) (mvT hZ w2) (mvT hZ w3) (mvT hZ w4) hy (backOf (W := W) hM hZ w4 w3 hf hl) (g := mkF m pc Ls stk) rfl hsize (argsL := as') (rest := rest) hlen hstack (by show 2 * 0 + _ ≤ _; omega) hd (fun _ _ => ⟨rfl, eT, hc, hs⟩)
  dsimp only [Pt.U, Pt.locs, Pt.cells, Pt.slots] at X' hl' hy' hz' st hQ
  subst hl' hy' hz'
  exact own_st st (k _ _ _ X' hQ)
/-- an instance method by its own contract -/
theorem own_callV (X : Stand p l e R s m args below meth c T locs cells slots) (hx : p.tables.exec = Jvm.exec) (hZ : Z.Warmed39 s.vm) {own C : String} {index : Nat} {y : MethodName} {bytes : ByteArray} {maxL : Nat} {ret : Option FieldType} {rm : Room} {b : Addr} {as' : List Value} {Q : Option Value → Heap → List Loc → Prop} {Qf : Outcome → State → Prop}
    (hown : s.vm.findClass own = some m.cls) (w1 : (Jvm.Cond.methodLink own index y).before a0 Z = true) (w2 : (Jvm.Cond.declares y).before a0 Z = true) (w5 : (Jvm.Cond.selects C y y).before a0 Z = true) (w6 : (Jvm.Cond.instanceMethod y).before a0 Z = true) (w4 : (Jvm.Cond.code y bytes maxL ret).before a0 Z = true) (w3 : (Jvm.Cond.initialized y.cls).before a0 Z = true)
    (hy : y.cls ≠ "java/lang/invoke/MethodHandle" ∧ y.cls ≠ "java/lang/invoke/VarHandle")
    (hM : MetFree l y (head1 [Jvm.Cond.code y bytes maxL ret] rm) (fun a U => a = (.ref b :: as').toArray ∧ Z.Warmed39 U.vm ∧ U.heap = h) (fun _ _ _ _ _ => True) (fun _ U o U' => ∃ v L, o = .returned v ∧ Q v U'.heap L ∧ FrameEnd U o U' L rm.cells rm.slots))
    (E : Exa Z h b C)
    (W : Nat) (hf : rm.frames + 1 ≤ R.frames) (hl : W + (maxL + 11) + rm.locals ≤ R.locals) (hc : cells + rm.cells ≤ R.cells) (hs : slots + rm.slots ≤ R.slots)
    {pc : Nat} {Ls : Array Slot} {stk rest : List Value} (hsize : Ls.size = c.maxLocals) (hlen : ∀ sig, parseMethodDescriptor y.desc = some sig → as'.length = sig.parameters.length) (hstack : stk = as'.reverse ++ .ref b :: rest) (hW : (rest.map fun v => v.category).sum ≤ W) (hd : decode c.code pc = .ok (.invokevirtual index, 3)) (eT : T.heap = h)
    (k : ∀ T' L v, Stand p l e R s m args below meth c T' (locs ++ L) (cells + rm.cells) (slots + rm.slots) → Q v T'.heap L → own_Out p e below Qf (T'.setTop (mkF m (pc + 3) Ls (v.toList ++ rest)))) :
    own_Out p e below Qf (T.setTop (mkF m pc Ls stk)) := by
  obtain ⟨cq, kq, qa, qb, qc⟩ := isOf hZ eT E
  obtain ⟨v, _, ⟨T', L', k', n'⟩, -, X', ⟨Lc, hQ, hl', hy', hz'⟩, st⟩ := X.virtualBack hx (y := y) (z := y) hown (mvT hZ w1) (mvT hZ w2) (notFace_of_selects (args := #[]) (mvT hZ w5)) (mvT hZ w5) (mvT hZ w6) hy (backOf (W := W) hM hZ w4 w3 hf hl) qa qc (g := mkF m pc Ls stk) rfl hsize (Steps.refl _) (argsL := as') (rest := rest) hlen hstack (by show 2 * 0 + _ ≤ _; omega) hd (fun _ _ => ⟨rfl, eT, hc, hs⟩)
  dsimp only [Pt.U, Pt.locs, Pt.cells, Pt.slots] at X' hl' hy' hz' st hQ
  subst hl' hy' hz'
  exact own_tr st (k _ _ _ X' hQ)
/-- a constructor by its own contract -/
theorem own_callI (X : Stand p l e R s m args below meth c T locs cells slots) (hx : p.tables.exec = Jvm.exec) (hZ : Z.Warmed39 s.vm) {own : String} {index : Nat} {y : MethodName} {bytes : ByteArray} {maxL : Nat} {rm : Room} {b : Addr} {as' : List Value} {Q : Option Value → Heap → List Loc → Prop} {Qf : Outcome → State → Prop} (hy1 : y.name = "<init>")
    (hown : s.vm.findClass own = some m.cls) (w1 : (Jvm.Cond.methodLink own index y).before a0 Z = true) (w6 : (Jvm.Cond.instanceMethod y).before a0 Z = true) (w4 : (Jvm.Cond.code y bytes maxL none).before a0 Z = true) (w3 : (Jvm.Cond.initialized y.cls).before a0 Z = true)
    (hy : y.cls ≠ "java/lang/invoke/MethodHandle" ∧ y.cls ≠ "java/lang/invoke/VarHandle")
    (hM : MetFree l y (head1 [Jvm.Cond.code y bytes maxL none] rm) (fun a U => a = (.ref b :: as').toArray ∧ Z.Warmed39 U.vm ∧ U.heap = h) (fun _ _ _ _ _ => True) (fun _ U o U' => ∃ v L, o = .returned v ∧ Q v U'.heap L ∧ FrameEnd U o U' L rm.cells rm.slots))
    (W : Nat) (hf : rm.frames + 1 ≤ R.frames) (hl : W + (maxL + 11) + rm.locals ≤ R.locals) (hc : cells + rm.cells ≤ R.cells) (hs : slots + rm.slots ≤ R.slots)
    {pc : Nat} {Ls : Array Slot} {stk rest : List Value} (hsize : Ls.size = c.maxLocals) (hlen : ∀ sig, parseMethodDescriptor y.desc = some sig → as'.length = sig.parameters.length) (hstack : stk = as'.reverse ++ .ref b :: rest) (hW : (rest.map fun v => v.category).sum ≤ W) (hd : decode c.code pc = .ok (.invokespecial index, 3)) (eT : T.heap = h)
    (k : ∀ T' L v, Stand p l e R s m args below meth c T' (locs ++ L) (cells + rm.cells) (slots + rm.slots) → Q v T'.heap L → own_Out p e below Qf (T'.setTop (mkF m (pc + 3) Ls (v.toList ++ rest)))) :
    own_Out p e below Qf (T.setTop (mkF m pc Ls stk)) := by
  obtain ⟨v, _, ⟨T', L', k', n'⟩, -, X', ⟨Lc, hQ, hl', hy', hz'⟩, st⟩ := X.specialBack hx (y := y) hy1 hown (mvT hZ w1) (mvT hZ w6) (mvT hZ w4) hy (backOf (W := W) hM hZ w4 w3 hf hl) (g := mkF m pc Ls stk) rfl hsize (Steps.refl _) (a := b) (argsL := as') (rest := rest) hlen hstack (by show 2 * 0 + _ ≤ _; omega) hd (fun _ _ => ⟨rfl, eT, hc, hs⟩)
  dsimp only [Pt.U, Pt.locs, Pt.cells, Pt.slots] at X' hl' hy' hz' st hQ
  subst hl' hy' hz'
  exact own_tr st (k _ _ _ X' hQ)
theorem own_fits {C : String} {v : Value} (h : v.isRef = true) : fits (.object C) v = true := by cases v <;> first | rfl | cases h
theorem own_narO {C : String} {v : Value} (h : v.isRef = true) : narrow (.object C) v = v := by cases v <;> first | rfl | cases h
theorem own_nf {y y' : MethodName} (hc : y'.cls = y.cls) (h : NotFace s y) (hi : (Jvm.Cond.instanceMethod y).before a0 s = true) : NotFace s y' := fun r0 h0 => by
  obtain ⟨mk, methM, hnamed, -⟩ := Cond.instanceMethod_spec hi
  have h1 := findClass_of_methodNamed hnamed
  have h2 := findClass_of_methodNamed h0
  rw [hc, h1] at h2
  have h3 := Option.some.inj h2
  rw [← h3]
  exact h mk hnamed
/-- a private method (invokevirtual) by its own contract -/
theorem own_callP (X : Stand p l e R s m args below meth c T locs cells slots) (hx : p.tables.exec = Jvm.exec) (hZ : Z.Warmed39 s.vm) {own C : String} {index : Nat} {y : MethodName} {bytes : ByteArray} {maxL : Nat} {ret : Option FieldType} {rm : Room} {b : Addr} {as' : List Value} {Q : Option Value → Heap → List Loc → Prop} {Qf : Outcome → State → Prop}
    (hown : s.vm.findClass own = some m.cls) (w1 : (Jvm.Cond.methodLink own index y).before a0 Z = true) (w6 : (Jvm.Cond.instanceMethod y).before a0 Z = true) (w8 : (Jvm.Cond.privateMethod y).before a0 Z = true) (w4 : (Jvm.Cond.code y bytes maxL ret).before a0 Z = true) (w3 : (Jvm.Cond.initialized y.cls).before a0 Z = true) (hnf : NotFace s y)
    (hy : y.cls ≠ "java/lang/invoke/MethodHandle" ∧ y.cls ≠ "java/lang/invoke/VarHandle")
    (hM : MetFree l y (head1 [Jvm.Cond.code y bytes maxL ret] rm) (fun a U => a = (.ref b :: as').toArray ∧ Z.Warmed39 U.vm ∧ U.heap = h) (fun _ _ _ _ _ => True) (fun _ U o U' => ∃ v L, o = .returned v ∧ Q v U'.heap L ∧ FrameEnd U o U' L rm.cells rm.slots))
    (E : Exa Z h b C)
    (W : Nat) (hf : rm.frames + 1 ≤ R.frames) (hl : W + (maxL + 11) + rm.locals ≤ R.locals) (hc : cells + rm.cells ≤ R.cells) (hs : slots + rm.slots ≤ R.slots)
    {pc : Nat} {Ls : Array Slot} {stk rest : List Value} (hsize : Ls.size = c.maxLocals) (hlen : ∀ sig, parseMethodDescriptor y.desc = some sig → as'.length = sig.parameters.length) (hstack : stk = as'.reverse ++ .ref b :: rest) (hW : (rest.map fun v => v.category).sum ≤ W) (hd : decode c.code pc = .ok (.invokevirtual index, 3)) (eT : T.heap = h)
    (k : ∀ T' L v, Stand p l e R s m args below meth c T' (locs ++ L) (cells + rm.cells) (slots + rm.slots) → Q v T'.heap L → own_Out p e below Qf (T'.setTop (mkF m (pc + 3) Ls (v.toList ++ rest)))) :
    own_Out p e below Qf (T.setTop (mkF m pc Ls stk)) := by
  obtain ⟨mk, methM, hnamed, hmethM, hstM, habM⟩ := Cond.instanceMethod_spec (mvT (args := args) hZ w6)
  obtain ⟨methM', cM, hmethM', -, -, -, -, -, -, hsigM⟩ := Cond.code_spec hnamed (mvT (args := args) hZ w4)
  cases hmethM.symm.trans hmethM'
  obtain ⟨kP, hkP, hkPi⟩ := hnf mk hnamed
  obtain ⟨cell, hcell, hobj⟩ := E.cell
  have hselP : selectMethod e.platform s.vm cell.cls mk = .method mk := selectMethod_private hmethM (Cond.privateMethod_at (mvP hZ w8 (args := #[])) mk methM hnamed hmethM)
  obtain ⟨vm₁, X₁, hstep₁⟩ := X.invokevirtual hx hown (mvT hZ w1) hnamed hmethM hstM hkP hkPi hy (a := b) (cell := cell) (by rw [eT]; exact hcell) hobj hselP hmethM habM hkP hkPi (g := mkF m pc Ls stk) rfl (argsL := as') (rest := rest) (hlen _ hsigM) hstack hd
  obtain ⟨v, ⟨T', L', k', n'⟩, X', ⟨Lc, hQ, hl', hy', hz'⟩, st⟩ := backOf (W := W) hM hZ w4 w3 hf hl m meth c ⟨T.setVm vm₁, locs, cells, slots⟩ { mkF m pc Ls stk with stack := rest } (.invokevirtual index) mk (.ref b :: as').toArray X₁ rfl hsize hd (by show 2 * 0 + (rest.map fun v => v.category).sum ≤ W; omega) (X₁.named hnamed) ⟨rfl, eT, hc, hs⟩
  dsimp only [Pt.U, Pt.locs, Pt.cells, Pt.slots] at X' hl' hy' hz' st hQ
  subst hl' hy' hz'
  exact own_st (fun target q => hstep₁ _ fun acts => by rw [doInvoke_state]; exact st.trans q) (k _ _ _ X' hQ)
end Own
end Jvm.RoadKit
namespace Jvm.RoadKit
open Sem ClassFile Op Lib Jvm.Stand Jvm.Free Jvm.LawKit
section OwnA
variable {p : Program} {l : Launch} {e : Env} {R : Room} {s : State} {m : MethodId} {args : Array Value} {below : List Frame} {meth : Method} {c : Code} {T : State} {locs : List Loc} {cells slots : Nat} {Z : State} {a0 : Array Value} {h h' : Heap} {a b : Addr} {n : Nat} {f : Nat → Int64} {g0 : Nat → Int32} {Q : Outcome → State → Prop} {ws : List Addr} {sl : Nat} {v : Value}
/-- a long[] of length n with the components f -/
def own_AJ (Z : State) (h : Heap) (a : Addr) (n : Nat) (f : Nat → Int64) : Prop := ∃ c : Cell, Arr Z h a c .long ∧ c.slots.size = n ∧ n < 2147483648 ∧ ∀ i, i < n → c.slots[i]? = some (.long (f i))
def own_AI (Z : State) (h : Heap) (a : Addr) (n : Nat) (f : Nat → Int32) : Prop := ∃ c : Cell, Arr Z h a c .int ∧ c.slots.size = n ∧ n < 2147483648 ∧ ∀ i, i < n → c.slots[i]? = some (.int (f i))
theorem own_AJ_lt (F : own_AJ Z h a n f) : a < h.size := by obtain ⟨c, A, -⟩ := F; exact A.lt
theorem own_AI_lt (F : own_AI Z h a n g0) : a < h.size := by obtain ⟨c, A, -⟩ := F; exact A.lt
theorem own_AJ_ext (F : own_AJ Z h a n f) (E : Ext h h') : own_AJ Z h' a n f := by obtain ⟨c, A, r⟩ := F; exact ⟨c, A.ext E, r⟩
theorem own_AI_ext (F : own_AI Z h a n g0) (E : Ext h h') : own_AI Z h' a n g0 := by obtain ⟨c, A, r⟩ := F; exact ⟨c, A.ext E, r⟩
theorem own_AJ_other (F : own_AJ Z h b n f) (W : Wr h h' a sl v) (q : b ≠ a) : own_AJ Z h' b n f := by obtain ⟨c, A, r⟩ := F; exact ⟨c, A.other W q, r⟩
theorem own_AI_other (F : own_AI Z h b n g0) (W : Wr h h' a sl v) (q : b ≠ a) : own_AI Z h' b n g0 := by obtain ⟨c, A, r⟩ := F; exact ⟨c, A.other W q, r⟩
theorem own_AJ_keep (F : own_AJ Z h a n f) (K : Keep h h' ws) (q : a ∉ ws) : own_AJ Z h' a n f := by obtain ⟨c, A, r⟩ := F; exact ⟨c, ⟨K.2.1 a c A.1 q, A.2⟩, r⟩
theorem own_AI_keep (F : own_AI Z h a n g0) (K : Keep h h' ws) (q : a ∉ ws) : own_AI Z h' a n g0 := by obtain ⟨c, A, r⟩ := F; exact ⟨c, ⟨K.2.1 a c A.1 q, A.2⟩, r⟩
theorem own_AJ_congr {f' : Nat → Int64} (F : own_AJ Z h a n f) (q : ∀ i, i < n → f i = f' i) : own_AJ Z h a n f' := by obtain ⟨c, A, S, b, H⟩ := F; exact ⟨c, A, S, b, fun i hi => by rw [H i hi, q i hi]⟩
theorem own_nlt {z : Int32} (q : ¬ z < 0) : z.toNatClampNeg < 2147483648 := by
  have := z.toInt_lt
  simp only [Int32.toNatClampNeg]; omega
theorem own_AJ_new {k : ClassId} {z : Int32} (A : Arr Z h a (newA k .long z) .long) (q : ¬ z < 0) (hn : z.toNatClampNeg = n) : own_AJ Z h a n (fun _ => 0) :=
  ⟨_, A, (sz_new _ _ _).trans hn, hn ▸ own_nlt q, fun i hi => by subst hn; simp [newA, hi]; rfl⟩
theorem own_AI_new {k : ClassId} {z : Int32} (A : Arr Z h a (newA k .int z) .int) (q : ¬ z < 0) (hn : z.toNatClampNeg = n) : own_AI Z h a n (fun _ => 0) :=
  ⟨_, A, (sz_new _ _ _).trans hn, hn ▸ own_nlt q, fun i hi => by subst hn; simp [newA, hi]; rfl⟩
theorem own_AJ_set {x : Int64} {i : Nat} (F : own_AJ Z h a n f) (W : Wr h h' a i (.long x)) : own_AJ Z h' a n (fun k => if k = i then x else f k) := by
  obtain ⟨c, A, S, bn, H⟩ := F
  refine ⟨_, A.same W, by rw [sz_set]; exact S, bn, fun k hk => ?_⟩
  have hk' : k < c.slots.size := S ▸ hk
  by_cases q : k = i
  · subst q; simp [Cell.setSlot, hk']
  · have q' : i ≠ k := fun z => q z.symm
    simp [Cell.setSlot, q, Array.getElem?_setIfInBounds_ne q', H k hk]
theorem own_AI_set {x : Int32} {i : Nat} (F : own_AI Z h a n g0) (W : Wr h h' a i (.int x)) : own_AI Z h' a n (fun k => if k = i then x else g0 k) := by
  obtain ⟨c, A, S, bn, H⟩ := F
  refine ⟨_, A.same W, by rw [sz_set]; exact S, bn, fun k hk => ?_⟩
  have hk' : k < c.slots.size := S ▸ hk
  by_cases q : k = i
  · subst q; simp [Cell.setSlot, hk']
  · have q' : i ≠ k := fun z => q z.symm
    simp [Cell.setSlot, q, Array.getElem?_setIfInBounds_ne q', H k hk]
theorem own_ext_wr (E : Ext h0 h) (W : Wr h h' a sl v) (q : h0.size ≤ a) : Ext h0 h' := by
  obtain ⟨cell, h1, -, -, rfl⟩ := W
  refine ⟨by rw [Array.size_setIfInBounds]; exact E.1, fun x c hx => ?_⟩
  have hlt := (Array.getElem?_eq_some_iff.mp hx).1
  rw [Array.getElem?_setIfInBounds_ne (by omega)]; exact E.2 x c hx
theorem own_laload (X : Stand p l e R s m args below meth c T locs cells slots) (hx : p.tables.exec = Jvm.exec) (hZ : Z.Warmed39 s.vm) (eT : T.heap = h) (F : own_AJ Z h a n f) {j : Int32} {i : Nat} (hj : ¬ j < 0) (hji : j.toNatClampNeg = i) (hi : i < n)
    {pc : Nat} {Ls : Array Slot} {rest : List Value} (hd : decode c.code pc = .ok (.laload, 1)) (k : own_Out p e below Q (T.setTop (mkF m (pc + 1) Ls (.long (f i) :: rest)))) : own_Out p e below Q (T.setTop (mkF m pc Ls (.int j :: .ref a :: rest))) := by
  obtain ⟨cl, A, S, bn, H⟩ := F
  subst hji
  exact own_st (fun t q => X.laload hx (by rw [eT]; exact A.1) (State.isArrayOf_alike hZ.alike A.2.1) A.2.2 (by rw [S]; exact fun q => q.elim hj (Nat.not_le_of_lt hi)) (H _ hi) (g := mkF m pc Ls (.int j :: .ref a :: rest)) rfl rfl hd t q) k
theorem own_iaload (X : Stand p l e R s m args below meth c T locs cells slots) (hx : p.tables.exec = Jvm.exec) (hZ : Z.Warmed39 s.vm) (eT : T.heap = h) (F : own_AI Z h a n g0) {j : Int32} {i : Nat} (hj : ¬ j < 0) (hji : j.toNatClampNeg = i) (hi : i < n)
    {pc : Nat} {Ls : Array Slot} {rest : List Value} (hd : decode c.code pc = .ok (.iaload, 1)) (k : own_Out p e below Q (T.setTop (mkF m (pc + 1) Ls (.int (g0 i) :: rest)))) : own_Out p e below Q (T.setTop (mkF m pc Ls (.int j :: .ref a :: rest))) := by
  obtain ⟨cl, A, S, bn, H⟩ := F
  subst hji
  exact own_st (fun t q => X.iaload hx (by rw [eT]; exact A.1) (State.isArrayOf_alike hZ.alike A.2.1) A.2.2 (by rw [S]; exact fun q => q.elim hj (Nat.not_le_of_lt hi)) (H _ hi) (g := mkF m pc Ls (.int j :: .ref a :: rest)) rfl rfl hd t q) k
theorem own_lenJ (X : Stand p l e R s m args below meth c T locs cells slots) (hx : p.tables.exec = Jvm.exec) (hZ : Z.Warmed39 s.vm) (eT : T.heap = h) (F : own_AJ Z h a n f) {z : Int32} (hz : n.toInt32 = z)
    {pc : Nat} {Ls : Array Slot} {rest : List Value} (hd : decode c.code pc = .ok (.arraylength, 1)) (k : own_Out p e below Q (T.setTop (mkF m (pc + 1) Ls (.int z :: rest)))) : own_Out p e below Q (T.setTop (mkF m pc Ls (.ref a :: rest))) := by
  obtain ⟨cl, A, S, bn, H⟩ := F
  exact own_st (fun t q => X.arraylength hx (by rw [eT]; exact A.1) (State.isArrayOf_alike hZ.alike A.2.1) (g := mkF m pc Ls (.ref a :: rest)) rfl rfl hd t (by rw [S, hz]; exact q)) k
theorem own_lenI (X : Stand p l e R s m args below meth c T locs cells slots) (hx : p.tables.exec = Jvm.exec) (hZ : Z.Warmed39 s.vm) (eT : T.heap = h) (F : own_AI Z h a n g0) {z : Int32} (hz : n.toInt32 = z)
    {pc : Nat} {Ls : Array Slot} {rest : List Value} (hd : decode c.code pc = .ok (.arraylength, 1)) (k : own_Out p e below Q (T.setTop (mkF m (pc + 1) Ls (.int z :: rest)))) : own_Out p e below Q (T.setTop (mkF m pc Ls (.ref a :: rest))) := by
  obtain ⟨cl, A, S, bn, H⟩ := F
  exact own_st (fun t q => X.arraylength hx (by rw [eT]; exact A.1) (State.isArrayOf_alike hZ.alike A.2.1) (g := mkF m pc Ls (.ref a :: rest)) rfl rfl hd t (by rw [S, hz]; exact q)) k
theorem own_lastore (X : Stand p l e R s m args below meth c T locs cells slots) (hx : p.tables.exec = Jvm.exec) (hZ : Z.Warmed39 s.vm) (eT : T.heap = h) (F : own_AJ Z h a n f) {j : Int32} {x : Int64} {i : Nat} (hj : ¬ j < 0) (hji : j.toNatClampNeg = i) (hi : i < n)
    {pc : Nat} {Ls : Array Slot} {rest : List Value} (hd : decode c.code pc = .ok (.lastore, 1)) (k : ∀ T' h', Stand p l e R s m args below meth c T' (locs ++ [⟨a, i⟩]) cells slots → T'.heap = h' → Wr h h' a i (.long x) → own_AJ Z h' a n (fun k => if k = i then x else f k) → own_Out p e below Q (T'.setTop (mkF m (pc + 1) Ls rest))) : own_Out p e below Q (T.setTop (mkF m pc Ls (.long x :: .int j :: .ref a :: rest))) := by
  have F' := F
  obtain ⟨cl, A, S, bn, H⟩ := F
  subst hji
  obtain ⟨T', h', X', e', W, st⟩ := stJ X hx hZ eT A (j := j) (x := x) (by rw [S]; exact fun q => q.elim hj (Nat.not_le_of_lt hi)) (g := mkF m pc Ls (.long x :: .int j :: .ref a :: rest)) rfl rfl hd
  exact own_st st (k T' h' X' e' W (own_AJ_set F' W))
theorem own_iastore (X : Stand p l e R s m args below meth c T locs cells slots) (hx : p.tables.exec = Jvm.exec) (hZ : Z.Warmed39 s.vm) (eT : T.heap = h) (F : own_AI Z h a n g0) {j : Int32} {x : Int32} {i : Nat} (hj : ¬ j < 0) (hji : j.toNatClampNeg = i) (hi : i < n)
    {pc : Nat} {Ls : Array Slot} {rest : List Value} (hd : decode c.code pc = .ok (.iastore, 1)) (k : ∀ T' h', Stand p l e R s m args below meth c T' (locs ++ [⟨a, i⟩]) cells slots → T'.heap = h' → Wr h h' a i (.int x) → own_AI Z h' a n (fun k => if k = i then x else g0 k) → own_Out p e below Q (T'.setTop (mkF m (pc + 1) Ls rest))) : own_Out p e below Q (T.setTop (mkF m pc Ls (.int x :: .int j :: .ref a :: rest))) := by
  have F' := F
  obtain ⟨cl, A, S, bn, H⟩ := F
  subst hji
  obtain ⟨T', h', X', e', W, st⟩ := stI X hx hZ eT A (j := j) (x := x) (by rw [S]; exact fun q => q.elim hj (Nat.not_le_of_lt hi)) (g := mkF m pc Ls (.int x :: .int j :: .ref a :: rest)) rfl rfl hd
  exact own_st st (k T' h' X' e' W (own_AI_set F' W))
theorem own_AJ_arv (F : own_AJ Z h a n f) : ∃ k z, ¬ z < 0 ∧ z.toNatClampNeg = n ∧ Arv Z h a k .long z ((List.range n).map fun i => .long (f i)) (.long 0) := by
  obtain ⟨c, A, S, bn, H⟩ := F
  have e1 : (Int32.ofNat n).toInt = n := Int32.toInt_ofNat_of_lt (by omega)
  have e2 : (Int32.ofNat n).toNatClampNeg = n := by simp only [Int32.toNatClampNeg, e1]; omega
  have gd : ∀ i, i < n → ((List.range n).map fun i => Value.long (f i)).getD i (.long 0) = .long (f i) := fun i hi => by simp [List.getD_eq_getElem?_getD, hi]
  refine ⟨c.cls, Int32.ofNat n, ?_, e2, c, A, rfl, by rw [S, e2], ?_, fun i hi => ?_, fun i hi => ?_⟩
  · rw [Int32.lt_iff_toInt_lt, e1]; have : (0 : Int32).toInt = 0 := rfl; omega
  · rw [Int32.lt_iff_toInt_lt, e1]; have : (0 : Int32).toInt = 0 := rfl; omega
  · rw [gd i (S ▸ hi)]; exact H i (S ▸ hi)
  · rw [gd i (S ▸ hi)]; rfl
theorem own_arv_AJ {k : ClassId} {z : Int32} {vs : List Value} {dv : Value} (F : Arv Z h a k .long z vs dv) (hn : z.toNatClampNeg = n) (hv : ∀ i, i < n → vs.getD i dv = .long (f i)) : own_AJ Z h a n f := by
  obtain ⟨c, A, -, S, q, H, -⟩ := F
  exact ⟨c, A, S.trans hn, hn ▸ own_nlt q, fun i hi => by rw [H i (by rw [S, hn]; exact hi), hv i hi]⟩
theorem own_arraycopy (X : Stand p l e R s m args below meth c T locs cells slots) (hx : p.tables.exec = Jvm.exec) (hZ : Z.Warmed39 s.vm) {own : String} {index : Nat} (hown : s.vm.findClass own = some m.cls)
    (w1 : (Cond.methodLink own index Jvm.Stand.acN).before a0 Z = true) (w2 : (Cond.native Jvm.Stand.acN).before a0 Z = true) (w3 : (Cond.static Jvm.Stand.acN).before a0 Z = true) (w4 : (Cond.initialized "java/lang/System").before a0 Z = true) (eT : T.heap = h)
    {na nb : Nat} {fa fb : Nat → Int64} (A : own_AJ Z h a na fa) (B : own_AJ Z h b nb fb) {sp dp nn : Int32} {i1 i2 i3 : Nat} (h1 : ¬ sp < 0) (h2 : ¬ dp < 0) (h3 : ¬ nn < 0) (e1 : sp.toNatClampNeg = i1) (e2 : dp.toNatClampNeg = i2) (e3 : nn.toNatClampNeg = i3) (h4 : i1 + i3 ≤ na) (h5 : i2 + i3 ≤ nb)
    {n0 : Nat} (N : Fr n0 locs) (ge : n0 ≤ b) {pc : Nat} {Ls : Array Slot} {rest : List Value} (hsize : Ls.size = c.maxLocals) (hd : decode c.code pc = .ok (.invokestatic index, 3)) (hf : 1 ≤ R.frames) (W : Nat) (hW : (rest.map fun v => v.category).sum ≤ W) (hlo : W + 18 ≤ R.locals)
    (k : ∀ T' h' L, Stand p l e R s m args below meth c T' L cells slots → T'.heap = h' → Fr n0 L → Keep h h' [b] → own_AJ Z h' b nb (fun i => if i2 ≤ i ∧ i < i2 + i3 then fa (i1 + (i - i2)) else fb i) → own_Out p e below Q (T'.setTop (mkF m (pc + 3) Ls rest))) :
    own_Out p e below Q (T.setTop (mkF m pc Ls (.int nn :: .int dp :: .ref b :: .int sp :: .ref a :: rest))) := by
  obtain ⟨ka, za, qa, ea, FA⟩ := own_AJ_arv A
  obtain ⟨kb, zb, qb, eb, FB⟩ := own_AJ_arv B
  subst e1 e2 e3
  obtain ⟨T', h', L, X', e', N', K, B', st⟩ := cpA X hx hZ hown w1 w2 w3 w4 eT FA FB (Or.inl ⟨rfl, rfl⟩) h1 h2 h3 (by rw [ea]; exact h4) (by rw [eb]; exact h5) rfl (by simp; exact h5) N ge (g := mkF m pc Ls (.int nn :: .int dp :: .ref b :: .int sp :: .ref a :: rest)) rfl hsize rfl hd hf (W := W) (by show 2 * 0 + _ ≤ _; omega) hlo
  refine own_st st (k T' h' L X' e' N' K (own_arv_AJ B' eb fun i hi => ?_))
  simp only [List.getD_eq_getElem?_getD]
  by_cases q1 : i < dp.toNatClampNeg
  · rw [List.append_assoc, List.getElem?_append_left (by simp; omega), List.getElem?_take_of_lt q1]
    simp [hi, show ¬ (dp.toNatClampNeg ≤ i) from by omega]
  · by_cases q2 : i < dp.toNatClampNeg + nn.toNatClampNeg
    · rw [List.getElem?_append_left (by simp; omega), List.getElem?_append_right (by simp; omega)]
      have q3 : i - min dp.toNatClampNeg nb < nn.toNatClampNeg := by omega
      have q4 : min dp.toNatClampNeg nb = dp.toNatClampNeg := by omega
      have q5 : sp.toNatClampNeg + (i - dp.toNatClampNeg) < na := by omega
      simp [q4, q5, show i - dp.toNatClampNeg < nn.toNatClampNeg from by omega, show dp.toNatClampNeg ≤ i from by omega, q2]
    · rw [List.getElem?_append_right (by simp; omega)]
      have q4 : min dp.toNatClampNeg nb = dp.toNatClampNeg := by omega
      simp only [List.getElem?_drop, List.length_append, List.length_take, List.length_map, List.length_range, q4]
      rw [show dp.toNatClampNeg + nn.toNatClampNeg + (i - (dp.toNatClampNeg + nn.toNatClampNeg)) = i from by omega]
      simp [hi, q2]
end OwnA
end Jvm.RoadKit
namespace Jvm.Pilot.@@N@@
open Jvm Jvm.ClassFile Sem Op Lib Jvm.Free Jvm.Stand Jvm.LawKit Jvm.RoadKit Bundle Jvm.Pilot.@@N@@.Jvm.D
theorem own_w {Z : State} {a0 : Array Value} (hw : ∀ d ∈ tables_1, d.before a0 Z = true) {d : Jvm.Cond} (k : Nat) (h : tables_1[k]? = some d) : d.before a0 Z = true := hw _ (List.mem_of_getElem? h)
def own_P (Z : State) (h : Heap) (a : Addr) (f0 : Int32) (f1 : Value) (f2 : Value) (f3 : Int32) : Prop := Exa Z h a "com/example/libbuchi/libbuchi/automata/PackedStates" ∧ Fld Z h a "com/example/libbuchi/libbuchi/automata/PackedStates" "width" "I" (.int f0) ∧ Fld Z h a "com/example/libbuchi/libbuchi/automata/PackedStates" "words" "[J" f1 ∧ Fld Z h a "com/example/libbuchi/libbuchi/automata/PackedStates" "slots" "[I" f2 ∧ Fld Z h a "com/example/libbuchi/libbuchi/automata/PackedStates" "size" "I" (.int f3)
theorem own_P_width {Z : State} {a0 : Array Value} (hw : ∀ d ∈ tables_1, d.before a0 Z = true) {h h' : Heap} {a : Addr} {f0 : Int32} {f1 : Value} {f2 : Value} {f3 : Int32} {y : Int32} (W : Wr h h' a (Jvm.RoadKit.slotOf Z "com/example/libbuchi/libbuchi/automata/PackedStates" "width" "I") (.int y)) (O : own_P Z h a f0 f1 f2 f3) : own_P Z h' a y f1 f2 f3 :=
  ⟨(O.1.wr W), ((O).2.1.same W), ((O).2.2.1.other W (Or.inr (slot_ne (Or.inl (own_w hw 13 rfl)) (Or.inr (own_w hw 11 rfl)) (by decide) (t := .array (.long)) (t' := .int) (by decide) (by decide)))), ((O).2.2.2.1.other W (Or.inr (slot_ne (Or.inl (own_w hw 16 rfl)) (Or.inr (own_w hw 11 rfl)) (by decide) (t := .array (.int)) (t' := .int) (by decide) (by decide)))), ((O).2.2.2.2.other W (Or.inr (slot_ne (Or.inl (own_w hw 28 rfl)) (Or.inr (own_w hw 11 rfl)) (by decide) (t := .int) (t' := .int) (by decide) (by decide))))⟩
theorem own_P_words {Z : State} {a0 : Array Value} (hw : ∀ d ∈ tables_1, d.before a0 Z = true) {h h' : Heap} {a : Addr} {f0 : Int32} {f1 : Value} {f2 : Value} {f3 : Int32} {y : Value} (W : Wr h h' a (Jvm.RoadKit.slotOf Z "com/example/libbuchi/libbuchi/automata/PackedStates" "words" "[J") y) (O : own_P Z h a f0 f1 f2 f3) : own_P Z h' a f0 y f2 f3 :=
  ⟨(O.1.wr W), ((O).2.1.other W (Or.inr (slot_ne (Or.inr (own_w hw 11 rfl)) (Or.inl (own_w hw 13 rfl)) (by decide) (t := .int) (t' := .array (.long)) (by decide) (by decide)))), ((O).2.2.1.same W), ((O).2.2.2.1.other W (Or.inr (slot_ne (Or.inl (own_w hw 16 rfl)) (Or.inl (own_w hw 13 rfl)) (by decide) (t := .array (.int)) (t' := .array (.long)) (by decide) (by decide)))), ((O).2.2.2.2.other W (Or.inr (slot_ne (Or.inl (own_w hw 28 rfl)) (Or.inl (own_w hw 13 rfl)) (by decide) (t := .int) (t' := .array (.long)) (by decide) (by decide))))⟩
theorem own_P_slots {Z : State} {a0 : Array Value} (hw : ∀ d ∈ tables_1, d.before a0 Z = true) {h h' : Heap} {a : Addr} {f0 : Int32} {f1 : Value} {f2 : Value} {f3 : Int32} {y : Value} (W : Wr h h' a (Jvm.RoadKit.slotOf Z "com/example/libbuchi/libbuchi/automata/PackedStates" "slots" "[I") y) (O : own_P Z h a f0 f1 f2 f3) : own_P Z h' a f0 f1 y f3 :=
  ⟨(O.1.wr W), ((O).2.1.other W (Or.inr (slot_ne (Or.inr (own_w hw 11 rfl)) (Or.inl (own_w hw 16 rfl)) (by decide) (t := .int) (t' := .array (.int)) (by decide) (by decide)))), ((O).2.2.1.other W (Or.inr (slot_ne (Or.inl (own_w hw 13 rfl)) (Or.inl (own_w hw 16 rfl)) (by decide) (t := .array (.long)) (t' := .array (.int)) (by decide) (by decide)))), ((O).2.2.2.1.same W), ((O).2.2.2.2.other W (Or.inr (slot_ne (Or.inl (own_w hw 28 rfl)) (Or.inl (own_w hw 16 rfl)) (by decide) (t := .int) (t' := .array (.int)) (by decide) (by decide))))⟩
theorem own_P_size {Z : State} {a0 : Array Value} (hw : ∀ d ∈ tables_1, d.before a0 Z = true) {h h' : Heap} {a : Addr} {f0 : Int32} {f1 : Value} {f2 : Value} {f3 : Int32} {y : Int32} (W : Wr h h' a (Jvm.RoadKit.slotOf Z "com/example/libbuchi/libbuchi/automata/PackedStates" "size" "I") (.int y)) (O : own_P Z h a f0 f1 f2 f3) : own_P Z h' a f0 f1 f2 y :=
  ⟨(O.1.wr W), ((O).2.1.other W (Or.inr (slot_ne (Or.inr (own_w hw 11 rfl)) (Or.inl (own_w hw 28 rfl)) (by decide) (t := .int) (t' := .int) (by decide) (by decide)))), ((O).2.2.1.other W (Or.inr (slot_ne (Or.inl (own_w hw 13 rfl)) (Or.inl (own_w hw 28 rfl)) (by decide) (t := .array (.long)) (t' := .int) (by decide) (by decide)))), ((O).2.2.2.1.other W (Or.inr (slot_ne (Or.inl (own_w hw 16 rfl)) (Or.inl (own_w hw 28 rfl)) (by decide) (t := .array (.int)) (t' := .int) (by decide) (by decide)))), ((O).2.2.2.2.same W)⟩
theorem own_P_ext {Z : State} {h h' : Heap} {a : Addr} {f0 : Int32} {f1 : Value} {f2 : Value} {f3 : Int32} (E : Ext h h') (O : own_P Z h a f0 f1 f2 f3) : own_P Z h' a f0 f1 f2 f3 := ⟨(O).1.ext E, (O).2.1.ext E, (O).2.2.1.ext E, (O).2.2.2.1.ext E, (O).2.2.2.2.ext E⟩
theorem own_P_mon {Z : State} {h h' : Heap} {a : Addr} {f0 : Int32} {f1 : Value} {f2 : Value} {f3 : Int32} (E : Mon h h') (O : own_P Z h a f0 f1 f2 f3) : own_P Z h' a f0 f1 f2 f3 := ⟨(O).1.mon E, (O).2.1.mon E, (O).2.2.1.mon E, (O).2.2.2.1.mon E, (O).2.2.2.2.mon E⟩
theorem own_P_keep {Z : State} {h h' : Heap} {a : Addr} {ws : List Addr} {f0 : Int32} {f1 : Value} {f2 : Value} {f3 : Int32} (K : Keep h h' ws) (q : a ∉ ws) (O : own_P Z h a f0 f1 f2 f3) : own_P Z h' a f0 f1 f2 f3 := ⟨(O).1.keep K, (O).2.1.keep K q, (O).2.2.1.keep K q, (O).2.2.2.1.keep K q, (O).2.2.2.2.keep K q⟩
def own_f3 (x y z : Int64) : Nat → Int64
  | 0 => x
  | 1 => y
  | _ => z
def own_hW (W : Int32) : Prop := W = 0 ∨ W = 1 ∨ W = 2 ∨ W = 3
def own_nw (W : Int32) : Nat := 16 * W.toNatClampNeg
def own_K (k : Int32) (b : Nat) : Prop := 0 ≤ k.toInt ∧ k.toInt ≤ b
def own_SI (f : Nat → Int32) (k : Int32) : Prop := (∀ i, i < 32 → 0 ≤ (f i).toInt ∧ (f i).toInt ≤ k.toInt) ∧ ∀ i j, i < 32 → j < 32 → f i = f j → f i ≠ 0 → i = j
theorem own_inj {x y : Int32} (h : x.toInt = y.toInt) : x = y := Int32.toInt_inj.mp h
theorem own_K012 {k : Int32} (h : own_K k 2) : k = 0 ∨ k = 1 ∨ k = 2 := by
  obtain ⟨h1, h2⟩ := h
  have : k.toInt = 0 ∨ k.toInt = 1 ∨ k.toInt = 2 := by omega
  rcases this with q | q | q
  · exact Or.inl (own_inj q)
  · exact Or.inr (Or.inl (own_inj q))
  · exact Or.inr (Or.inr (own_inj q))
theorem own_K_succ {k k' : Int32} {b : Nat} (h : own_K k b) (hb : b ≤ 2) (q : k' = k ∨ k' = k + 1) : own_K k' (b + 1) := by
  obtain ⟨h1, h2⟩ := h
  rcases q with rfl | rfl
  · exact ⟨h1, by omega⟩
  · have e : (k + 1).toInt = k.toInt + 1 := by
      rw [Int32.toInt_add, show (1 : Int32).toInt = 1 from rfl]
      exact Int.bmod_eq_of_le (by omega) (by omega)
    exact ⟨by omega, by omega⟩
theorem own_and3 (x : Int32) : own_hW (x &&& 3) := by
  have h : ∀ y : Int32, y.toInt = 0 ∨ y.toInt = 1 ∨ y.toInt = 2 ∨ y.toInt = 3 → own_hW y := fun y q => by
    rcases q with q | q | q | q
    · exact Or.inl (own_inj q)
    · exact Or.inr (Or.inl (own_inj q))
    · exact Or.inr (Or.inr (Or.inl (own_inj q)))
    · exact Or.inr (Or.inr (Or.inr (own_inj q)))
  refine h _ ?_
  have e : (x &&& 3).toBitVec = x.toBitVec &&& 3#32 := rfl
  have l : (x &&& 3).toBitVec.toNat < 4 := by
    rw [e, BitVec.toNat_and]; exact Nat.lt_of_le_of_lt Nat.and_le_right (by decide)
  have t : (x &&& 3).toInt = (x &&& 3).toBitVec.toNat := by
    show (x &&& 3).toBitVec.toInt = _
    rw [BitVec.toInt_eq_toNat_of_lt (by omega)]
  omega
theorem own_and31 {x v : Int32} (h : x &&& 31 = v) : ¬ v < 0 ∧ v.toNatClampNeg < 32 ∧ v = Int32.ofNat v.toNatClampNeg := by
  subst h
  have e : (x &&& 31).toBitVec = x.toBitVec &&& 31#32 := rfl
  have l : (x &&& 31).toBitVec.toNat < 32 := by
    rw [e, BitVec.toNat_and]; exact Nat.lt_of_le_of_lt Nat.and_le_right (by decide)
  have t : (x &&& 31).toInt = (x &&& 31).toBitVec.toNat := by
    show (x &&& 31).toBitVec.toInt = _
    rw [BitVec.toInt_eq_toNat_of_lt (by omega)]
  have u : (x &&& 31).toNatClampNeg < 32 := by simp only [Int32.toNatClampNeg]; omega
  refine ⟨?_, u, own_inj ?_⟩
  · rw [Int32.lt_iff_toInt_lt, t]; have : (0 : Int32).toInt = 0 := rfl; omega
  · rw [Int32.toInt_ofNat_of_lt (by omega)]; simp only [Int32.toNatClampNeg]; omega
theorem own_nxt : ∀ n : Fin 32, (((Int32.ofNat n.val + 1) &&& 31).toNatClampNeg ≠ n.val) ∧ ((((Int32.ofNat n.val + 1) &&& 31) + 1) &&& 31).toNatClampNeg ≠ n.val := by decide +kernel
theorem own_third {f : Nat → Int32} {k u v w : Int32} (S : own_SI f k) (hk : own_K k 2) (hu : ¬ u < 0 ∧ u.toNatClampNeg < 32 ∧ u = Int32.ofNat u.toNatClampNeg) (hv : (u + 1) &&& 31 = v) (hw : (v + 1) &&& 31 = w)
    (n1 : ¬ f u.toNatClampNeg = 0) (n2 : ¬ f v.toNatClampNeg = 0) : f w.toNatClampNeg = 0 := by
  obtain ⟨S1, S2⟩ := S
  have bv := own_and31 hv
  have bw := own_and31 hw
  have d1 := (own_nxt ⟨u.toNatClampNeg, hu.2.1⟩).1
  have d2 := (own_nxt ⟨u.toNatClampNeg, hu.2.1⟩).2
  have d3 := (own_nxt ⟨v.toNatClampNeg, bv.2.1⟩).1
  simp only at d1 d2 d3
  rw [← hu.2.2] at d1 d2
  rw [← bv.2.2] at d3
  rw [hv] at d1 d2
  rw [hw] at d2 d3
  have a1 := S1 _ hu.2.1
  have a2 := S1 _ bv.2.1
  have a3 := S1 _ bw.2.1
  have c1 : (f u.toNatClampNeg).toInt ≠ (f v.toNatClampNeg).toInt := fun q => d1 (S2 _ _ hu.2.1 bv.2.1 (own_inj q) n1).symm
  have z : ∀ x : Int32, x ≠ 0 → x.toInt ≠ 0 := fun x q r => q (own_inj (y := 0) r)
  have m1 := z _ n1
  have m2 := z _ n2
  obtain ⟨k1, k2⟩ := hk
  by_cases q : f w.toNatClampNeg = 0
  · exact q
  · have m3 := z _ q
    have c2 : (f w.toNatClampNeg).toInt ≠ (f u.toNatClampNeg).toInt := fun r => d2 (S2 _ _ bw.2.1 hu.2.1 (own_inj r) q)
    have c3 : (f w.toNatClampNeg).toInt ≠ (f v.toNatClampNeg).toInt := fun r => d3 (S2 _ _ bw.2.1 bv.2.1 (own_inj r) q)
    omega
theorem own_val {f : Nat → Int32} {k : Int32} {i : Nat} (S : own_SI f k) (hk : own_K k 2) (hi : i < 32) (n1 : ¬ f i = 0) : (f i = 1 ∨ f i = 2) ∧ (f i).toInt ≤ k.toInt := by
  have a := S.1 i hi
  have z : (f i).toInt ≠ 0 := fun r => n1 (own_inj (y := 0) r)
  obtain ⟨k1, k2⟩ := hk
  have : (f i).toInt = 1 ∨ (f i).toInt = 2 := by omega
  exact ⟨this.elim (fun q => Or.inl (own_inj q)) (fun q => Or.inr (own_inj q)), a.2⟩
/-- a number below 3 and a width: where her words lie -/
def own_at (n W : Int32) : Prop := ¬ n < 0 ∧ n.toNatClampNeg < 3 ∧ ¬ (n * W) < 0 ∧ (n * W).toInt = ((n.toNatClampNeg * W.toNatClampNeg : Nat) : Int) ∧ (n * W).toNatClampNeg = n.toNatClampNeg * W.toNatClampNeg ∧ n.toNatClampNeg * W.toNatClampNeg + W.toNatClampNeg ≤ own_nw W ∧ n.toNatClampNeg * W.toNatClampNeg + 3 < 2147483648
theorem own_at_of {n W : Int32} (hW : own_hW W) (hn : n = 0 ∨ n = 1 ∨ n = 2) : own_at n W := by
  rcases hW with rfl | rfl | rfl | rfl <;> rcases hn with rfl | rfl | rfl <;> (unfold own_at own_nw; decide +kernel)
theorem own_at_val {f : Nat → Int32} {k W : Int32} {i : Nat} (hW : own_hW W) (S : own_SI f k) (hk : own_K k 2) (hi : i < 32) (n1 : ¬ f i = 0) : own_at (f i - 1) W := by
  rcases (own_val S hk hi n1).1 with q | q
  · rw [q]; exact own_at_of hW (Or.inl (by decide))
  · rw [q]; exact own_at_of hW (Or.inr (Or.inl (by decide)))
theorem own_hWn {W : Int32} (hW : own_hW W) : ¬ W < 0 ∧ W.toNatClampNeg ≤ 3 ∧ ¬ (3 : Int32) < W ∧ ¬ ((16 : Int32) * W) < 0 ∧ ((16 : Int32) * W).toNatClampNeg = own_nw W ∧ ((16 : Int32) * W).toNatClampNeg ≤ 48 ∧ (own_nw W).toInt32 = (16 : Int32) * W := by
  rcases hW with rfl | rfl | rfl | rfl <;> (unfold own_nw; decide +kernel)
theorem own_ix {x k : Int32} {q i : Nat} (hx : x.toInt = (q : Int)) (hk : k.toInt = (i : Int)) (hb : q + i < 2147483648) : ¬ (x + k) < 0 ∧ (x + k).toNatClampNeg = q + i := by
  have e : (x + k).toInt = ((q + i : Nat) : Int) := by
    rw [Int32.toInt_add, hx, hk, Int.bmod_eq_of_le (by omega) (by omega)]; omega
  refine ⟨?_, by simp only [Int32.toNatClampNeg, e]; omega⟩
  rw [Int32.lt_iff_toInt_lt, e]; have : (0 : Int32).toInt = 0 := rfl; omega
theorem own_ltW {W : Int32} (hW : own_hW W) : ((0 : Int32) < W ↔ 0 < W.toNatClampNeg) ∧ ((1 : Int32) < W ↔ 1 < W.toNatClampNeg) ∧ ((2 : Int32) < W ↔ 2 < W.toNatClampNeg) := by
  rcases hW with rfl | rfl | rfl | rfl <;> decide +kernel
theorem own_all0 {P : Nat → Prop} {n : Nat} (h : ¬ 0 < n) : ∀ i, i < n → P i := fun i hi => absurd hi (by omega)
theorem own_all1 {P : Nat → Prop} {n : Nat} (h : ¬ 1 < n) (p0 : P 0) : ∀ i, i < n → P i := fun i hi => by
  obtain rfl : i = 0 := by omega
  exact p0
theorem own_all2 {P : Nat → Prop} {n : Nat} (h : ¬ 2 < n) (p0 : P 0) (p1 : P 1) : ∀ i, i < n → P i := fun i hi => by
  have : i = 0 ∨ i = 1 := by omega
  rcases this with rfl | rfl
  · exact p0
  · exact p1
theorem own_all3 {P : Nat → Prop} {n : Nat} (h : n ≤ 3) (p0 : P 0) (p1 : P 1) (p2 : P 2) : ∀ i, i < n → P i := fun i hi => by
  have : i = 0 ∨ i = 1 ∨ i = 2 := by omega
  rcases this with rfl | rfl | rfl
  · exact p0
  · exact p1
  · exact p2
theorem own_grow {k W : Int32} (hW : own_hW W) (hk : own_K k 2) : ¬ ((16 : Int32) * W).toInt64 < ((k + 1).toInt64 * W.toInt64) ∧ ¬ (32 : Int32).toInt64 < ((2 : Int64) * (k + 1).toInt64) := by
  rcases hW with rfl | rfl | rfl | rfl <;> rcases own_K012 hk with rfl | rfl | rfl <;> decide +kernel
def own_R (W k k' r : Int32) (fw fw' : Nat → Int64) (fl : Nat → Int32) (fb : Nat → Int64) : Prop :=
  (k' = k ∨ k' = k + 1) ∧ own_SI fl k' ∧ (∀ i, i < k.toNatClampNeg * W.toNatClampNeg → fw' i = fw i) ∧ (r = 0 ∨ r = 1 ∨ r = 2) ∧ r.toNatClampNeg < k'.toNatClampNeg ∧ ∀ i, i < W.toNatClampNeg → fw' (r.toNatClampNeg * W.toNatClampNeg + i) = fb i
theorem own_found {W k : Int32} {fw fb : Nat → Int64} {fl : Nat → Int32} {i : Nat} (hk : own_K k 2) (S : own_SI fl k) (hi : i < 32) (n1 : ¬ fl i = 0) (h : ∀ j, j < W.toNatClampNeg → fw ((fl i - 1).toNatClampNeg * W.toNatClampNeg + j) = fb j) : own_R W k k (fl i - 1) fw fw fl fb := by
  obtain ⟨a, b⟩ := own_val S hk hi n1
  refine ⟨Or.inl rfl, S, fun _ _ => rfl, ?_, ?_, h⟩
  · rcases a with q | q <;> rw [q]
    · exact Or.inl (by decide)
    · exact Or.inr (Or.inl (by decide))
  · rcases a with q | q <;> rw [q] at b ⊢
    · have : ((1 : Int32) - 1).toNatClampNeg = 0 := by decide
      have e : (1 : Int32).toInt = 1 := rfl
      rw [this]; simp only [Int32.toNatClampNeg]; omega
    · have : ((2 : Int32) - 1).toNatClampNeg = 1 := by decide
      have e : (2 : Int32).toInt = 2 := rfl
      rw [this]; simp only [Int32.toNatClampNeg]; omega
theorem own_put {W k : Int32} {fw fb : Nat → Int64} {fl : Nat → Int32} {i : Nat} (hk : own_K k 2) (S : own_SI fl k) (hi : i < 32) (n1 : fl i = 0) :
    own_R W k (k + 1) ((k + 1) - 1) fw (fun j => if k.toNatClampNeg * W.toNatClampNeg ≤ j ∧ j < k.toNatClampNeg * W.toNatClampNeg + W.toNatClampNeg then fb (0 + (j - k.toNatClampNeg * W.toNatClampNeg)) else fw j) (fun j => if j = i then (k + 1) else fl j) fb := by
  have e1 : ((k + 1) - 1).toNatClampNeg = k.toNatClampNeg := by rcases own_K012 hk with rfl | rfl | rfl <;> decide
  have e2 : (k + 1).toNatClampNeg = k.toNatClampNeg + 1 := by rcases own_K012 hk with rfl | rfl | rfl <;> decide
  have e3 : (k + 1).toInt = k.toInt + 1 := by rcases own_K012 hk with rfl | rfl | rfl <;> decide
  have z : ∀ x : Int32, x ≠ 0 → x.toInt ≠ 0 := fun x q r => q (own_inj (y := 0) r)
  refine ⟨Or.inr rfl, ⟨fun j hj => ?_, fun j j' hj hj' q r => ?_⟩, fun j hj => ?_, ?_, by rw [e1, e2]; omega, fun j hj => ?_⟩
  · obtain ⟨k1, k2⟩ := hk
    have := S.1 j hj
    dsimp only
    by_cases q : j = i
    · rw [if_pos q, e3]; omega
    · rw [if_neg q, e3]; omega
  · simp only at q r
    by_cases c1 : j = i
    · by_cases c2 : j' = i
      · rw [c1, c2]
      · rw [if_pos c1, if_neg c2] at q
        have := (S.1 j' hj').2
        rw [← q, e3] at this; omega
    · by_cases c2 : j' = i
      · rw [if_neg c1, if_pos c2] at q
        have := (S.1 j hj).2
        rw [q, e3] at this; omega
      · rw [if_neg c1] at q r
        rw [if_neg c2] at q
        exact S.2 j j' hj hj' q r
  · exact if_neg (by omega)
  · rcases own_K012 hk with rfl | rfl | rfl
    · exact Or.inl (by decide)
    · exact Or.inr (Or.inl (by decide))
    · exact Or.inr (Or.inr (by decide))
  · rw [e1]
    show (if _ then _ else _) = _
    rw [if_pos (by omega)]
    congr 1; omega
theorem own_chain {n r k k' : Nat} {fw fw' fb : Nat → Int64} (h : ∀ i, i < n → fw (r * n + i) = fb i) (hr : r < k) (q : ∀ i, i < k * n → fw' i = fw i) : ∀ i, i < n → fw' (r * n + i) = fb i := fun i hi => by
  rw [q _ ?_, h i hi]
  have : (r + 1) * n ≤ k * n := Nat.mul_le_mul_right n hr
  rw [Nat.add_mul, Nat.one_mul] at this
  omega
theorem own_kle {k k' : Int32} {b : Nat} (h : own_K k b) (hb : b ≤ 2) (q : k' = k ∨ k' = k + 1) : k.toNatClampNeg ≤ k'.toNatClampNeg := by
  rcases q with rfl | rfl
  · exact Nat.le_refl _
  · have h2 : own_K k 2 := ⟨h.1, by have := h.2; omega⟩
    rcases own_K012 h2 with rfl | rfl | rfl <;> decide
theorem own_fin {W : Int32} {fw fb fi : Nat → Int64} {q : Nat} {sn : Int64} (hW : own_hW W) (h : ∀ i, i < W.toNatClampNeg → fw (q + i) = fb i) (h0 : fi 0 = sn) (h1 : fi 1 = sn) (h2 : fi 2 = sn) (g : Nat → Int64) (hg : g = fun i => if 0 ≤ i ∧ i < 0 + W.toNatClampNeg then fw (q + (i - 0)) else fi i) :
    g 0 = (if (0 : Int32) < W then fb 0 else sn) ∧ g 1 = (if (1 : Int32) < W then fb 1 else sn) ∧ g 2 = (if (2 : Int32) < W then fb 2 else sn) := by
  subst hg
  obtain ⟨a, b, c⟩ := own_ltW hW
  have t : ∀ (i : Nat) (P : Prop) [Decidable P], fi i = sn → (P ↔ i < W.toNatClampNeg) → (if 0 ≤ i ∧ i < 0 + W.toNatClampNeg then fw (q + (i - 0)) else fi i) = if P then fb i else sn := fun i P _ e hp => by
    by_cases hP : P
    · rw [if_pos hP, if_pos ⟨Nat.zero_le _, by have := hp.mp hP; omega⟩]; exact h i (hp.mp hP)
    · rw [if_neg hP, if_neg (fun z => hP (hp.mpr (by omega))), e]
  exact ⟨t 0 _ h0 a, t 1 _ h1 b, t 2 _ h2 c⟩
theorem own_ne {x y : Nat} (h : x < y ∨ y < x) : x ≠ y := by omega

theorem pn_own_mat : plainFor (⟨"com/example/libbuchi/libbuchi/automata/PackedStatesGetPinLaw", "matches", "([J[JIJ)Z"⟩ : MethodName) = true := by first | exact plainFor_of_name (by first | (simp [plainName, overriddenIn]; done) | decide +kernel) | decide +kernel
theorem down_mat_0 : decode method_2_code 0 = .ok (.iconst 0, 1) := by decide +kernel
theorem down_mat_1 : decode method_2_code 1 = .ok (.iload_n 2, 1) := by decide +kernel
theorem down_mat_2 : decode method_2_code 2 = .ok (.if_icmp .ge 21, 3) := by decide +kernel
theorem down_mat_5 : decode method_2_code 5 = .ok (.aload_n 0, 1) := by decide +kernel
theorem down_mat_6 : decode method_2_code 6 = .ok (.iconst 0, 1) := by decide +kernel
theorem down_mat_7 : decode method_2_code 7 = .ok (.laload, 1) := by decide +kernel
theorem down_mat_8 : decode method_2_code 8 = .ok (.aload_n 1, 1) := by decide +kernel
theorem down_mat_9 : decode method_2_code 9 = .ok (.iconst 0, 1) := by decide +kernel
theorem down_mat_10 : decode method_2_code 10 = .ok (.laload, 1) := by decide +kernel
theorem down_mat_11 : decode method_2_code 11 = .ok (.lcmp, 1) := by decide +kernel
theorem down_mat_12 : decode method_2_code 12 = .ok (.ifCond .ne 7, 3) := by decide +kernel
theorem down_mat_15 : decode method_2_code 15 = .ok (.iconst 1, 1) := by decide +kernel
theorem down_mat_16 : decode method_2_code 16 = .ok (.goto 20, 3) := by decide +kernel
theorem down_mat_23 : decode method_2_code 23 = .ok (.aload_n 0, 1) := by decide +kernel
theorem down_mat_24 : decode method_2_code 24 = .ok (.iconst 0, 1) := by decide +kernel
theorem down_mat_25 : decode method_2_code 25 = .ok (.laload, 1) := by decide +kernel
theorem down_mat_26 : decode method_2_code 26 = .ok (.lload_n 3, 1) := by decide +kernel
theorem down_mat_27 : decode method_2_code 27 = .ok (.lcmp, 1) := by decide +kernel
theorem down_mat_28 : decode method_2_code 28 = .ok (.ifCond .ne 7, 3) := by decide +kernel
theorem down_mat_31 : decode method_2_code 31 = .ok (.iconst 1, 1) := by decide +kernel
theorem down_mat_32 : decode method_2_code 32 = .ok (.goto 4, 3) := by decide +kernel
theorem down_mat_36 : decode method_2_code 36 = .ok (.istore 5, 2) := by decide +kernel
theorem down_mat_38 : decode method_2_code 38 = .ok (.iconst 1, 1) := by decide +kernel
theorem down_mat_39 : decode method_2_code 39 = .ok (.iload_n 2, 1) := by decide +kernel
theorem down_mat_40 : decode method_2_code 40 = .ok (.if_icmp .ge 21, 3) := by decide +kernel
theorem down_mat_43 : decode method_2_code 43 = .ok (.aload_n 0, 1) := by decide +kernel
theorem down_mat_44 : decode method_2_code 44 = .ok (.iconst 1, 1) := by decide +kernel
theorem down_mat_45 : decode method_2_code 45 = .ok (.laload, 1) := by decide +kernel
theorem down_mat_46 : decode method_2_code 46 = .ok (.aload_n 1, 1) := by decide +kernel
theorem down_mat_47 : decode method_2_code 47 = .ok (.iconst 1, 1) := by decide +kernel
theorem down_mat_48 : decode method_2_code 48 = .ok (.laload, 1) := by decide +kernel
theorem down_mat_49 : decode method_2_code 49 = .ok (.lcmp, 1) := by decide +kernel
theorem down_mat_50 : decode method_2_code 50 = .ok (.ifCond .ne 7, 3) := by decide +kernel
theorem down_mat_53 : decode method_2_code 53 = .ok (.iconst 1, 1) := by decide +kernel
theorem down_mat_54 : decode method_2_code 54 = .ok (.goto 20, 3) := by decide +kernel
theorem down_mat_61 : decode method_2_code 61 = .ok (.aload_n 0, 1) := by decide +kernel
theorem down_mat_62 : decode method_2_code 62 = .ok (.iconst 1, 1) := by decide +kernel
theorem down_mat_63 : decode method_2_code 63 = .ok (.laload, 1) := by decide +kernel
theorem down_mat_64 : decode method_2_code 64 = .ok (.lload_n 3, 1) := by decide +kernel
theorem down_mat_65 : decode method_2_code 65 = .ok (.lcmp, 1) := by decide +kernel
theorem down_mat_66 : decode method_2_code 66 = .ok (.ifCond .ne 7, 3) := by decide +kernel
theorem down_mat_69 : decode method_2_code 69 = .ok (.iconst 1, 1) := by decide +kernel
theorem down_mat_70 : decode method_2_code 70 = .ok (.goto 4, 3) := by decide +kernel
theorem down_mat_74 : decode method_2_code 74 = .ok (.istore 6, 2) := by decide +kernel
theorem down_mat_76 : decode method_2_code 76 = .ok (.iconst 2, 1) := by decide +kernel
theorem down_mat_77 : decode method_2_code 77 = .ok (.iload_n 2, 1) := by decide +kernel
theorem down_mat_78 : decode method_2_code 78 = .ok (.if_icmp .ge 21, 3) := by decide +kernel
theorem down_mat_81 : decode method_2_code 81 = .ok (.aload_n 0, 1) := by decide +kernel
theorem down_mat_82 : decode method_2_code 82 = .ok (.iconst 2, 1) := by decide +kernel
theorem down_mat_83 : decode method_2_code 83 = .ok (.laload, 1) := by decide +kernel
theorem down_mat_84 : decode method_2_code 84 = .ok (.aload_n 1, 1) := by decide +kernel
theorem down_mat_85 : decode method_2_code 85 = .ok (.iconst 2, 1) := by decide +kernel
theorem down_mat_86 : decode method_2_code 86 = .ok (.laload, 1) := by decide +kernel
theorem down_mat_87 : decode method_2_code 87 = .ok (.lcmp, 1) := by decide +kernel
theorem down_mat_88 : decode method_2_code 88 = .ok (.ifCond .ne 7, 3) := by decide +kernel
theorem down_mat_91 : decode method_2_code 91 = .ok (.iconst 1, 1) := by decide +kernel
theorem down_mat_92 : decode method_2_code 92 = .ok (.goto 20, 3) := by decide +kernel
theorem down_mat_99 : decode method_2_code 99 = .ok (.aload_n 0, 1) := by decide +kernel
theorem down_mat_100 : decode method_2_code 100 = .ok (.iconst 2, 1) := by decide +kernel
theorem down_mat_101 : decode method_2_code 101 = .ok (.laload, 1) := by decide +kernel
theorem down_mat_102 : decode method_2_code 102 = .ok (.lload_n 3, 1) := by decide +kernel
theorem down_mat_103 : decode method_2_code 103 = .ok (.lcmp, 1) := by decide +kernel
theorem down_mat_104 : decode method_2_code 104 = .ok (.ifCond .ne 7, 3) := by decide +kernel
theorem down_mat_107 : decode method_2_code 107 = .ok (.iconst 1, 1) := by decide +kernel
theorem down_mat_108 : decode method_2_code 108 = .ok (.goto 4, 3) := by decide +kernel
theorem down_mat_112 : decode method_2_code 112 = .ok (.istore 7, 2) := by decide +kernel
theorem down_mat_114 : decode method_2_code 114 = .ok (.iload 5, 2) := by decide +kernel
theorem down_mat_116 : decode method_2_code 116 = .ok (.ifCond .eq 17, 3) := by decide +kernel
theorem down_mat_119 : decode method_2_code 119 = .ok (.iload 6, 2) := by decide +kernel
theorem down_mat_121 : decode method_2_code 121 = .ok (.ifCond .eq 12, 3) := by decide +kernel
theorem down_mat_124 : decode method_2_code 124 = .ok (.iload 7, 2) := by decide +kernel
theorem down_mat_126 : decode method_2_code 126 = .ok (.ifCond .eq 7, 3) := by decide +kernel
theorem down_mat_129 : decode method_2_code 129 = .ok (.iconst 1, 1) := by decide +kernel
theorem down_mat_130 : decode method_2_code 130 = .ok (.goto 4, 3) := by decide +kernel
theorem down_mat_134 : decode method_2_code 134 = .ok (.ireturn, 1) := by decide +kernel
def Q_own_mat (Z : State) (W : Int32) (sn : Int64) (b1 b2 : Addr) (f1 f2 : Nat → Int64) (h0 : Heap) (n0 : Nat) (v : Option Value) (h : Heap) (L : List Loc) : Prop := v = some (.int 1) ∧ L = [] ∧ h = h0
set_option maxRecDepth 65536 in
set_option maxHeartbeats 40000000 in
theorem own_mat (l : Launch) (Z : State) (a0 : Array Value) (hw : ∀ d ∈ tables_1, d.before a0 Z = true) (ws : List Jvm.Cond) (W : Int32) (sn : Int64) (b1 b2 : Addr) (f1 f2 : Nat → Int64) (h0 : Heap) (n0 : Nat) (F1 : own_AJ Z h0 b1 3 f1) (F2 : own_AJ Z h0 b2 3 f2) (H0 : f1 0 = (if (0 : Int32) < W then f2 0 else sn)) (H1 : f1 1 = (if (1 : Int32) < W then f2 1 else sn)) (H2 : f1 2 = (if (2 : Int32) < W then f2 2 else sn)) :
    MetFree l (⟨"com/example/libbuchi/libbuchi/automata/PackedStatesGetPinLaw", "matches", "([J[JIJ)Z"⟩ : MethodName) (head1 (Jvm.Cond.code (⟨"com/example/libbuchi/libbuchi/automata/PackedStatesGetPinLaw", "matches", "([J[JIJ)Z"⟩ : MethodName) method_2_code 8 (some (.boolean)) :: ws) ({ frames := 0, cells := 0, slots := 0, locals := 0 } : Room)) (fun aa U => aa = #[(.ref b1), (.ref b2), (.int W), (.long sn)] ∧ Z.Warmed39 U.vm ∧ U.heap = h0) (fun _ _ _ _ _ => True) (fun _ U o U' => ∃ v L, o = .returned v ∧ Q_own_mat Z W sn b1 b2 f1 f2 h0 n0 v U'.heap L ∧ FrameEnd U o U' L ({ frames := 0, cells := 0, slots := 0, locals := 0 } : Room).cells ({ frames := 0, cells := 0, slots := 0, locals := 0 } : Room).slots) := by
  refine own_body (x := (⟨"com/example/libbuchi/libbuchi/automata/PackedStatesGetPinLaw", "matches", "([J[JIJ)Z"⟩ : MethodName)) (maxL := 8) (as' := #[(.ref b1), (.ref b2), (.int W), (.long sn)]) (Q := Q_own_mat Z W sn b1 b2 f1 f2 h0 n0) pn_own_mat #[.val (.ref b1), .val (.ref b2), .val (.int W), .val (.long sn), .second, .unset, .unset, .unset] (fun m => by first | (simp [entryFrame, mkF, argsToLocals, Value.category]; done) | rfl) ?_
  intro p e s m below meth c T0 X0 hx hby hml hret hlk hown hnm hZ e0
  replace hml : c.maxLocals = 8 := hml
  replace hown : s.vm.findClass "com/example/libbuchi/libbuchi/automata/PackedStatesGetPinLaw" = some m.cls := hown
  have N0 := Fr.nil n0
  refine own_st (G := T0.setTop (mkF m 1 #[.val (.ref b1), .val (.ref b2), .val (.int W), .val (.long sn), .second, .unset, .unset, .unset] [(.int (0 : Int32))])) (fun _ kk => XT.iconstV X0.here hx rfl (0 : Int32) (hb hby down_mat_0) (by decide) kk) ?_
  refine own_st (G := T0.setTop (mkF m 2 #[.val (.ref b1), .val (.ref b2), .val (.int W), .val (.long sn), .second, .unset, .unset, .unset] [(.int W), (.int (0 : Int32))])) (fun _ kk => XS.iloadN X0.here hx rfl (hb hby down_mat_1) rfl kk) ?_
  have j36 : own_Out p e below (own_Q (Q_own_mat Z W sn b1 b2 f1 f2 h0 n0) s ({ frames := 0, cells := 0, slots := 0, locals := 0 } : Room).cells ({ frames := 0, cells := 0, slots := 0, locals := 0 } : Room).slots) (T0.setTop (mkF m 36 #[.val (.ref b1), .val (.ref b2), .val (.int W), .val (.long sn), .second, .unset, .unset, .unset] [(.int (1 : Int32))])) := by
    refine own_st (G := T0.setTop (mkF m 38 #[.val (.ref b1), .val (.ref b2), .val (.int W), .val (.long sn), .second, .val (.int (1 : Int32)), .unset, .unset] [])) (fun _ kk => XS.istore X0.here hx rfl (hb hby down_mat_36) rfl (l' := #[.val (.ref b1), .val (.ref b2), .val (.int W), .val (.long sn), .second, .val (.int (1 : Int32)), .unset, .unset]) rfl kk) ?_
    refine own_st (G := T0.setTop (mkF m 39 #[.val (.ref b1), .val (.ref b2), .val (.int W), .val (.long sn), .second, .val (.int (1 : Int32)), .unset, .unset] [(.int (1 : Int32))])) (fun _ kk => XT.iconstV X0.here hx rfl (1 : Int32) (hb hby down_mat_38) (by decide) kk) ?_
    refine own_st (G := T0.setTop (mkF m 40 #[.val (.ref b1), .val (.ref b2), .val (.int W), .val (.long sn), .second, .val (.int (1 : Int32)), .unset, .unset] [(.int W), (.int (1 : Int32))])) (fun _ kk => XS.iloadN X0.here hx rfl (hb hby down_mat_39) rfl kk) ?_
    have j74 : own_Out p e below (own_Q (Q_own_mat Z W sn b1 b2 f1 f2 h0 n0) s ({ frames := 0, cells := 0, slots := 0, locals := 0 } : Room).cells ({ frames := 0, cells := 0, slots := 0, locals := 0 } : Room).slots) (T0.setTop (mkF m 74 #[.val (.ref b1), .val (.ref b2), .val (.int W), .val (.long sn), .second, .val (.int (1 : Int32)), .unset, .unset] [(.int (1 : Int32))])) := by
      refine own_st (G := T0.setTop (mkF m 76 #[.val (.ref b1), .val (.ref b2), .val (.int W), .val (.long sn), .second, .val (.int (1 : Int32)), .val (.int (1 : Int32)), .unset] [])) (fun _ kk => XS.istore X0.here hx rfl (hb hby down_mat_74) rfl (l' := #[.val (.ref b1), .val (.ref b2), .val (.int W), .val (.long sn), .second, .val (.int (1 : Int32)), .val (.int (1 : Int32)), .unset]) rfl kk) ?_
      refine own_st (G := T0.setTop (mkF m 77 #[.val (.ref b1), .val (.ref b2), .val (.int W), .val (.long sn), .second, .val (.int (1 : Int32)), .val (.int (1 : Int32)), .unset] [(.int (2 : Int32))])) (fun _ kk => XT.iconstV X0.here hx rfl (2 : Int32) (hb hby down_mat_76) (by decide) kk) ?_
      refine own_st (G := T0.setTop (mkF m 78 #[.val (.ref b1), .val (.ref b2), .val (.int W), .val (.long sn), .second, .val (.int (1 : Int32)), .val (.int (1 : Int32)), .unset] [(.int W), (.int (2 : Int32))])) (fun _ kk => XS.iloadN X0.here hx rfl (hb hby down_mat_77) rfl kk) ?_
      have j112 : own_Out p e below (own_Q (Q_own_mat Z W sn b1 b2 f1 f2 h0 n0) s ({ frames := 0, cells := 0, slots := 0, locals := 0 } : Room).cells ({ frames := 0, cells := 0, slots := 0, locals := 0 } : Room).slots) (T0.setTop (mkF m 112 #[.val (.ref b1), .val (.ref b2), .val (.int W), .val (.long sn), .second, .val (.int (1 : Int32)), .val (.int (1 : Int32)), .unset] [(.int (1 : Int32))])) := by
        refine own_st (G := T0.setTop (mkF m 114 #[.val (.ref b1), .val (.ref b2), .val (.int W), .val (.long sn), .second, .val (.int (1 : Int32)), .val (.int (1 : Int32)), .val (.int (1 : Int32))] [])) (fun _ kk => XS.istore X0.here hx rfl (hb hby down_mat_112) rfl (l' := #[.val (.ref b1), .val (.ref b2), .val (.int W), .val (.long sn), .second, .val (.int (1 : Int32)), .val (.int (1 : Int32)), .val (.int (1 : Int32))]) rfl kk) ?_
        refine own_st (G := T0.setTop (mkF m 116 #[.val (.ref b1), .val (.ref b2), .val (.int W), .val (.long sn), .second, .val (.int (1 : Int32)), .val (.int (1 : Int32)), .val (.int (1 : Int32))] [(.int (1 : Int32))])) (fun _ kk => XS.iload X0.here hx rfl (hb hby down_mat_114) rfl kk) ?_
        refine own_st (G := T0.setTop (mkF m 119 #[.val (.ref b1), .val (.ref b2), .val (.int W), .val (.long sn), .second, .val (.int (1 : Int32)), .val (.int (1 : Int32)), .val (.int (1 : Int32))] [])) (fun _ kk => XS.ifNo X0.here hx rfl (hb hby down_mat_116) rfl (XT.i0_eq_f (by decide : ¬ (1 : Int32) = (0 : Int32))) kk) ?_
        refine own_st (G := T0.setTop (mkF m 121 #[.val (.ref b1), .val (.ref b2), .val (.int W), .val (.long sn), .second, .val (.int (1 : Int32)), .val (.int (1 : Int32)), .val (.int (1 : Int32))] [(.int (1 : Int32))])) (fun _ kk => XS.iload X0.here hx rfl (hb hby down_mat_119) rfl kk) ?_
        refine own_st (G := T0.setTop (mkF m 124 #[.val (.ref b1), .val (.ref b2), .val (.int W), .val (.long sn), .second, .val (.int (1 : Int32)), .val (.int (1 : Int32)), .val (.int (1 : Int32))] [])) (fun _ kk => XS.ifNo X0.here hx rfl (hb hby down_mat_121) rfl (XT.i0_eq_f (by decide : ¬ (1 : Int32) = (0 : Int32))) kk) ?_
        refine own_st (G := T0.setTop (mkF m 126 #[.val (.ref b1), .val (.ref b2), .val (.int W), .val (.long sn), .second, .val (.int (1 : Int32)), .val (.int (1 : Int32)), .val (.int (1 : Int32))] [(.int (1 : Int32))])) (fun _ kk => XS.iload X0.here hx rfl (hb hby down_mat_124) rfl kk) ?_
        refine own_st (G := T0.setTop (mkF m 129 #[.val (.ref b1), .val (.ref b2), .val (.int W), .val (.long sn), .second, .val (.int (1 : Int32)), .val (.int (1 : Int32)), .val (.int (1 : Int32))] [])) (fun _ kk => XS.ifNo X0.here hx rfl (hb hby down_mat_126) rfl (XT.i0_eq_f (by decide : ¬ (1 : Int32) = (0 : Int32))) kk) ?_
        refine own_st (G := T0.setTop (mkF m 130 #[.val (.ref b1), .val (.ref b2), .val (.int W), .val (.long sn), .second, .val (.int (1 : Int32)), .val (.int (1 : Int32)), .val (.int (1 : Int32))] [(.int (1 : Int32))])) (fun _ kk => XT.iconstV X0.here hx rfl (1 : Int32) (hb hby down_mat_129) (by decide) kk) ?_
        refine own_st (G := T0.setTop (mkF m 134 #[.val (.ref b1), .val (.ref b2), .val (.int W), .val (.long sn), .second, .val (.int (1 : Int32)), .val (.int (1 : Int32)), .val (.int (1 : Int32))] [(.int (1 : Int32))])) (fun _ kk => XS.goto X0.here hx rfl (pc0 := 130) (pc' := 134) rfl (hb hby down_mat_130) (by decide) (by decide) kk) ?_
        refine own_retB X0 hx hret (by simp) hlk (hb hby down_mat_134) (by decide) (by decide) ?_
        exact ⟨rfl, rfl, e0⟩
      by_cases hc1 : (2 : Int32) < W
      · skip
        refine own_st (G := T0.setTop (mkF m 81 #[.val (.ref b1), .val (.ref b2), .val (.int W), .val (.long sn), .second, .val (.int (1 : Int32)), .val (.int (1 : Int32)), .unset] [])) (fun _ kk => XS.icmpNo X0.here hx rfl (hb hby down_mat_78) rfl (XT.ii_ge_f hc1) kk) ?_
        refine own_st (G := T0.setTop (mkF m 82 #[.val (.ref b1), .val (.ref b2), .val (.int W), .val (.long sn), .second, .val (.int (1 : Int32)), .val (.int (1 : Int32)), .unset] [(.ref b1)])) (fun _ kk => XS.aloadN X0.here hx rfl (hb hby down_mat_81) rfl rfl kk) ?_
        refine own_st (G := T0.setTop (mkF m 83 #[.val (.ref b1), .val (.ref b2), .val (.int W), .val (.long sn), .second, .val (.int (1 : Int32)), .val (.int (1 : Int32)), .unset] [(.int (2 : Int32)), (.ref b1)])) (fun _ kk => XT.iconstV X0.here hx rfl (2 : Int32) (hb hby down_mat_82) (by decide) kk) ?_
        refine own_laload X0 hx hZ e0 F1 (j := (2 : Int32)) (i := 2) (by decide) rfl (by decide) (hb hby down_mat_83) ?_
        show own_Out _ _ _ _ (T0.setTop (mkF m 84 #[.val (.ref b1), .val (.ref b2), .val (.int W), .val (.long sn), .second, .val (.int (1 : Int32)), .val (.int (1 : Int32)), .unset] [(.long (f1 2))]))
        refine own_st (G := T0.setTop (mkF m 85 #[.val (.ref b1), .val (.ref b2), .val (.int W), .val (.long sn), .second, .val (.int (1 : Int32)), .val (.int (1 : Int32)), .unset] [(.ref b2), (.long (f1 2))])) (fun _ kk => XS.aloadN X0.here hx rfl (hb hby down_mat_84) rfl rfl kk) ?_
        refine own_st (G := T0.setTop (mkF m 86 #[.val (.ref b1), .val (.ref b2), .val (.int W), .val (.long sn), .second, .val (.int (1 : Int32)), .val (.int (1 : Int32)), .unset] [(.int (2 : Int32)), (.ref b2), (.long (f1 2))])) (fun _ kk => XT.iconstV X0.here hx rfl (2 : Int32) (hb hby down_mat_85) (by decide) kk) ?_
        refine own_laload X0 hx hZ e0 F2 (j := (2 : Int32)) (i := 2) (by decide) rfl (by decide) (hb hby down_mat_86) ?_
        show own_Out _ _ _ _ (T0.setTop (mkF m 87 #[.val (.ref b1), .val (.ref b2), .val (.int W), .val (.long sn), .second, .val (.int (1 : Int32)), .val (.int (1 : Int32)), .unset] [(.long (f2 2)), (.long (f1 2))]))
        refine own_st (G := T0.setTop (mkF m 88 #[.val (.ref b1), .val (.ref b2), .val (.int W), .val (.long sn), .second, .val (.int (1 : Int32)), .val (.int (1 : Int32)), .unset] [(.int (BdW.cmpL (f1 2) (f2 2)))])) (fun _ kk => XT.lcmp X0.here hx rfl (hb hby down_mat_87) rfl kk) ?_
        have hk2 : ((f1 2) = (f2 2)) := (H2.trans (if_pos hc1))
        refine own_st (G := T0.setTop (mkF m 91 #[.val (.ref b1), .val (.ref b2), .val (.int W), .val (.long sn), .second, .val (.int (1 : Int32)), .val (.int (1 : Int32)), .unset] [])) (fun _ kk => XS.ifNo X0.here hx rfl (hb hby down_mat_88) rfl (XT.ll_ne_f hk2) kk) ?_
        refine own_st (G := T0.setTop (mkF m 92 #[.val (.ref b1), .val (.ref b2), .val (.int W), .val (.long sn), .second, .val (.int (1 : Int32)), .val (.int (1 : Int32)), .unset] [(.int (1 : Int32))])) (fun _ kk => XT.iconstV X0.here hx rfl (1 : Int32) (hb hby down_mat_91) (by decide) kk) ?_
        refine own_st (G := T0.setTop (mkF m 112 #[.val (.ref b1), .val (.ref b2), .val (.int W), .val (.long sn), .second, .val (.int (1 : Int32)), .val (.int (1 : Int32)), .unset] [(.int (1 : Int32))])) (fun _ kk => XS.goto X0.here hx rfl (pc0 := 92) (pc' := 112) rfl (hb hby down_mat_92) (by decide) (by decide) kk) ?_
        exact j112 
      · skip
        refine own_st (G := T0.setTop (mkF m 99 #[.val (.ref b1), .val (.ref b2), .val (.int W), .val (.long sn), .second, .val (.int (1 : Int32)), .val (.int (1 : Int32)), .unset] [])) (fun _ kk => XS.icmpYes X0.here hx rfl (pc0 := 78) (pc' := 99) rfl (hb hby down_mat_78) rfl (XT.ii_ge_t hc1) (by decide) (by decide) kk) ?_
        refine own_st (G := T0.setTop (mkF m 100 #[.val (.ref b1), .val (.ref b2), .val (.int W), .val (.long sn), .second, .val (.int (1 : Int32)), .val (.int (1 : Int32)), .unset] [(.ref b1)])) (fun _ kk => XS.aloadN X0.here hx rfl (hb hby down_mat_99) rfl rfl kk) ?_
        refine own_st (G := T0.setTop (mkF m 101 #[.val (.ref b1), .val (.ref b2), .val (.int W), .val (.long sn), .second, .val (.int (1 : Int32)), .val (.int (1 : Int32)), .unset] [(.int (2 : Int32)), (.ref b1)])) (fun _ kk => XT.iconstV X0.here hx rfl (2 : Int32) (hb hby down_mat_100) (by decide) kk) ?_
        refine own_laload X0 hx hZ e0 F1 (j := (2 : Int32)) (i := 2) (by decide) rfl (by decide) (hb hby down_mat_101) ?_
        show own_Out _ _ _ _ (T0.setTop (mkF m 102 #[.val (.ref b1), .val (.ref b2), .val (.int W), .val (.long sn), .second, .val (.int (1 : Int32)), .val (.int (1 : Int32)), .unset] [(.long (f1 2))]))
        refine own_st (G := T0.setTop (mkF m 103 #[.val (.ref b1), .val (.ref b2), .val (.int W), .val (.long sn), .second, .val (.int (1 : Int32)), .val (.int (1 : Int32)), .unset] [(.long sn), (.long (f1 2))])) (fun _ kk => XS.lloadN X0.here hx rfl (hb hby down_mat_102) rfl kk) ?_
        refine own_st (G := T0.setTop (mkF m 104 #[.val (.ref b1), .val (.ref b2), .val (.int W), .val (.long sn), .second, .val (.int (1 : Int32)), .val (.int (1 : Int32)), .unset] [(.int (BdW.cmpL (f1 2) sn))])) (fun _ kk => XT.lcmp X0.here hx rfl (hb hby down_mat_103) rfl kk) ?_
        have hk3 : ((f1 2) = sn) := (H2.trans (if_neg hc1))
        refine own_st (G := T0.setTop (mkF m 107 #[.val (.ref b1), .val (.ref b2), .val (.int W), .val (.long sn), .second, .val (.int (1 : Int32)), .val (.int (1 : Int32)), .unset] [])) (fun _ kk => XS.ifNo X0.here hx rfl (hb hby down_mat_104) rfl (XT.ll_ne_f hk3) kk) ?_
        refine own_st (G := T0.setTop (mkF m 108 #[.val (.ref b1), .val (.ref b2), .val (.int W), .val (.long sn), .second, .val (.int (1 : Int32)), .val (.int (1 : Int32)), .unset] [(.int (1 : Int32))])) (fun _ kk => XT.iconstV X0.here hx rfl (1 : Int32) (hb hby down_mat_107) (by decide) kk) ?_
        refine own_st (G := T0.setTop (mkF m 112 #[.val (.ref b1), .val (.ref b2), .val (.int W), .val (.long sn), .second, .val (.int (1 : Int32)), .val (.int (1 : Int32)), .unset] [(.int (1 : Int32))])) (fun _ kk => XS.goto X0.here hx rfl (pc0 := 108) (pc' := 112) rfl (hb hby down_mat_108) (by decide) (by decide) kk) ?_
        exact j112 
    by_cases hc4 : (1 : Int32) < W
    · skip
      refine own_st (G := T0.setTop (mkF m 43 #[.val (.ref b1), .val (.ref b2), .val (.int W), .val (.long sn), .second, .val (.int (1 : Int32)), .unset, .unset] [])) (fun _ kk => XS.icmpNo X0.here hx rfl (hb hby down_mat_40) rfl (XT.ii_ge_f hc4) kk) ?_
      refine own_st (G := T0.setTop (mkF m 44 #[.val (.ref b1), .val (.ref b2), .val (.int W), .val (.long sn), .second, .val (.int (1 : Int32)), .unset, .unset] [(.ref b1)])) (fun _ kk => XS.aloadN X0.here hx rfl (hb hby down_mat_43) rfl rfl kk) ?_
      refine own_st (G := T0.setTop (mkF m 45 #[.val (.ref b1), .val (.ref b2), .val (.int W), .val (.long sn), .second, .val (.int (1 : Int32)), .unset, .unset] [(.int (1 : Int32)), (.ref b1)])) (fun _ kk => XT.iconstV X0.here hx rfl (1 : Int32) (hb hby down_mat_44) (by decide) kk) ?_
      refine own_laload X0 hx hZ e0 F1 (j := (1 : Int32)) (i := 1) (by decide) rfl (by decide) (hb hby down_mat_45) ?_
      show own_Out _ _ _ _ (T0.setTop (mkF m 46 #[.val (.ref b1), .val (.ref b2), .val (.int W), .val (.long sn), .second, .val (.int (1 : Int32)), .unset, .unset] [(.long (f1 1))]))
      refine own_st (G := T0.setTop (mkF m 47 #[.val (.ref b1), .val (.ref b2), .val (.int W), .val (.long sn), .second, .val (.int (1 : Int32)), .unset, .unset] [(.ref b2), (.long (f1 1))])) (fun _ kk => XS.aloadN X0.here hx rfl (hb hby down_mat_46) rfl rfl kk) ?_
      refine own_st (G := T0.setTop (mkF m 48 #[.val (.ref b1), .val (.ref b2), .val (.int W), .val (.long sn), .second, .val (.int (1 : Int32)), .unset, .unset] [(.int (1 : Int32)), (.ref b2), (.long (f1 1))])) (fun _ kk => XT.iconstV X0.here hx rfl (1 : Int32) (hb hby down_mat_47) (by decide) kk) ?_
      refine own_laload X0 hx hZ e0 F2 (j := (1 : Int32)) (i := 1) (by decide) rfl (by decide) (hb hby down_mat_48) ?_
      show own_Out _ _ _ _ (T0.setTop (mkF m 49 #[.val (.ref b1), .val (.ref b2), .val (.int W), .val (.long sn), .second, .val (.int (1 : Int32)), .unset, .unset] [(.long (f2 1)), (.long (f1 1))]))
      refine own_st (G := T0.setTop (mkF m 50 #[.val (.ref b1), .val (.ref b2), .val (.int W), .val (.long sn), .second, .val (.int (1 : Int32)), .unset, .unset] [(.int (BdW.cmpL (f1 1) (f2 1)))])) (fun _ kk => XT.lcmp X0.here hx rfl (hb hby down_mat_49) rfl kk) ?_
      have hk5 : ((f1 1) = (f2 1)) := (H1.trans (if_pos hc4))
      refine own_st (G := T0.setTop (mkF m 53 #[.val (.ref b1), .val (.ref b2), .val (.int W), .val (.long sn), .second, .val (.int (1 : Int32)), .unset, .unset] [])) (fun _ kk => XS.ifNo X0.here hx rfl (hb hby down_mat_50) rfl (XT.ll_ne_f hk5) kk) ?_
      refine own_st (G := T0.setTop (mkF m 54 #[.val (.ref b1), .val (.ref b2), .val (.int W), .val (.long sn), .second, .val (.int (1 : Int32)), .unset, .unset] [(.int (1 : Int32))])) (fun _ kk => XT.iconstV X0.here hx rfl (1 : Int32) (hb hby down_mat_53) (by decide) kk) ?_
      refine own_st (G := T0.setTop (mkF m 74 #[.val (.ref b1), .val (.ref b2), .val (.int W), .val (.long sn), .second, .val (.int (1 : Int32)), .unset, .unset] [(.int (1 : Int32))])) (fun _ kk => XS.goto X0.here hx rfl (pc0 := 54) (pc' := 74) rfl (hb hby down_mat_54) (by decide) (by decide) kk) ?_
      exact j74 
    · skip
      refine own_st (G := T0.setTop (mkF m 61 #[.val (.ref b1), .val (.ref b2), .val (.int W), .val (.long sn), .second, .val (.int (1 : Int32)), .unset, .unset] [])) (fun _ kk => XS.icmpYes X0.here hx rfl (pc0 := 40) (pc' := 61) rfl (hb hby down_mat_40) rfl (XT.ii_ge_t hc4) (by decide) (by decide) kk) ?_
      refine own_st (G := T0.setTop (mkF m 62 #[.val (.ref b1), .val (.ref b2), .val (.int W), .val (.long sn), .second, .val (.int (1 : Int32)), .unset, .unset] [(.ref b1)])) (fun _ kk => XS.aloadN X0.here hx rfl (hb hby down_mat_61) rfl rfl kk) ?_
      refine own_st (G := T0.setTop (mkF m 63 #[.val (.ref b1), .val (.ref b2), .val (.int W), .val (.long sn), .second, .val (.int (1 : Int32)), .unset, .unset] [(.int (1 : Int32)), (.ref b1)])) (fun _ kk => XT.iconstV X0.here hx rfl (1 : Int32) (hb hby down_mat_62) (by decide) kk) ?_
      refine own_laload X0 hx hZ e0 F1 (j := (1 : Int32)) (i := 1) (by decide) rfl (by decide) (hb hby down_mat_63) ?_
      show own_Out _ _ _ _ (T0.setTop (mkF m 64 #[.val (.ref b1), .val (.ref b2), .val (.int W), .val (.long sn), .second, .val (.int (1 : Int32)), .unset, .unset] [(.long (f1 1))]))
      refine own_st (G := T0.setTop (mkF m 65 #[.val (.ref b1), .val (.ref b2), .val (.int W), .val (.long sn), .second, .val (.int (1 : Int32)), .unset, .unset] [(.long sn), (.long (f1 1))])) (fun _ kk => XS.lloadN X0.here hx rfl (hb hby down_mat_64) rfl kk) ?_
      refine own_st (G := T0.setTop (mkF m 66 #[.val (.ref b1), .val (.ref b2), .val (.int W), .val (.long sn), .second, .val (.int (1 : Int32)), .unset, .unset] [(.int (BdW.cmpL (f1 1) sn))])) (fun _ kk => XT.lcmp X0.here hx rfl (hb hby down_mat_65) rfl kk) ?_
      have hk6 : ((f1 1) = sn) := (H1.trans (if_neg hc4))
      refine own_st (G := T0.setTop (mkF m 69 #[.val (.ref b1), .val (.ref b2), .val (.int W), .val (.long sn), .second, .val (.int (1 : Int32)), .unset, .unset] [])) (fun _ kk => XS.ifNo X0.here hx rfl (hb hby down_mat_66) rfl (XT.ll_ne_f hk6) kk) ?_
      refine own_st (G := T0.setTop (mkF m 70 #[.val (.ref b1), .val (.ref b2), .val (.int W), .val (.long sn), .second, .val (.int (1 : Int32)), .unset, .unset] [(.int (1 : Int32))])) (fun _ kk => XT.iconstV X0.here hx rfl (1 : Int32) (hb hby down_mat_69) (by decide) kk) ?_
      refine own_st (G := T0.setTop (mkF m 74 #[.val (.ref b1), .val (.ref b2), .val (.int W), .val (.long sn), .second, .val (.int (1 : Int32)), .unset, .unset] [(.int (1 : Int32))])) (fun _ kk => XS.goto X0.here hx rfl (pc0 := 70) (pc' := 74) rfl (hb hby down_mat_70) (by decide) (by decide) kk) ?_
      exact j74 
  by_cases hc7 : (0 : Int32) < W
  · skip
    refine own_st (G := T0.setTop (mkF m 5 #[.val (.ref b1), .val (.ref b2), .val (.int W), .val (.long sn), .second, .unset, .unset, .unset] [])) (fun _ kk => XS.icmpNo X0.here hx rfl (hb hby down_mat_2) rfl (XT.ii_ge_f hc7) kk) ?_
    refine own_st (G := T0.setTop (mkF m 6 #[.val (.ref b1), .val (.ref b2), .val (.int W), .val (.long sn), .second, .unset, .unset, .unset] [(.ref b1)])) (fun _ kk => XS.aloadN X0.here hx rfl (hb hby down_mat_5) rfl rfl kk) ?_
    refine own_st (G := T0.setTop (mkF m 7 #[.val (.ref b1), .val (.ref b2), .val (.int W), .val (.long sn), .second, .unset, .unset, .unset] [(.int (0 : Int32)), (.ref b1)])) (fun _ kk => XT.iconstV X0.here hx rfl (0 : Int32) (hb hby down_mat_6) (by decide) kk) ?_
    refine own_laload X0 hx hZ e0 F1 (j := (0 : Int32)) (i := 0) (by decide) rfl (by decide) (hb hby down_mat_7) ?_
    show own_Out _ _ _ _ (T0.setTop (mkF m 8 #[.val (.ref b1), .val (.ref b2), .val (.int W), .val (.long sn), .second, .unset, .unset, .unset] [(.long (f1 0))]))
    refine own_st (G := T0.setTop (mkF m 9 #[.val (.ref b1), .val (.ref b2), .val (.int W), .val (.long sn), .second, .unset, .unset, .unset] [(.ref b2), (.long (f1 0))])) (fun _ kk => XS.aloadN X0.here hx rfl (hb hby down_mat_8) rfl rfl kk) ?_
    refine own_st (G := T0.setTop (mkF m 10 #[.val (.ref b1), .val (.ref b2), .val (.int W), .val (.long sn), .second, .unset, .unset, .unset] [(.int (0 : Int32)), (.ref b2), (.long (f1 0))])) (fun _ kk => XT.iconstV X0.here hx rfl (0 : Int32) (hb hby down_mat_9) (by decide) kk) ?_
    refine own_laload X0 hx hZ e0 F2 (j := (0 : Int32)) (i := 0) (by decide) rfl (by decide) (hb hby down_mat_10) ?_
    show own_Out _ _ _ _ (T0.setTop (mkF m 11 #[.val (.ref b1), .val (.ref b2), .val (.int W), .val (.long sn), .second, .unset, .unset, .unset] [(.long (f2 0)), (.long (f1 0))]))
    refine own_st (G := T0.setTop (mkF m 12 #[.val (.ref b1), .val (.ref b2), .val (.int W), .val (.long sn), .second, .unset, .unset, .unset] [(.int (BdW.cmpL (f1 0) (f2 0)))])) (fun _ kk => XT.lcmp X0.here hx rfl (hb hby down_mat_11) rfl kk) ?_
    have hk8 : ((f1 0) = (f2 0)) := (H0.trans (if_pos hc7))
    refine own_st (G := T0.setTop (mkF m 15 #[.val (.ref b1), .val (.ref b2), .val (.int W), .val (.long sn), .second, .unset, .unset, .unset] [])) (fun _ kk => XS.ifNo X0.here hx rfl (hb hby down_mat_12) rfl (XT.ll_ne_f hk8) kk) ?_
    refine own_st (G := T0.setTop (mkF m 16 #[.val (.ref b1), .val (.ref b2), .val (.int W), .val (.long sn), .second, .unset, .unset, .unset] [(.int (1 : Int32))])) (fun _ kk => XT.iconstV X0.here hx rfl (1 : Int32) (hb hby down_mat_15) (by decide) kk) ?_
    refine own_st (G := T0.setTop (mkF m 36 #[.val (.ref b1), .val (.ref b2), .val (.int W), .val (.long sn), .second, .unset, .unset, .unset] [(.int (1 : Int32))])) (fun _ kk => XS.goto X0.here hx rfl (pc0 := 16) (pc' := 36) rfl (hb hby down_mat_16) (by decide) (by decide) kk) ?_
    exact j36 
  · skip
    refine own_st (G := T0.setTop (mkF m 23 #[.val (.ref b1), .val (.ref b2), .val (.int W), .val (.long sn), .second, .unset, .unset, .unset] [])) (fun _ kk => XS.icmpYes X0.here hx rfl (pc0 := 2) (pc' := 23) rfl (hb hby down_mat_2) rfl (XT.ii_ge_t hc7) (by decide) (by decide) kk) ?_
    refine own_st (G := T0.setTop (mkF m 24 #[.val (.ref b1), .val (.ref b2), .val (.int W), .val (.long sn), .second, .unset, .unset, .unset] [(.ref b1)])) (fun _ kk => XS.aloadN X0.here hx rfl (hb hby down_mat_23) rfl rfl kk) ?_
    refine own_st (G := T0.setTop (mkF m 25 #[.val (.ref b1), .val (.ref b2), .val (.int W), .val (.long sn), .second, .unset, .unset, .unset] [(.int (0 : Int32)), (.ref b1)])) (fun _ kk => XT.iconstV X0.here hx rfl (0 : Int32) (hb hby down_mat_24) (by decide) kk) ?_
    refine own_laload X0 hx hZ e0 F1 (j := (0 : Int32)) (i := 0) (by decide) rfl (by decide) (hb hby down_mat_25) ?_
    show own_Out _ _ _ _ (T0.setTop (mkF m 26 #[.val (.ref b1), .val (.ref b2), .val (.int W), .val (.long sn), .second, .unset, .unset, .unset] [(.long (f1 0))]))
    refine own_st (G := T0.setTop (mkF m 27 #[.val (.ref b1), .val (.ref b2), .val (.int W), .val (.long sn), .second, .unset, .unset, .unset] [(.long sn), (.long (f1 0))])) (fun _ kk => XS.lloadN X0.here hx rfl (hb hby down_mat_26) rfl kk) ?_
    refine own_st (G := T0.setTop (mkF m 28 #[.val (.ref b1), .val (.ref b2), .val (.int W), .val (.long sn), .second, .unset, .unset, .unset] [(.int (BdW.cmpL (f1 0) sn))])) (fun _ kk => XT.lcmp X0.here hx rfl (hb hby down_mat_27) rfl kk) ?_
    have hk9 : ((f1 0) = sn) := (H0.trans (if_neg hc7))
    refine own_st (G := T0.setTop (mkF m 31 #[.val (.ref b1), .val (.ref b2), .val (.int W), .val (.long sn), .second, .unset, .unset, .unset] [])) (fun _ kk => XS.ifNo X0.here hx rfl (hb hby down_mat_28) rfl (XT.ll_ne_f hk9) kk) ?_
    refine own_st (G := T0.setTop (mkF m 32 #[.val (.ref b1), .val (.ref b2), .val (.int W), .val (.long sn), .second, .unset, .unset, .unset] [(.int (1 : Int32))])) (fun _ kk => XT.iconstV X0.here hx rfl (1 : Int32) (hb hby down_mat_31) (by decide) kk) ?_
    refine own_st (G := T0.setTop (mkF m 36 #[.val (.ref b1), .val (.ref b2), .val (.int W), .val (.long sn), .second, .unset, .unset, .unset] [(.int (1 : Int32))])) (fun _ kk => XS.goto X0.here hx rfl (pc0 := 32) (pc' := 36) rfl (hb hby down_mat_32) (by decide) (by decide) kk) ?_
    exact j36 
theorem pn_own_hash : plainFor (⟨"com/example/libbuchi/libbuchi/automata/PackedStates", "hash", "([JI)I"⟩ : MethodName) = true := by first | exact plainFor_of_name (by first | (simp [plainName, overriddenIn]; done) | decide +kernel) | decide +kernel
theorem down_hash_0 : decode prog_34_method_7_code 0 = .ok (.lconst 0, 1) := by decide +kernel
theorem down_hash_1 : decode prog_34_method_7_code 1 = .ok (.lstore_n 3, 1) := by decide +kernel
theorem down_hash_2 : decode prog_34_method_7_code 2 = .ok (.iconst 0, 1) := by decide +kernel
theorem down_hash_3 : decode prog_34_method_7_code 3 = .ok (.istore 5, 2) := by decide +kernel
theorem down_hash_5 : decode prog_34_method_7_code 5 = .ok (.iload 5, 2) := by decide +kernel
theorem down_hash_7 : decode prog_34_method_7_code 7 = .ok (.aload_n 0, 1) := by decide +kernel
theorem down_hash_8 : decode prog_34_method_7_code 8 = .ok (.getfield 9, 3) := by decide +kernel
theorem down_hash_11 : decode prog_34_method_7_code 11 = .ok (.if_icmp .ge 29, 3) := by decide +kernel
theorem down_hash_14 : decode prog_34_method_7_code 14 = .ok (.lload_n 3, 1) := by decide +kernel
theorem down_hash_15 : decode prog_34_method_7_code 15 = .ok (.aload_n 1, 1) := by decide +kernel
theorem down_hash_16 : decode prog_34_method_7_code 16 = .ok (.iload_n 2, 1) := by decide +kernel
theorem down_hash_17 : decode prog_34_method_7_code 17 = .ok (.iload 5, 2) := by decide +kernel
theorem down_hash_19 : decode prog_34_method_7_code 19 = .ok (.iadd, 1) := by decide +kernel
theorem down_hash_20 : decode prog_34_method_7_code 20 = .ok (.laload, 1) := by decide +kernel
theorem down_hash_21 : decode prog_34_method_7_code 21 = .ok (.lxor, 1) := by decide +kernel
theorem down_hash_22 : decode prog_34_method_7_code 22 = .ok (.ldc2_w 66, 3) := by decide +kernel
theorem down_hash_25 : decode prog_34_method_7_code 25 = .ok (.lmul, 1) := by decide +kernel
theorem down_hash_26 : decode prog_34_method_7_code 26 = .ok (.lstore_n 3, 1) := by decide +kernel
theorem down_hash_27 : decode prog_34_method_7_code 27 = .ok (.lload_n 3, 1) := by decide +kernel
theorem down_hash_28 : decode prog_34_method_7_code 28 = .ok (.lload_n 3, 1) := by decide +kernel
theorem down_hash_29 : decode prog_34_method_7_code 29 = .ok (.bipush 29, 2) := by decide +kernel
theorem down_hash_31 : decode prog_34_method_7_code 31 = .ok (.lushr, 1) := by decide +kernel
theorem down_hash_32 : decode prog_34_method_7_code 32 = .ok (.lxor, 1) := by decide +kernel
theorem down_hash_33 : decode prog_34_method_7_code 33 = .ok (.lstore_n 3, 1) := by decide +kernel
theorem down_hash_34 : decode prog_34_method_7_code 34 = .ok (.iinc 5 1, 3) := by decide +kernel
theorem down_hash_37 : decode prog_34_method_7_code 37 = .ok (.goto (-32), 3) := by decide +kernel
theorem down_hash_40 : decode prog_34_method_7_code 40 = .ok (.lload_n 3, 1) := by decide +kernel
theorem down_hash_41 : decode prog_34_method_7_code 41 = .ok (.lload_n 3, 1) := by decide +kernel
theorem down_hash_42 : decode prog_34_method_7_code 42 = .ok (.bipush 32, 2) := by decide +kernel
theorem down_hash_44 : decode prog_34_method_7_code 44 = .ok (.lushr, 1) := by decide +kernel
theorem down_hash_45 : decode prog_34_method_7_code 45 = .ok (.lxor, 1) := by decide +kernel
theorem down_hash_46 : decode prog_34_method_7_code 46 = .ok (.lstore_n 3, 1) := by decide +kernel
theorem down_hash_47 : decode prog_34_method_7_code 47 = .ok (.lload_n 3, 1) := by decide +kernel
theorem down_hash_48 : decode prog_34_method_7_code 48 = .ok (.l2i, 1) := by decide +kernel
theorem down_hash_49 : decode prog_34_method_7_code 49 = .ok (.ireturn, 1) := by decide +kernel
def Q_own_hash (Z : State)  (a b wa sa : Addr) (W k : Int32) (fb : Nat → Int64) (h0 : Heap) (n0 : Nat) (v : Option Value) (h : Heap) (L : List Loc) : Prop := (∃ r : Int32, v = some (.int r)) ∧ L = [] ∧ h = h0
set_option maxRecDepth 65536 in
set_option maxHeartbeats 40000000 in
theorem own_hash (l : Launch) (Z : State) (a0 : Array Value) (hw : ∀ d ∈ tables_1, d.before a0 Z = true) (ws : List Jvm.Cond)  (a b wa sa : Addr) (W k : Int32) (fb : Nat → Int64) (h0 : Heap) (n0 : Nat) (O : own_P Z h0 a W (.ref wa) (.ref sa) k) (Fb : own_AJ Z h0 b 3 fb) (hW3 : ¬ (3 : Int32) < W) :
    MetFree l (⟨"com/example/libbuchi/libbuchi/automata/PackedStates", "hash", "([JI)I"⟩ : MethodName) (head1 (Jvm.Cond.code (⟨"com/example/libbuchi/libbuchi/automata/PackedStates", "hash", "([JI)I"⟩ : MethodName) prog_34_method_7_code 6 (some (.int)) :: ws) ({ frames := 0, cells := 0, slots := 0, locals := 0 } : Room)) (fun aa U => aa = #[(.ref a), (.ref b), (.int (0 : Int32))] ∧ Z.Warmed39 U.vm ∧ U.heap = h0) (fun _ _ _ _ _ => True) (fun _ U o U' => ∃ v L, o = .returned v ∧ Q_own_hash Z a b wa sa W k fb h0 n0 v U'.heap L ∧ FrameEnd U o U' L ({ frames := 0, cells := 0, slots := 0, locals := 0 } : Room).cells ({ frames := 0, cells := 0, slots := 0, locals := 0 } : Room).slots) := by
  refine own_body (x := (⟨"com/example/libbuchi/libbuchi/automata/PackedStates", "hash", "([JI)I"⟩ : MethodName)) (maxL := 6) (as' := #[(.ref a), (.ref b), (.int (0 : Int32))]) (Q := Q_own_hash Z a b wa sa W k fb h0 n0) pn_own_hash #[.val (.ref a), .val (.ref b), .val (.int (0 : Int32)), .unset, .unset, .unset] (fun m => by first | (simp [entryFrame, mkF, argsToLocals, Value.category]; done) | rfl) ?_
  intro p e s m below meth c T0 X0 hx hby hml hret hlk hown hnm hZ e0
  replace hml : c.maxLocals = 6 := hml
  replace hown : s.vm.findClass "com/example/libbuchi/libbuchi/automata/PackedStates" = some m.cls := hown
  have N0 := Fr.nil n0
  refine own_st (G := T0.setTop (mkF m 1 #[.val (.ref a), .val (.ref b), .val (.int (0 : Int32)), .unset, .unset, .unset] [(.long (0 : Int64))])) (fun _ kk => XT.lconstV X0.here hx rfl (0 : Int64) (hb hby down_hash_0) (by decide) kk) ?_
  refine own_st (G := T0.setTop (mkF m 2 #[.val (.ref a), .val (.ref b), .val (.int (0 : Int32)), .val (.long (0 : Int64)), .second, .unset] [])) (fun _ kk => XS.lstoreN X0.here hx rfl (hb hby down_hash_1) rfl (l' := #[.val (.ref a), .val (.ref b), .val (.int (0 : Int32)), .val (.long (0 : Int64)), .second, .unset]) rfl kk) ?_
  refine own_st (G := T0.setTop (mkF m 3 #[.val (.ref a), .val (.ref b), .val (.int (0 : Int32)), .val (.long (0 : Int64)), .second, .unset] [(.int (0 : Int32))])) (fun _ kk => XT.iconstV X0.here hx rfl (0 : Int32) (hb hby down_hash_2) (by decide) kk) ?_
  refine own_st (G := T0.setTop (mkF m 5 #[.val (.ref a), .val (.ref b), .val (.int (0 : Int32)), .val (.long (0 : Int64)), .second, .val (.int (0 : Int32))] [])) (fun _ kk => XS.istore X0.here hx rfl (hb hby down_hash_3) rfl (l' := #[.val (.ref a), .val (.ref b), .val (.int (0 : Int32)), .val (.long (0 : Int64)), .second, .val (.int (0 : Int32))]) rfl kk) ?_
  refine own_st (G := T0.setTop (mkF m 7 #[.val (.ref a), .val (.ref b), .val (.int (0 : Int32)), .val (.long (0 : Int64)), .second, .val (.int (0 : Int32))] [(.int (0 : Int32))])) (fun _ kk => XS.iload X0.here hx rfl (hb hby down_hash_5) rfl kk) ?_
  refine own_st (G := T0.setTop (mkF m 8 #[.val (.ref a), .val (.ref b), .val (.int (0 : Int32)), .val (.long (0 : Int64)), .second, .val (.int (0 : Int32))] [(.ref a), (.int (0 : Int32))])) (fun _ kk => XS.aloadN X0.here hx rfl (hb hby down_hash_7) rfl rfl kk) ?_
  obtain ⟨T1, X2, e3, st4⟩ := getF X0 hx hZ hown (host := "") (Or.inl (own_w hw 10 rfl)) Via.refl e0 (O).2.1 (g := (mkF m 8 #[.val (.ref a), .val (.ref b), .val (.int (0 : Int32)), .val (.long (0 : Int64)), .second, .val (.int (0 : Int32))] [(.ref a), (.int (0 : Int32))])) rfl rfl (hb hby down_hash_8)
  refine own_st st4 ?_
  show own_Out _ _ _ _ (T1.setTop (mkF m 11 #[.val (.ref a), .val (.ref b), .val (.int (0 : Int32)), .val (.long (0 : Int64)), .second, .val (.int (0 : Int32))] [(.int W), (.int (0 : Int32))]))
  by_cases hc5 : (0 : Int32) < W
  · skip
    refine own_st (G := T1.setTop (mkF m 14 #[.val (.ref a), .val (.ref b), .val (.int (0 : Int32)), .val (.long (0 : Int64)), .second, .val (.int (0 : Int32))] [])) (fun _ kk => XS.icmpNo X2.here hx rfl (hb hby down_hash_11) rfl (XT.ii_ge_f hc5) kk) ?_
    refine own_st (G := T1.setTop (mkF m 15 #[.val (.ref a), .val (.ref b), .val (.int (0 : Int32)), .val (.long (0 : Int64)), .second, .val (.int (0 : Int32))] [(.long (0 : Int64))])) (fun _ kk => XS.lloadN X2.here hx rfl (hb hby down_hash_14) rfl kk) ?_
    refine own_st (G := T1.setTop (mkF m 16 #[.val (.ref a), .val (.ref b), .val (.int (0 : Int32)), .val (.long (0 : Int64)), .second, .val (.int (0 : Int32))] [(.ref b), (.long (0 : Int64))])) (fun _ kk => XS.aloadN X2.here hx rfl (hb hby down_hash_15) rfl rfl kk) ?_
    refine own_st (G := T1.setTop (mkF m 17 #[.val (.ref a), .val (.ref b), .val (.int (0 : Int32)), .val (.long (0 : Int64)), .second, .val (.int (0 : Int32))] [(.int (0 : Int32)), (.ref b), (.long (0 : Int64))])) (fun _ kk => XS.iloadN X2.here hx rfl (hb hby down_hash_16) rfl kk) ?_
    refine own_st (G := T1.setTop (mkF m 19 #[.val (.ref a), .val (.ref b), .val (.int (0 : Int32)), .val (.long (0 : Int64)), .second, .val (.int (0 : Int32))] [(.int (0 : Int32)), (.int (0 : Int32)), (.ref b), (.long (0 : Int64))])) (fun _ kk => XS.iload X2.here hx rfl (hb hby down_hash_17) rfl kk) ?_
    refine own_st (G := T1.setTop (mkF m 20 #[.val (.ref a), .val (.ref b), .val (.int (0 : Int32)), .val (.long (0 : Int64)), .second, .val (.int (0 : Int32))] [(.int ((0 : Int32) + (0 : Int32))), (.ref b), (.long (0 : Int64))])) (fun _ kk => XS.iadd X2.here hx rfl (hb hby down_hash_19) rfl kk) ?_
    rw [show ((0 : Int32) + (0 : Int32)) = (0 : Int32) from by decide +kernel]
    refine own_laload X2 hx hZ e3 Fb (j := (0 : Int32)) (i := 0) (by decide) rfl (by decide) (hb hby down_hash_20) ?_
    show own_Out _ _ _ _ (T1.setTop (mkF m 21 #[.val (.ref a), .val (.ref b), .val (.int (0 : Int32)), .val (.long (0 : Int64)), .second, .val (.int (0 : Int32))] [(.long (fb 0)), (.long (0 : Int64))]))
    refine own_st (G := T1.setTop (mkF m 22 #[.val (.ref a), .val (.ref b), .val (.int (0 : Int32)), .val (.long (0 : Int64)), .second, .val (.int (0 : Int32))] [(.long ((0 : Int64) ^^^ (fb 0)))])) (fun _ kk => XS.lxor X2.here hx rfl (hb hby down_hash_21) rfl kk) ?_
    refine own_st (G := T1.setTop (mkF m 25 #[.val (.ref a), .val (.ref b), .val (.int (0 : Int32)), .val (.long (0 : Int64)), .second, .val (.int (0 : Int32))] [(.long (-7046029254386353131 : Int64)), (.long ((0 : Int64) ^^^ (fb 0)))])) (fun _ kk => X2.ldc2Long hx hown (mvT hZ (own_w hw 26 rfl)) (g := (mkF m 22 #[.val (.ref a), .val (.ref b), .val (.int (0 : Int32)), .val (.long (0 : Int64)), .second, .val (.int (0 : Int32))] [(.long ((0 : Int64) ^^^ (fb 0)))])) rfl (hb hby down_hash_22) _ kk) ?_
    refine own_st (G := T1.setTop (mkF m 26 #[.val (.ref a), .val (.ref b), .val (.int (0 : Int32)), .val (.long (0 : Int64)), .second, .val (.int (0 : Int32))] [(.long (((0 : Int64) ^^^ (fb 0)) * (-7046029254386353131 : Int64)))])) (fun _ kk => XS.lmul X2.here hx rfl (hb hby down_hash_25) rfl kk) ?_
    generalize hv26 : (((0 : Int64) ^^^ (fb 0)) * (-7046029254386353131 : Int64)) = v26
    refine own_st (G := T1.setTop (mkF m 27 #[.val (.ref a), .val (.ref b), .val (.int (0 : Int32)), .val (.long v26), .second, .val (.int (0 : Int32))] [])) (fun _ kk => XS.lstoreN X2.here hx rfl (hb hby down_hash_26) rfl (l' := #[.val (.ref a), .val (.ref b), .val (.int (0 : Int32)), .val (.long v26), .second, .val (.int (0 : Int32))]) rfl kk) ?_
    refine own_st (G := T1.setTop (mkF m 28 #[.val (.ref a), .val (.ref b), .val (.int (0 : Int32)), .val (.long v26), .second, .val (.int (0 : Int32))] [(.long v26)])) (fun _ kk => XS.lloadN X2.here hx rfl (hb hby down_hash_27) rfl kk) ?_
    refine own_st (G := T1.setTop (mkF m 29 #[.val (.ref a), .val (.ref b), .val (.int (0 : Int32)), .val (.long v26), .second, .val (.int (0 : Int32))] [(.long v26), (.long v26)])) (fun _ kk => XS.lloadN X2.here hx rfl (hb hby down_hash_28) rfl kk) ?_
    refine own_st (G := T1.setTop (mkF m 31 #[.val (.ref a), .val (.ref b), .val (.int (0 : Int32)), .val (.long v26), .second, .val (.int (0 : Int32))] [(.int (29 : Int32)), (.long v26), (.long v26)])) (fun _ kk => XT.bipushV X2.here hx rfl (29 : Int32) (hb hby down_hash_29) (by decide) kk) ?_
    refine own_st (G := T1.setTop (mkF m 32 #[.val (.ref a), .val (.ref b), .val (.int (0 : Int32)), .val (.long v26), .second, .val (.int (0 : Int32))] [(.long (XT.ushrL v26 (29 : Int32))), (.long v26)])) (fun _ kk => XT.lushr X2.here hx rfl (hb hby down_hash_31) rfl kk) ?_
    refine own_st (G := T1.setTop (mkF m 33 #[.val (.ref a), .val (.ref b), .val (.int (0 : Int32)), .val (.long v26), .second, .val (.int (0 : Int32))] [(.long (v26 ^^^ (XT.ushrL v26 (29 : Int32))))])) (fun _ kk => XS.lxor X2.here hx rfl (hb hby down_hash_32) rfl kk) ?_
    generalize hv33 : (v26 ^^^ (XT.ushrL v26 (29 : Int32))) = v33
    refine own_st (G := T1.setTop (mkF m 34 #[.val (.ref a), .val (.ref b), .val (.int (0 : Int32)), .val (.long v33), .second, .val (.int (0 : Int32))] [])) (fun _ kk => XS.lstoreN X2.here hx rfl (hb hby down_hash_33) rfl (l' := #[.val (.ref a), .val (.ref b), .val (.int (0 : Int32)), .val (.long v33), .second, .val (.int (0 : Int32))]) rfl kk) ?_
    refine own_st (G := T1.setTop (mkF m 37 #[.val (.ref a), .val (.ref b), .val (.int (0 : Int32)), .val (.long v33), .second, .val (.int ((0 : Int32) + (1 : Int32)))] [])) (fun _ kk => XT.iincV X2.here hx rfl (1 : Int32) (hb hby down_hash_34) (by decide) rfl (l' := #[.val (.ref a), .val (.ref b), .val (.int (0 : Int32)), .val (.long v33), .second, .val (.int ((0 : Int32) + (1 : Int32)))]) rfl kk) ?_
    rw [show ((0 : Int32) + (1 : Int32)) = (1 : Int32) from by decide +kernel]
    refine own_st (G := T1.setTop (mkF m 5 #[.val (.ref a), .val (.ref b), .val (.int (0 : Int32)), .val (.long v33), .second, .val (.int (1 : Int32))] [])) (fun _ kk => XS.goto X2.here hx rfl (pc0 := 37) (pc' := 5) rfl (hb hby down_hash_37) (by decide) (by decide) kk) ?_
    refine own_st (G := T1.setTop (mkF m 7 #[.val (.ref a), .val (.ref b), .val (.int (0 : Int32)), .val (.long v33), .second, .val (.int (1 : Int32))] [(.int (1 : Int32))])) (fun _ kk => XS.iload X2.here hx rfl (hb hby down_hash_5) rfl kk) ?_
    refine own_st (G := T1.setTop (mkF m 8 #[.val (.ref a), .val (.ref b), .val (.int (0 : Int32)), .val (.long v33), .second, .val (.int (1 : Int32))] [(.ref a), (.int (1 : Int32))])) (fun _ kk => XS.aloadN X2.here hx rfl (hb hby down_hash_7) rfl rfl kk) ?_
    obtain ⟨T6, X7, e8, st9⟩ := getF X2 hx hZ hown (host := "") (Or.inl (own_w hw 10 rfl)) Via.refl e3 (O).2.1 (g := (mkF m 8 #[.val (.ref a), .val (.ref b), .val (.int (0 : Int32)), .val (.long v33), .second, .val (.int (1 : Int32))] [(.ref a), (.int (1 : Int32))])) rfl rfl (hb hby down_hash_8)
    refine own_st st9 ?_
    show own_Out _ _ _ _ (T6.setTop (mkF m 11 #[.val (.ref a), .val (.ref b), .val (.int (0 : Int32)), .val (.long v33), .second, .val (.int (1 : Int32))] [(.int W), (.int (1 : Int32))]))
    by_cases hc10 : (1 : Int32) < W
    · skip
      refine own_st (G := T6.setTop (mkF m 14 #[.val (.ref a), .val (.ref b), .val (.int (0 : Int32)), .val (.long v33), .second, .val (.int (1 : Int32))] [])) (fun _ kk => XS.icmpNo X7.here hx rfl (hb hby down_hash_11) rfl (XT.ii_ge_f hc10) kk) ?_
      refine own_st (G := T6.setTop (mkF m 15 #[.val (.ref a), .val (.ref b), .val (.int (0 : Int32)), .val (.long v33), .second, .val (.int (1 : Int32))] [(.long v33)])) (fun _ kk => XS.lloadN X7.here hx rfl (hb hby down_hash_14) rfl kk) ?_
      refine own_st (G := T6.setTop (mkF m 16 #[.val (.ref a), .val (.ref b), .val (.int (0 : Int32)), .val (.long v33), .second, .val (.int (1 : Int32))] [(.ref b), (.long v33)])) (fun _ kk => XS.aloadN X7.here hx rfl (hb hby down_hash_15) rfl rfl kk) ?_
      refine own_st (G := T6.setTop (mkF m 17 #[.val (.ref a), .val (.ref b), .val (.int (0 : Int32)), .val (.long v33), .second, .val (.int (1 : Int32))] [(.int (0 : Int32)), (.ref b), (.long v33)])) (fun _ kk => XS.iloadN X7.here hx rfl (hb hby down_hash_16) rfl kk) ?_
      refine own_st (G := T6.setTop (mkF m 19 #[.val (.ref a), .val (.ref b), .val (.int (0 : Int32)), .val (.long v33), .second, .val (.int (1 : Int32))] [(.int (1 : Int32)), (.int (0 : Int32)), (.ref b), (.long v33)])) (fun _ kk => XS.iload X7.here hx rfl (hb hby down_hash_17) rfl kk) ?_
      refine own_st (G := T6.setTop (mkF m 20 #[.val (.ref a), .val (.ref b), .val (.int (0 : Int32)), .val (.long v33), .second, .val (.int (1 : Int32))] [(.int ((0 : Int32) + (1 : Int32))), (.ref b), (.long v33)])) (fun _ kk => XS.iadd X7.here hx rfl (hb hby down_hash_19) rfl kk) ?_
      rw [show ((0 : Int32) + (1 : Int32)) = (1 : Int32) from by decide +kernel]
      refine own_laload X7 hx hZ e8 Fb (j := (1 : Int32)) (i := 1) (by decide) rfl (by decide) (hb hby down_hash_20) ?_
      show own_Out _ _ _ _ (T6.setTop (mkF m 21 #[.val (.ref a), .val (.ref b), .val (.int (0 : Int32)), .val (.long v33), .second, .val (.int (1 : Int32))] [(.long (fb 1)), (.long v33)]))
      refine own_st (G := T6.setTop (mkF m 22 #[.val (.ref a), .val (.ref b), .val (.int (0 : Int32)), .val (.long v33), .second, .val (.int (1 : Int32))] [(.long (v33 ^^^ (fb 1)))])) (fun _ kk => XS.lxor X7.here hx rfl (hb hby down_hash_21) rfl kk) ?_
      refine own_st (G := T6.setTop (mkF m 25 #[.val (.ref a), .val (.ref b), .val (.int (0 : Int32)), .val (.long v33), .second, .val (.int (1 : Int32))] [(.long (-7046029254386353131 : Int64)), (.long (v33 ^^^ (fb 1)))])) (fun _ kk => X7.ldc2Long hx hown (mvT hZ (own_w hw 26 rfl)) (g := (mkF m 22 #[.val (.ref a), .val (.ref b), .val (.int (0 : Int32)), .val (.long v33), .second, .val (.int (1 : Int32))] [(.long (v33 ^^^ (fb 1)))])) rfl (hb hby down_hash_22) _ kk) ?_
      refine own_st (G := T6.setTop (mkF m 26 #[.val (.ref a), .val (.ref b), .val (.int (0 : Int32)), .val (.long v33), .second, .val (.int (1 : Int32))] [(.long ((v33 ^^^ (fb 1)) * (-7046029254386353131 : Int64)))])) (fun _ kk => XS.lmul X7.here hx rfl (hb hby down_hash_25) rfl kk) ?_
      generalize hv26 : ((v33 ^^^ (fb 1)) * (-7046029254386353131 : Int64)) = v26
      refine own_st (G := T6.setTop (mkF m 27 #[.val (.ref a), .val (.ref b), .val (.int (0 : Int32)), .val (.long v26), .second, .val (.int (1 : Int32))] [])) (fun _ kk => XS.lstoreN X7.here hx rfl (hb hby down_hash_26) rfl (l' := #[.val (.ref a), .val (.ref b), .val (.int (0 : Int32)), .val (.long v26), .second, .val (.int (1 : Int32))]) rfl kk) ?_
      refine own_st (G := T6.setTop (mkF m 28 #[.val (.ref a), .val (.ref b), .val (.int (0 : Int32)), .val (.long v26), .second, .val (.int (1 : Int32))] [(.long v26)])) (fun _ kk => XS.lloadN X7.here hx rfl (hb hby down_hash_27) rfl kk) ?_
      refine own_st (G := T6.setTop (mkF m 29 #[.val (.ref a), .val (.ref b), .val (.int (0 : Int32)), .val (.long v26), .second, .val (.int (1 : Int32))] [(.long v26), (.long v26)])) (fun _ kk => XS.lloadN X7.here hx rfl (hb hby down_hash_28) rfl kk) ?_
      refine own_st (G := T6.setTop (mkF m 31 #[.val (.ref a), .val (.ref b), .val (.int (0 : Int32)), .val (.long v26), .second, .val (.int (1 : Int32))] [(.int (29 : Int32)), (.long v26), (.long v26)])) (fun _ kk => XT.bipushV X7.here hx rfl (29 : Int32) (hb hby down_hash_29) (by decide) kk) ?_
      refine own_st (G := T6.setTop (mkF m 32 #[.val (.ref a), .val (.ref b), .val (.int (0 : Int32)), .val (.long v26), .second, .val (.int (1 : Int32))] [(.long (XT.ushrL v26 (29 : Int32))), (.long v26)])) (fun _ kk => XT.lushr X7.here hx rfl (hb hby down_hash_31) rfl kk) ?_
      refine own_st (G := T6.setTop (mkF m 33 #[.val (.ref a), .val (.ref b), .val (.int (0 : Int32)), .val (.long v26), .second, .val (.int (1 : Int32))] [(.long (v26 ^^^ (XT.ushrL v26 (29 : Int32))))])) (fun _ kk => XS.lxor X7.here hx rfl (hb hby down_hash_32) rfl kk) ?_
      generalize hv33 : (v26 ^^^ (XT.ushrL v26 (29 : Int32))) = v33
      refine own_st (G := T6.setTop (mkF m 34 #[.val (.ref a), .val (.ref b), .val (.int (0 : Int32)), .val (.long v33), .second, .val (.int (1 : Int32))] [])) (fun _ kk => XS.lstoreN X7.here hx rfl (hb hby down_hash_33) rfl (l' := #[.val (.ref a), .val (.ref b), .val (.int (0 : Int32)), .val (.long v33), .second, .val (.int (1 : Int32))]) rfl kk) ?_
      refine own_st (G := T6.setTop (mkF m 37 #[.val (.ref a), .val (.ref b), .val (.int (0 : Int32)), .val (.long v33), .second, .val (.int ((1 : Int32) + (1 : Int32)))] [])) (fun _ kk => XT.iincV X7.here hx rfl (1 : Int32) (hb hby down_hash_34) (by decide) rfl (l' := #[.val (.ref a), .val (.ref b), .val (.int (0 : Int32)), .val (.long v33), .second, .val (.int ((1 : Int32) + (1 : Int32)))]) rfl kk) ?_
      rw [show ((1 : Int32) + (1 : Int32)) = (2 : Int32) from by decide +kernel]
      refine own_st (G := T6.setTop (mkF m 5 #[.val (.ref a), .val (.ref b), .val (.int (0 : Int32)), .val (.long v33), .second, .val (.int (2 : Int32))] [])) (fun _ kk => XS.goto X7.here hx rfl (pc0 := 37) (pc' := 5) rfl (hb hby down_hash_37) (by decide) (by decide) kk) ?_
      refine own_st (G := T6.setTop (mkF m 7 #[.val (.ref a), .val (.ref b), .val (.int (0 : Int32)), .val (.long v33), .second, .val (.int (2 : Int32))] [(.int (2 : Int32))])) (fun _ kk => XS.iload X7.here hx rfl (hb hby down_hash_5) rfl kk) ?_
      refine own_st (G := T6.setTop (mkF m 8 #[.val (.ref a), .val (.ref b), .val (.int (0 : Int32)), .val (.long v33), .second, .val (.int (2 : Int32))] [(.ref a), (.int (2 : Int32))])) (fun _ kk => XS.aloadN X7.here hx rfl (hb hby down_hash_7) rfl rfl kk) ?_
      obtain ⟨T11, X12, e13, st14⟩ := getF X7 hx hZ hown (host := "") (Or.inl (own_w hw 10 rfl)) Via.refl e8 (O).2.1 (g := (mkF m 8 #[.val (.ref a), .val (.ref b), .val (.int (0 : Int32)), .val (.long v33), .second, .val (.int (2 : Int32))] [(.ref a), (.int (2 : Int32))])) rfl rfl (hb hby down_hash_8)
      refine own_st st14 ?_
      show own_Out _ _ _ _ (T11.setTop (mkF m 11 #[.val (.ref a), .val (.ref b), .val (.int (0 : Int32)), .val (.long v33), .second, .val (.int (2 : Int32))] [(.int W), (.int (2 : Int32))]))
      by_cases hc15 : (2 : Int32) < W
      · skip
        refine own_st (G := T11.setTop (mkF m 14 #[.val (.ref a), .val (.ref b), .val (.int (0 : Int32)), .val (.long v33), .second, .val (.int (2 : Int32))] [])) (fun _ kk => XS.icmpNo X12.here hx rfl (hb hby down_hash_11) rfl (XT.ii_ge_f hc15) kk) ?_
        refine own_st (G := T11.setTop (mkF m 15 #[.val (.ref a), .val (.ref b), .val (.int (0 : Int32)), .val (.long v33), .second, .val (.int (2 : Int32))] [(.long v33)])) (fun _ kk => XS.lloadN X12.here hx rfl (hb hby down_hash_14) rfl kk) ?_
        refine own_st (G := T11.setTop (mkF m 16 #[.val (.ref a), .val (.ref b), .val (.int (0 : Int32)), .val (.long v33), .second, .val (.int (2 : Int32))] [(.ref b), (.long v33)])) (fun _ kk => XS.aloadN X12.here hx rfl (hb hby down_hash_15) rfl rfl kk) ?_
        refine own_st (G := T11.setTop (mkF m 17 #[.val (.ref a), .val (.ref b), .val (.int (0 : Int32)), .val (.long v33), .second, .val (.int (2 : Int32))] [(.int (0 : Int32)), (.ref b), (.long v33)])) (fun _ kk => XS.iloadN X12.here hx rfl (hb hby down_hash_16) rfl kk) ?_
        refine own_st (G := T11.setTop (mkF m 19 #[.val (.ref a), .val (.ref b), .val (.int (0 : Int32)), .val (.long v33), .second, .val (.int (2 : Int32))] [(.int (2 : Int32)), (.int (0 : Int32)), (.ref b), (.long v33)])) (fun _ kk => XS.iload X12.here hx rfl (hb hby down_hash_17) rfl kk) ?_
        refine own_st (G := T11.setTop (mkF m 20 #[.val (.ref a), .val (.ref b), .val (.int (0 : Int32)), .val (.long v33), .second, .val (.int (2 : Int32))] [(.int ((0 : Int32) + (2 : Int32))), (.ref b), (.long v33)])) (fun _ kk => XS.iadd X12.here hx rfl (hb hby down_hash_19) rfl kk) ?_
        rw [show ((0 : Int32) + (2 : Int32)) = (2 : Int32) from by decide +kernel]
        refine own_laload X12 hx hZ e13 Fb (j := (2 : Int32)) (i := 2) (by decide) rfl (by decide) (hb hby down_hash_20) ?_
        show own_Out _ _ _ _ (T11.setTop (mkF m 21 #[.val (.ref a), .val (.ref b), .val (.int (0 : Int32)), .val (.long v33), .second, .val (.int (2 : Int32))] [(.long (fb 2)), (.long v33)]))
        refine own_st (G := T11.setTop (mkF m 22 #[.val (.ref a), .val (.ref b), .val (.int (0 : Int32)), .val (.long v33), .second, .val (.int (2 : Int32))] [(.long (v33 ^^^ (fb 2)))])) (fun _ kk => XS.lxor X12.here hx rfl (hb hby down_hash_21) rfl kk) ?_
        refine own_st (G := T11.setTop (mkF m 25 #[.val (.ref a), .val (.ref b), .val (.int (0 : Int32)), .val (.long v33), .second, .val (.int (2 : Int32))] [(.long (-7046029254386353131 : Int64)), (.long (v33 ^^^ (fb 2)))])) (fun _ kk => X12.ldc2Long hx hown (mvT hZ (own_w hw 26 rfl)) (g := (mkF m 22 #[.val (.ref a), .val (.ref b), .val (.int (0 : Int32)), .val (.long v33), .second, .val (.int (2 : Int32))] [(.long (v33 ^^^ (fb 2)))])) rfl (hb hby down_hash_22) _ kk) ?_
        refine own_st (G := T11.setTop (mkF m 26 #[.val (.ref a), .val (.ref b), .val (.int (0 : Int32)), .val (.long v33), .second, .val (.int (2 : Int32))] [(.long ((v33 ^^^ (fb 2)) * (-7046029254386353131 : Int64)))])) (fun _ kk => XS.lmul X12.here hx rfl (hb hby down_hash_25) rfl kk) ?_
        generalize hv26 : ((v33 ^^^ (fb 2)) * (-7046029254386353131 : Int64)) = v26
        refine own_st (G := T11.setTop (mkF m 27 #[.val (.ref a), .val (.ref b), .val (.int (0 : Int32)), .val (.long v26), .second, .val (.int (2 : Int32))] [])) (fun _ kk => XS.lstoreN X12.here hx rfl (hb hby down_hash_26) rfl (l' := #[.val (.ref a), .val (.ref b), .val (.int (0 : Int32)), .val (.long v26), .second, .val (.int (2 : Int32))]) rfl kk) ?_
        refine own_st (G := T11.setTop (mkF m 28 #[.val (.ref a), .val (.ref b), .val (.int (0 : Int32)), .val (.long v26), .second, .val (.int (2 : Int32))] [(.long v26)])) (fun _ kk => XS.lloadN X12.here hx rfl (hb hby down_hash_27) rfl kk) ?_
        refine own_st (G := T11.setTop (mkF m 29 #[.val (.ref a), .val (.ref b), .val (.int (0 : Int32)), .val (.long v26), .second, .val (.int (2 : Int32))] [(.long v26), (.long v26)])) (fun _ kk => XS.lloadN X12.here hx rfl (hb hby down_hash_28) rfl kk) ?_
        refine own_st (G := T11.setTop (mkF m 31 #[.val (.ref a), .val (.ref b), .val (.int (0 : Int32)), .val (.long v26), .second, .val (.int (2 : Int32))] [(.int (29 : Int32)), (.long v26), (.long v26)])) (fun _ kk => XT.bipushV X12.here hx rfl (29 : Int32) (hb hby down_hash_29) (by decide) kk) ?_
        refine own_st (G := T11.setTop (mkF m 32 #[.val (.ref a), .val (.ref b), .val (.int (0 : Int32)), .val (.long v26), .second, .val (.int (2 : Int32))] [(.long (XT.ushrL v26 (29 : Int32))), (.long v26)])) (fun _ kk => XT.lushr X12.here hx rfl (hb hby down_hash_31) rfl kk) ?_
        refine own_st (G := T11.setTop (mkF m 33 #[.val (.ref a), .val (.ref b), .val (.int (0 : Int32)), .val (.long v26), .second, .val (.int (2 : Int32))] [(.long (v26 ^^^ (XT.ushrL v26 (29 : Int32))))])) (fun _ kk => XS.lxor X12.here hx rfl (hb hby down_hash_32) rfl kk) ?_
        generalize hv33 : (v26 ^^^ (XT.ushrL v26 (29 : Int32))) = v33
        refine own_st (G := T11.setTop (mkF m 34 #[.val (.ref a), .val (.ref b), .val (.int (0 : Int32)), .val (.long v33), .second, .val (.int (2 : Int32))] [])) (fun _ kk => XS.lstoreN X12.here hx rfl (hb hby down_hash_33) rfl (l' := #[.val (.ref a), .val (.ref b), .val (.int (0 : Int32)), .val (.long v33), .second, .val (.int (2 : Int32))]) rfl kk) ?_
        refine own_st (G := T11.setTop (mkF m 37 #[.val (.ref a), .val (.ref b), .val (.int (0 : Int32)), .val (.long v33), .second, .val (.int ((2 : Int32) + (1 : Int32)))] [])) (fun _ kk => XT.iincV X12.here hx rfl (1 : Int32) (hb hby down_hash_34) (by decide) rfl (l' := #[.val (.ref a), .val (.ref b), .val (.int (0 : Int32)), .val (.long v33), .second, .val (.int ((2 : Int32) + (1 : Int32)))]) rfl kk) ?_
        rw [show ((2 : Int32) + (1 : Int32)) = (3 : Int32) from by decide +kernel]
        refine own_st (G := T11.setTop (mkF m 5 #[.val (.ref a), .val (.ref b), .val (.int (0 : Int32)), .val (.long v33), .second, .val (.int (3 : Int32))] [])) (fun _ kk => XS.goto X12.here hx rfl (pc0 := 37) (pc' := 5) rfl (hb hby down_hash_37) (by decide) (by decide) kk) ?_
        refine own_st (G := T11.setTop (mkF m 7 #[.val (.ref a), .val (.ref b), .val (.int (0 : Int32)), .val (.long v33), .second, .val (.int (3 : Int32))] [(.int (3 : Int32))])) (fun _ kk => XS.iload X12.here hx rfl (hb hby down_hash_5) rfl kk) ?_
        refine own_st (G := T11.setTop (mkF m 8 #[.val (.ref a), .val (.ref b), .val (.int (0 : Int32)), .val (.long v33), .second, .val (.int (3 : Int32))] [(.ref a), (.int (3 : Int32))])) (fun _ kk => XS.aloadN X12.here hx rfl (hb hby down_hash_7) rfl rfl kk) ?_
        obtain ⟨T16, X17, e18, st19⟩ := getF X12 hx hZ hown (host := "") (Or.inl (own_w hw 10 rfl)) Via.refl e13 (O).2.1 (g := (mkF m 8 #[.val (.ref a), .val (.ref b), .val (.int (0 : Int32)), .val (.long v33), .second, .val (.int (3 : Int32))] [(.ref a), (.int (3 : Int32))])) rfl rfl (hb hby down_hash_8)
        refine own_st st19 ?_
        show own_Out _ _ _ _ (T16.setTop (mkF m 11 #[.val (.ref a), .val (.ref b), .val (.int (0 : Int32)), .val (.long v33), .second, .val (.int (3 : Int32))] [(.int W), (.int (3 : Int32))]))
        have hk20 : ¬ ((3 : Int32) < W) := hW3
        refine own_st (G := T16.setTop (mkF m 40 #[.val (.ref a), .val (.ref b), .val (.int (0 : Int32)), .val (.long v33), .second, .val (.int (3 : Int32))] [])) (fun _ kk => XS.icmpYes X17.here hx rfl (pc0 := 11) (pc' := 40) rfl (hb hby down_hash_11) rfl (XT.ii_ge_t hk20) (by decide) (by decide) kk) ?_
        refine own_st (G := T16.setTop (mkF m 41 #[.val (.ref a), .val (.ref b), .val (.int (0 : Int32)), .val (.long v33), .second, .val (.int (3 : Int32))] [(.long v33)])) (fun _ kk => XS.lloadN X17.here hx rfl (hb hby down_hash_40) rfl kk) ?_
        refine own_st (G := T16.setTop (mkF m 42 #[.val (.ref a), .val (.ref b), .val (.int (0 : Int32)), .val (.long v33), .second, .val (.int (3 : Int32))] [(.long v33), (.long v33)])) (fun _ kk => XS.lloadN X17.here hx rfl (hb hby down_hash_41) rfl kk) ?_
        refine own_st (G := T16.setTop (mkF m 44 #[.val (.ref a), .val (.ref b), .val (.int (0 : Int32)), .val (.long v33), .second, .val (.int (3 : Int32))] [(.int (32 : Int32)), (.long v33), (.long v33)])) (fun _ kk => XT.bipushV X17.here hx rfl (32 : Int32) (hb hby down_hash_42) (by decide) kk) ?_
        refine own_st (G := T16.setTop (mkF m 45 #[.val (.ref a), .val (.ref b), .val (.int (0 : Int32)), .val (.long v33), .second, .val (.int (3 : Int32))] [(.long (XT.ushrL v33 (32 : Int32))), (.long v33)])) (fun _ kk => XT.lushr X17.here hx rfl (hb hby down_hash_44) rfl kk) ?_
        refine own_st (G := T16.setTop (mkF m 46 #[.val (.ref a), .val (.ref b), .val (.int (0 : Int32)), .val (.long v33), .second, .val (.int (3 : Int32))] [(.long (v33 ^^^ (XT.ushrL v33 (32 : Int32))))])) (fun _ kk => XS.lxor X17.here hx rfl (hb hby down_hash_45) rfl kk) ?_
        generalize hv46 : (v33 ^^^ (XT.ushrL v33 (32 : Int32))) = v46
        refine own_st (G := T16.setTop (mkF m 47 #[.val (.ref a), .val (.ref b), .val (.int (0 : Int32)), .val (.long v46), .second, .val (.int (3 : Int32))] [])) (fun _ kk => XS.lstoreN X17.here hx rfl (hb hby down_hash_46) rfl (l' := #[.val (.ref a), .val (.ref b), .val (.int (0 : Int32)), .val (.long v46), .second, .val (.int (3 : Int32))]) rfl kk) ?_
        refine own_st (G := T16.setTop (mkF m 48 #[.val (.ref a), .val (.ref b), .val (.int (0 : Int32)), .val (.long v46), .second, .val (.int (3 : Int32))] [(.long v46)])) (fun _ kk => XS.lloadN X17.here hx rfl (hb hby down_hash_47) rfl kk) ?_
        refine own_st (G := T16.setTop (mkF m 49 #[.val (.ref a), .val (.ref b), .val (.int (0 : Int32)), .val (.long v46), .second, .val (.int (3 : Int32))] [(.int v46.toInt32)])) (fun _ kk => XS.l2i X17.here hx rfl (hb hby down_hash_48) rfl kk) ?_
        refine own_retI X17 hx hret hlk (hb hby down_hash_49) (by decide) (by decide) ?_
        exact ⟨⟨_, rfl⟩, rfl, e18⟩
      · skip
        refine own_st (G := T11.setTop (mkF m 40 #[.val (.ref a), .val (.ref b), .val (.int (0 : Int32)), .val (.long v33), .second, .val (.int (2 : Int32))] [])) (fun _ kk => XS.icmpYes X12.here hx rfl (pc0 := 11) (pc' := 40) rfl (hb hby down_hash_11) rfl (XT.ii_ge_t hc15) (by decide) (by decide) kk) ?_
        refine own_st (G := T11.setTop (mkF m 41 #[.val (.ref a), .val (.ref b), .val (.int (0 : Int32)), .val (.long v33), .second, .val (.int (2 : Int32))] [(.long v33)])) (fun _ kk => XS.lloadN X12.here hx rfl (hb hby down_hash_40) rfl kk) ?_
        refine own_st (G := T11.setTop (mkF m 42 #[.val (.ref a), .val (.ref b), .val (.int (0 : Int32)), .val (.long v33), .second, .val (.int (2 : Int32))] [(.long v33), (.long v33)])) (fun _ kk => XS.lloadN X12.here hx rfl (hb hby down_hash_41) rfl kk) ?_
        refine own_st (G := T11.setTop (mkF m 44 #[.val (.ref a), .val (.ref b), .val (.int (0 : Int32)), .val (.long v33), .second, .val (.int (2 : Int32))] [(.int (32 : Int32)), (.long v33), (.long v33)])) (fun _ kk => XT.bipushV X12.here hx rfl (32 : Int32) (hb hby down_hash_42) (by decide) kk) ?_
        refine own_st (G := T11.setTop (mkF m 45 #[.val (.ref a), .val (.ref b), .val (.int (0 : Int32)), .val (.long v33), .second, .val (.int (2 : Int32))] [(.long (XT.ushrL v33 (32 : Int32))), (.long v33)])) (fun _ kk => XT.lushr X12.here hx rfl (hb hby down_hash_44) rfl kk) ?_
        refine own_st (G := T11.setTop (mkF m 46 #[.val (.ref a), .val (.ref b), .val (.int (0 : Int32)), .val (.long v33), .second, .val (.int (2 : Int32))] [(.long (v33 ^^^ (XT.ushrL v33 (32 : Int32))))])) (fun _ kk => XS.lxor X12.here hx rfl (hb hby down_hash_45) rfl kk) ?_
        generalize hv46 : (v33 ^^^ (XT.ushrL v33 (32 : Int32))) = v46
        refine own_st (G := T11.setTop (mkF m 47 #[.val (.ref a), .val (.ref b), .val (.int (0 : Int32)), .val (.long v46), .second, .val (.int (2 : Int32))] [])) (fun _ kk => XS.lstoreN X12.here hx rfl (hb hby down_hash_46) rfl (l' := #[.val (.ref a), .val (.ref b), .val (.int (0 : Int32)), .val (.long v46), .second, .val (.int (2 : Int32))]) rfl kk) ?_
        refine own_st (G := T11.setTop (mkF m 48 #[.val (.ref a), .val (.ref b), .val (.int (0 : Int32)), .val (.long v46), .second, .val (.int (2 : Int32))] [(.long v46)])) (fun _ kk => XS.lloadN X12.here hx rfl (hb hby down_hash_47) rfl kk) ?_
        refine own_st (G := T11.setTop (mkF m 49 #[.val (.ref a), .val (.ref b), .val (.int (0 : Int32)), .val (.long v46), .second, .val (.int (2 : Int32))] [(.int v46.toInt32)])) (fun _ kk => XS.l2i X12.here hx rfl (hb hby down_hash_48) rfl kk) ?_
        refine own_retI X12 hx hret hlk (hb hby down_hash_49) (by decide) (by decide) ?_
        exact ⟨⟨_, rfl⟩, rfl, e13⟩
    · skip
      refine own_st (G := T6.setTop (mkF m 40 #[.val (.ref a), .val (.ref b), .val (.int (0 : Int32)), .val (.long v33), .second, .val (.int (1 : Int32))] [])) (fun _ kk => XS.icmpYes X7.here hx rfl (pc0 := 11) (pc' := 40) rfl (hb hby down_hash_11) rfl (XT.ii_ge_t hc10) (by decide) (by decide) kk) ?_
      refine own_st (G := T6.setTop (mkF m 41 #[.val (.ref a), .val (.ref b), .val (.int (0 : Int32)), .val (.long v33), .second, .val (.int (1 : Int32))] [(.long v33)])) (fun _ kk => XS.lloadN X7.here hx rfl (hb hby down_hash_40) rfl kk) ?_
      refine own_st (G := T6.setTop (mkF m 42 #[.val (.ref a), .val (.ref b), .val (.int (0 : Int32)), .val (.long v33), .second, .val (.int (1 : Int32))] [(.long v33), (.long v33)])) (fun _ kk => XS.lloadN X7.here hx rfl (hb hby down_hash_41) rfl kk) ?_
      refine own_st (G := T6.setTop (mkF m 44 #[.val (.ref a), .val (.ref b), .val (.int (0 : Int32)), .val (.long v33), .second, .val (.int (1 : Int32))] [(.int (32 : Int32)), (.long v33), (.long v33)])) (fun _ kk => XT.bipushV X7.here hx rfl (32 : Int32) (hb hby down_hash_42) (by decide) kk) ?_
      refine own_st (G := T6.setTop (mkF m 45 #[.val (.ref a), .val (.ref b), .val (.int (0 : Int32)), .val (.long v33), .second, .val (.int (1 : Int32))] [(.long (XT.ushrL v33 (32 : Int32))), (.long v33)])) (fun _ kk => XT.lushr X7.here hx rfl (hb hby down_hash_44) rfl kk) ?_
      refine own_st (G := T6.setTop (mkF m 46 #[.val (.ref a), .val (.ref b), .val (.int (0 : Int32)), .val (.long v33), .second, .val (.int (1 : Int32))] [(.long (v33 ^^^ (XT.ushrL v33 (32 : Int32))))])) (fun _ kk => XS.lxor X7.here hx rfl (hb hby down_hash_45) rfl kk) ?_
      generalize hv46 : (v33 ^^^ (XT.ushrL v33 (32 : Int32))) = v46
      refine own_st (G := T6.setTop (mkF m 47 #[.val (.ref a), .val (.ref b), .val (.int (0 : Int32)), .val (.long v46), .second, .val (.int (1 : Int32))] [])) (fun _ kk => XS.lstoreN X7.here hx rfl (hb hby down_hash_46) rfl (l' := #[.val (.ref a), .val (.ref b), .val (.int (0 : Int32)), .val (.long v46), .second, .val (.int (1 : Int32))]) rfl kk) ?_
      refine own_st (G := T6.setTop (mkF m 48 #[.val (.ref a), .val (.ref b), .val (.int (0 : Int32)), .val (.long v46), .second, .val (.int (1 : Int32))] [(.long v46)])) (fun _ kk => XS.lloadN X7.here hx rfl (hb hby down_hash_47) rfl kk) ?_
      refine own_st (G := T6.setTop (mkF m 49 #[.val (.ref a), .val (.ref b), .val (.int (0 : Int32)), .val (.long v46), .second, .val (.int (1 : Int32))] [(.int v46.toInt32)])) (fun _ kk => XS.l2i X7.here hx rfl (hb hby down_hash_48) rfl kk) ?_
      refine own_retI X7 hx hret hlk (hb hby down_hash_49) (by decide) (by decide) ?_
      exact ⟨⟨_, rfl⟩, rfl, e8⟩
  · skip
    refine own_st (G := T1.setTop (mkF m 40 #[.val (.ref a), .val (.ref b), .val (.int (0 : Int32)), .val (.long (0 : Int64)), .second, .val (.int (0 : Int32))] [])) (fun _ kk => XS.icmpYes X2.here hx rfl (pc0 := 11) (pc' := 40) rfl (hb hby down_hash_11) rfl (XT.ii_ge_t hc5) (by decide) (by decide) kk) ?_
    refine own_st (G := T1.setTop (mkF m 41 #[.val (.ref a), .val (.ref b), .val (.int (0 : Int32)), .val (.long (0 : Int64)), .second, .val (.int (0 : Int32))] [(.long (0 : Int64))])) (fun _ kk => XS.lloadN X2.here hx rfl (hb hby down_hash_40) rfl kk) ?_
    refine own_st (G := T1.setTop (mkF m 42 #[.val (.ref a), .val (.ref b), .val (.int (0 : Int32)), .val (.long (0 : Int64)), .second, .val (.int (0 : Int32))] [(.long (0 : Int64)), (.long (0 : Int64))])) (fun _ kk => XS.lloadN X2.here hx rfl (hb hby down_hash_41) rfl kk) ?_
    refine own_st (G := T1.setTop (mkF m 44 #[.val (.ref a), .val (.ref b), .val (.int (0 : Int32)), .val (.long (0 : Int64)), .second, .val (.int (0 : Int32))] [(.int (32 : Int32)), (.long (0 : Int64)), (.long (0 : Int64))])) (fun _ kk => XT.bipushV X2.here hx rfl (32 : Int32) (hb hby down_hash_42) (by decide) kk) ?_
    refine own_st (G := T1.setTop (mkF m 45 #[.val (.ref a), .val (.ref b), .val (.int (0 : Int32)), .val (.long (0 : Int64)), .second, .val (.int (0 : Int32))] [(.long (XT.ushrL (0 : Int64) (32 : Int32))), (.long (0 : Int64))])) (fun _ kk => XT.lushr X2.here hx rfl (hb hby down_hash_44) rfl kk) ?_
    refine own_st (G := T1.setTop (mkF m 46 #[.val (.ref a), .val (.ref b), .val (.int (0 : Int32)), .val (.long (0 : Int64)), .second, .val (.int (0 : Int32))] [(.long ((0 : Int64) ^^^ (XT.ushrL (0 : Int64) (32 : Int32))))])) (fun _ kk => XS.lxor X2.here hx rfl (hb hby down_hash_45) rfl kk) ?_
    generalize hv46 : ((0 : Int64) ^^^ (XT.ushrL (0 : Int64) (32 : Int32))) = v46
    refine own_st (G := T1.setTop (mkF m 47 #[.val (.ref a), .val (.ref b), .val (.int (0 : Int32)), .val (.long v46), .second, .val (.int (0 : Int32))] [])) (fun _ kk => XS.lstoreN X2.here hx rfl (hb hby down_hash_46) rfl (l' := #[.val (.ref a), .val (.ref b), .val (.int (0 : Int32)), .val (.long v46), .second, .val (.int (0 : Int32))]) rfl kk) ?_
    refine own_st (G := T1.setTop (mkF m 48 #[.val (.ref a), .val (.ref b), .val (.int (0 : Int32)), .val (.long v46), .second, .val (.int (0 : Int32))] [(.long v46)])) (fun _ kk => XS.lloadN X2.here hx rfl (hb hby down_hash_47) rfl kk) ?_
    refine own_st (G := T1.setTop (mkF m 49 #[.val (.ref a), .val (.ref b), .val (.int (0 : Int32)), .val (.long v46), .second, .val (.int (0 : Int32))] [(.int v46.toInt32)])) (fun _ kk => XS.l2i X2.here hx rfl (hb hby down_hash_48) rfl kk) ?_
    refine own_retI X2 hx hret hlk (hb hby down_hash_49) (by decide) (by decide) ?_
    exact ⟨⟨_, rfl⟩, rfl, e3⟩
theorem pn_own_holds : plainFor (⟨"com/example/libbuchi/libbuchi/automata/PackedStates", "holds", "(I[J)Z"⟩ : MethodName) = true := by first | exact plainFor_of_name (by first | (simp [plainName, overriddenIn]; done) | decide +kernel) | decide +kernel
theorem down_holds_0 : decode prog_34_method_5_code 0 = .ok (.iload_n 1, 1) := by decide +kernel
theorem down_holds_1 : decode prog_34_method_5_code 1 = .ok (.aload_n 0, 1) := by decide +kernel
theorem down_holds_2 : decode prog_34_method_5_code 2 = .ok (.getfield 9, 3) := by decide +kernel
theorem down_holds_5 : decode prog_34_method_5_code 5 = .ok (.imul, 1) := by decide +kernel
theorem down_holds_6 : decode prog_34_method_5_code 6 = .ok (.istore_n 3, 1) := by decide +kernel
theorem down_holds_7 : decode prog_34_method_5_code 7 = .ok (.iconst 0, 1) := by decide +kernel
theorem down_holds_8 : decode prog_34_method_5_code 8 = .ok (.istore 4, 2) := by decide +kernel
theorem down_holds_10 : decode prog_34_method_5_code 10 = .ok (.iload 4, 2) := by decide +kernel
theorem down_holds_12 : decode prog_34_method_5_code 12 = .ok (.aload_n 0, 1) := by decide +kernel
theorem down_holds_13 : decode prog_34_method_5_code 13 = .ok (.getfield 9, 3) := by decide +kernel
theorem down_holds_16 : decode prog_34_method_5_code 16 = .ok (.if_icmp .ge 28, 3) := by decide +kernel
theorem down_holds_19 : decode prog_34_method_5_code 19 = .ok (.aload_n 0, 1) := by decide +kernel
theorem down_holds_20 : decode prog_34_method_5_code 20 = .ok (.getfield 15, 3) := by decide +kernel
theorem down_holds_23 : decode prog_34_method_5_code 23 = .ok (.iload_n 3, 1) := by decide +kernel
theorem down_holds_24 : decode prog_34_method_5_code 24 = .ok (.iload 4, 2) := by decide +kernel
theorem down_holds_26 : decode prog_34_method_5_code 26 = .ok (.iadd, 1) := by decide +kernel
theorem down_holds_27 : decode prog_34_method_5_code 27 = .ok (.laload, 1) := by decide +kernel
theorem down_holds_28 : decode prog_34_method_5_code 28 = .ok (.aload_n 2, 1) := by decide +kernel
theorem down_holds_29 : decode prog_34_method_5_code 29 = .ok (.iload 4, 2) := by decide +kernel
theorem down_holds_31 : decode prog_34_method_5_code 31 = .ok (.laload, 1) := by decide +kernel
theorem down_holds_32 : decode prog_34_method_5_code 32 = .ok (.lcmp, 1) := by decide +kernel
theorem down_holds_33 : decode prog_34_method_5_code 33 = .ok (.ifCond .eq 5, 3) := by decide +kernel
theorem down_holds_36 : decode prog_34_method_5_code 36 = .ok (.iconst 0, 1) := by decide +kernel
theorem down_holds_37 : decode prog_34_method_5_code 37 = .ok (.ireturn, 1) := by decide +kernel
theorem down_holds_38 : decode prog_34_method_5_code 38 = .ok (.iinc 4 1, 3) := by decide +kernel
theorem down_holds_41 : decode prog_34_method_5_code 41 = .ok (.goto (-31), 3) := by decide +kernel
theorem down_holds_44 : decode prog_34_method_5_code 44 = .ok (.iconst 1, 1) := by decide +kernel
theorem down_holds_45 : decode prog_34_method_5_code 45 = .ok (.ireturn, 1) := by decide +kernel
def Q_own_holds (Z : State) (nn : Int32) (a b wa sa : Addr) (W k : Int32) (fw fb : Nat → Int64) (q : Nat) (h0 : Heap) (n0 : Nat) (v : Option Value) (h : Heap) (L : List Loc) : Prop := ∃ r : Int32, v = some (.int r) ∧ L = [] ∧ h = h0 ∧ (r ≠ 0 → ∀ i, i < W.toNatClampNeg → fw (q + i) = fb i)
set_option maxRecDepth 65536 in
set_option maxHeartbeats 40000000 in
theorem own_holds (l : Launch) (Z : State) (a0 : Array Value) (hw : ∀ d ∈ tables_1, d.before a0 Z = true) (ws : List Jvm.Cond) (nn : Int32) (a b wa sa : Addr) (W k : Int32) (fw fb : Nat → Int64) (q : Nat) (h0 : Heap) (n0 : Nat) (O : own_P Z h0 a W (.ref wa) (.ref sa) k) (Fw : own_AJ Z h0 wa (own_nw W) fw) (Fb : own_AJ Z h0 b 3 fb) (hW : own_hW W) (hq1 : (nn * W).toInt = (q : Int)) (hq2 : q + W.toNatClampNeg ≤ (own_nw W)) (hq3 : q + 3 < 2147483648) :
    MetFree l (⟨"com/example/libbuchi/libbuchi/automata/PackedStates", "holds", "(I[J)Z"⟩ : MethodName) (head1 (Jvm.Cond.code (⟨"com/example/libbuchi/libbuchi/automata/PackedStates", "holds", "(I[J)Z"⟩ : MethodName) prog_34_method_5_code 5 (some (.boolean)) :: ws) ({ frames := 0, cells := 0, slots := 0, locals := 0 } : Room)) (fun aa U => aa = #[(.ref a), (.int nn), (.ref b)] ∧ Z.Warmed39 U.vm ∧ U.heap = h0) (fun _ _ _ _ _ => True) (fun _ U o U' => ∃ v L, o = .returned v ∧ Q_own_holds Z nn a b wa sa W k fw fb q h0 n0 v U'.heap L ∧ FrameEnd U o U' L ({ frames := 0, cells := 0, slots := 0, locals := 0 } : Room).cells ({ frames := 0, cells := 0, slots := 0, locals := 0 } : Room).slots) := by
  refine own_body (x := (⟨"com/example/libbuchi/libbuchi/automata/PackedStates", "holds", "(I[J)Z"⟩ : MethodName)) (maxL := 5) (as' := #[(.ref a), (.int nn), (.ref b)]) (Q := Q_own_holds Z nn a b wa sa W k fw fb q h0 n0) pn_own_holds #[.val (.ref a), .val (.int nn), .val (.ref b), .unset, .unset] (fun m => by first | (simp [entryFrame, mkF, argsToLocals, Value.category]; done) | rfl) ?_
  intro p e s m below meth c T0 X0 hx hby hml hret hlk hown hnm hZ e0
  replace hml : c.maxLocals = 5 := hml
  replace hown : s.vm.findClass "com/example/libbuchi/libbuchi/automata/PackedStates" = some m.cls := hown
  have N0 := Fr.nil n0
  have hW3 := (own_hWn hW).2.2.1
  refine own_st (G := T0.setTop (mkF m 1 #[.val (.ref a), .val (.int nn), .val (.ref b), .unset, .unset] [(.int nn)])) (fun _ kk => XS.iloadN X0.here hx rfl (hb hby down_holds_0) rfl kk) ?_
  refine own_st (G := T0.setTop (mkF m 2 #[.val (.ref a), .val (.int nn), .val (.ref b), .unset, .unset] [(.ref a), (.int nn)])) (fun _ kk => XS.aloadN X0.here hx rfl (hb hby down_holds_1) rfl rfl kk) ?_
  obtain ⟨T1, X2, e3, st4⟩ := getF X0 hx hZ hown (host := "") (Or.inl (own_w hw 10 rfl)) Via.refl e0 (O).2.1 (g := (mkF m 2 #[.val (.ref a), .val (.int nn), .val (.ref b), .unset, .unset] [(.ref a), (.int nn)])) rfl rfl (hb hby down_holds_2)
  refine own_st st4 ?_
  show own_Out _ _ _ _ (T1.setTop (mkF m 5 #[.val (.ref a), .val (.int nn), .val (.ref b), .unset, .unset] [(.int W), (.int nn)]))
  refine own_st (G := T1.setTop (mkF m 6 #[.val (.ref a), .val (.int nn), .val (.ref b), .unset, .unset] [(.int (nn * W))])) (fun _ kk => XS.imul X2.here hx rfl (hb hby down_holds_5) rfl kk) ?_
  generalize hv6 : (nn * W) = v6
  refine own_st (G := T1.setTop (mkF m 7 #[.val (.ref a), .val (.int nn), .val (.ref b), .val (.int v6), .unset] [])) (fun _ kk => XS.istoreN X2.here hx rfl (hb hby down_holds_6) rfl (l' := #[.val (.ref a), .val (.int nn), .val (.ref b), .val (.int v6), .unset]) rfl kk) ?_
  refine own_st (G := T1.setTop (mkF m 8 #[.val (.ref a), .val (.int nn), .val (.ref b), .val (.int v6), .unset] [(.int (0 : Int32))])) (fun _ kk => XT.iconstV X2.here hx rfl (0 : Int32) (hb hby down_holds_7) (by decide) kk) ?_
  refine own_st (G := T1.setTop (mkF m 10 #[.val (.ref a), .val (.int nn), .val (.ref b), .val (.int v6), .val (.int (0 : Int32))] [])) (fun _ kk => XS.istore X2.here hx rfl (hb hby down_holds_8) rfl (l' := #[.val (.ref a), .val (.int nn), .val (.ref b), .val (.int v6), .val (.int (0 : Int32))]) rfl kk) ?_
  refine own_st (G := T1.setTop (mkF m 12 #[.val (.ref a), .val (.int nn), .val (.ref b), .val (.int v6), .val (.int (0 : Int32))] [(.int (0 : Int32))])) (fun _ kk => XS.iload X2.here hx rfl (hb hby down_holds_10) rfl kk) ?_
  refine own_st (G := T1.setTop (mkF m 13 #[.val (.ref a), .val (.int nn), .val (.ref b), .val (.int v6), .val (.int (0 : Int32))] [(.ref a), (.int (0 : Int32))])) (fun _ kk => XS.aloadN X2.here hx rfl (hb hby down_holds_12) rfl rfl kk) ?_
  obtain ⟨T5, X6, e7, st8⟩ := getF X2 hx hZ hown (host := "") (Or.inl (own_w hw 10 rfl)) Via.refl e3 (O).2.1 (g := (mkF m 13 #[.val (.ref a), .val (.int nn), .val (.ref b), .val (.int v6), .val (.int (0 : Int32))] [(.ref a), (.int (0 : Int32))])) rfl rfl (hb hby down_holds_13)
  refine own_st st8 ?_
  show own_Out _ _ _ _ (T5.setTop (mkF m 16 #[.val (.ref a), .val (.int nn), .val (.ref b), .val (.int v6), .val (.int (0 : Int32))] [(.int W), (.int (0 : Int32))]))
  by_cases hc9 : (0 : Int32) < W
  · skip
    refine own_st (G := T5.setTop (mkF m 19 #[.val (.ref a), .val (.int nn), .val (.ref b), .val (.int v6), .val (.int (0 : Int32))] [])) (fun _ kk => XS.icmpNo X6.here hx rfl (hb hby down_holds_16) rfl (XT.ii_ge_f hc9) kk) ?_
    refine own_st (G := T5.setTop (mkF m 20 #[.val (.ref a), .val (.int nn), .val (.ref b), .val (.int v6), .val (.int (0 : Int32))] [(.ref a)])) (fun _ kk => XS.aloadN X6.here hx rfl (hb hby down_holds_19) rfl rfl kk) ?_
    obtain ⟨T10, X11, e12, st13⟩ := getF X6 hx hZ hown (host := "") (Or.inl (own_w hw 12 rfl)) Via.refl e7 (O).2.2.1 (g := (mkF m 20 #[.val (.ref a), .val (.int nn), .val (.ref b), .val (.int v6), .val (.int (0 : Int32))] [(.ref a)])) rfl rfl (hb hby down_holds_20)
    refine own_st st13 ?_
    show own_Out _ _ _ _ (T10.setTop (mkF m 23 #[.val (.ref a), .val (.int nn), .val (.ref b), .val (.int v6), .val (.int (0 : Int32))] [(.ref wa)]))
    refine own_st (G := T10.setTop (mkF m 24 #[.val (.ref a), .val (.int nn), .val (.ref b), .val (.int v6), .val (.int (0 : Int32))] [(.int v6), (.ref wa)])) (fun _ kk => XS.iloadN X11.here hx rfl (hb hby down_holds_23) rfl kk) ?_
    refine own_st (G := T10.setTop (mkF m 26 #[.val (.ref a), .val (.int nn), .val (.ref b), .val (.int v6), .val (.int (0 : Int32))] [(.int (0 : Int32)), (.int v6), (.ref wa)])) (fun _ kk => XS.iload X11.here hx rfl (hb hby down_holds_24) rfl kk) ?_
    refine own_st (G := T10.setTop (mkF m 27 #[.val (.ref a), .val (.int nn), .val (.ref b), .val (.int v6), .val (.int (0 : Int32))] [(.int (v6 + (0 : Int32))), (.ref wa)])) (fun _ kk => XS.iadd X11.here hx rfl (hb hby down_holds_26) rfl kk) ?_
    have ix14 := own_ix (k := (0 : Int32)) (i := 0) (hv6 ▸ hq1) rfl (by omega)
    refine own_laload X11 hx hZ e12 Fw (j := (v6 + (0 : Int32))) (i := (q + 0)) ix14.1 ix14.2 (by have := (own_ltW hW).1.mp hc9; omega) (hb hby down_holds_27) ?_
    show own_Out _ _ _ _ (T10.setTop (mkF m 28 #[.val (.ref a), .val (.int nn), .val (.ref b), .val (.int v6), .val (.int (0 : Int32))] [(.long (fw (q + 0)))]))
    refine own_st (G := T10.setTop (mkF m 29 #[.val (.ref a), .val (.int nn), .val (.ref b), .val (.int v6), .val (.int (0 : Int32))] [(.ref b), (.long (fw (q + 0)))])) (fun _ kk => XS.aloadN X11.here hx rfl (hb hby down_holds_28) rfl rfl kk) ?_
    refine own_st (G := T10.setTop (mkF m 31 #[.val (.ref a), .val (.int nn), .val (.ref b), .val (.int v6), .val (.int (0 : Int32))] [(.int (0 : Int32)), (.ref b), (.long (fw (q + 0)))])) (fun _ kk => XS.iload X11.here hx rfl (hb hby down_holds_29) rfl kk) ?_
    refine own_laload X11 hx hZ e12 Fb (j := (0 : Int32)) (i := 0) (by decide) rfl (by decide) (hb hby down_holds_31) ?_
    show own_Out _ _ _ _ (T10.setTop (mkF m 32 #[.val (.ref a), .val (.int nn), .val (.ref b), .val (.int v6), .val (.int (0 : Int32))] [(.long (fb 0)), (.long (fw (q + 0)))]))
    refine own_st (G := T10.setTop (mkF m 33 #[.val (.ref a), .val (.int nn), .val (.ref b), .val (.int v6), .val (.int (0 : Int32))] [(.int (BdW.cmpL (fw (q + 0)) (fb 0)))])) (fun _ kk => XT.lcmp X11.here hx rfl (hb hby down_holds_32) rfl kk) ?_
    by_cases hc15 : (fw (q + 0)) = (fb 0)
    · skip
      refine own_st (G := T10.setTop (mkF m 38 #[.val (.ref a), .val (.int nn), .val (.ref b), .val (.int v6), .val (.int (0 : Int32))] [])) (fun _ kk => XS.ifYes X11.here hx rfl (pc0 := 33) (pc' := 38) rfl (hb hby down_holds_33) rfl (XT.ll_eq_t hc15) (by decide) (by decide) kk) ?_
      refine own_st (G := T10.setTop (mkF m 41 #[.val (.ref a), .val (.int nn), .val (.ref b), .val (.int v6), .val (.int ((0 : Int32) + (1 : Int32)))] [])) (fun _ kk => XT.iincV X11.here hx rfl (1 : Int32) (hb hby down_holds_38) (by decide) rfl (l' := #[.val (.ref a), .val (.int nn), .val (.ref b), .val (.int v6), .val (.int ((0 : Int32) + (1 : Int32)))]) rfl kk) ?_
      rw [show ((0 : Int32) + (1 : Int32)) = (1 : Int32) from by decide +kernel]
      refine own_st (G := T10.setTop (mkF m 10 #[.val (.ref a), .val (.int nn), .val (.ref b), .val (.int v6), .val (.int (1 : Int32))] [])) (fun _ kk => XS.goto X11.here hx rfl (pc0 := 41) (pc' := 10) rfl (hb hby down_holds_41) (by decide) (by decide) kk) ?_
      refine own_st (G := T10.setTop (mkF m 12 #[.val (.ref a), .val (.int nn), .val (.ref b), .val (.int v6), .val (.int (1 : Int32))] [(.int (1 : Int32))])) (fun _ kk => XS.iload X11.here hx rfl (hb hby down_holds_10) rfl kk) ?_
      refine own_st (G := T10.setTop (mkF m 13 #[.val (.ref a), .val (.int nn), .val (.ref b), .val (.int v6), .val (.int (1 : Int32))] [(.ref a), (.int (1 : Int32))])) (fun _ kk => XS.aloadN X11.here hx rfl (hb hby down_holds_12) rfl rfl kk) ?_
      obtain ⟨T16, X17, e18, st19⟩ := getF X11 hx hZ hown (host := "") (Or.inl (own_w hw 10 rfl)) Via.refl e12 (O).2.1 (g := (mkF m 13 #[.val (.ref a), .val (.int nn), .val (.ref b), .val (.int v6), .val (.int (1 : Int32))] [(.ref a), (.int (1 : Int32))])) rfl rfl (hb hby down_holds_13)
      refine own_st st19 ?_
      show own_Out _ _ _ _ (T16.setTop (mkF m 16 #[.val (.ref a), .val (.int nn), .val (.ref b), .val (.int v6), .val (.int (1 : Int32))] [(.int W), (.int (1 : Int32))]))
      by_cases hc20 : (1 : Int32) < W
      · skip
        refine own_st (G := T16.setTop (mkF m 19 #[.val (.ref a), .val (.int nn), .val (.ref b), .val (.int v6), .val (.int (1 : Int32))] [])) (fun _ kk => XS.icmpNo X17.here hx rfl (hb hby down_holds_16) rfl (XT.ii_ge_f hc20) kk) ?_
        refine own_st (G := T16.setTop (mkF m 20 #[.val (.ref a), .val (.int nn), .val (.ref b), .val (.int v6), .val (.int (1 : Int32))] [(.ref a)])) (fun _ kk => XS.aloadN X17.here hx rfl (hb hby down_holds_19) rfl rfl kk) ?_
        obtain ⟨T21, X22, e23, st24⟩ := getF X17 hx hZ hown (host := "") (Or.inl (own_w hw 12 rfl)) Via.refl e18 (O).2.2.1 (g := (mkF m 20 #[.val (.ref a), .val (.int nn), .val (.ref b), .val (.int v6), .val (.int (1 : Int32))] [(.ref a)])) rfl rfl (hb hby down_holds_20)
        refine own_st st24 ?_
        show own_Out _ _ _ _ (T21.setTop (mkF m 23 #[.val (.ref a), .val (.int nn), .val (.ref b), .val (.int v6), .val (.int (1 : Int32))] [(.ref wa)]))
        refine own_st (G := T21.setTop (mkF m 24 #[.val (.ref a), .val (.int nn), .val (.ref b), .val (.int v6), .val (.int (1 : Int32))] [(.int v6), (.ref wa)])) (fun _ kk => XS.iloadN X22.here hx rfl (hb hby down_holds_23) rfl kk) ?_
        refine own_st (G := T21.setTop (mkF m 26 #[.val (.ref a), .val (.int nn), .val (.ref b), .val (.int v6), .val (.int (1 : Int32))] [(.int (1 : Int32)), (.int v6), (.ref wa)])) (fun _ kk => XS.iload X22.here hx rfl (hb hby down_holds_24) rfl kk) ?_
        refine own_st (G := T21.setTop (mkF m 27 #[.val (.ref a), .val (.int nn), .val (.ref b), .val (.int v6), .val (.int (1 : Int32))] [(.int (v6 + (1 : Int32))), (.ref wa)])) (fun _ kk => XS.iadd X22.here hx rfl (hb hby down_holds_26) rfl kk) ?_
        have ix25 := own_ix (k := (1 : Int32)) (i := 1) (hv6 ▸ hq1) rfl (by omega)
        refine own_laload X22 hx hZ e23 Fw (j := (v6 + (1 : Int32))) (i := (q + 1)) ix25.1 ix25.2 (by have := (own_ltW hW).2.1.mp hc20; omega) (hb hby down_holds_27) ?_
        show own_Out _ _ _ _ (T21.setTop (mkF m 28 #[.val (.ref a), .val (.int nn), .val (.ref b), .val (.int v6), .val (.int (1 : Int32))] [(.long (fw (q + 1)))]))
        refine own_st (G := T21.setTop (mkF m 29 #[.val (.ref a), .val (.int nn), .val (.ref b), .val (.int v6), .val (.int (1 : Int32))] [(.ref b), (.long (fw (q + 1)))])) (fun _ kk => XS.aloadN X22.here hx rfl (hb hby down_holds_28) rfl rfl kk) ?_
        refine own_st (G := T21.setTop (mkF m 31 #[.val (.ref a), .val (.int nn), .val (.ref b), .val (.int v6), .val (.int (1 : Int32))] [(.int (1 : Int32)), (.ref b), (.long (fw (q + 1)))])) (fun _ kk => XS.iload X22.here hx rfl (hb hby down_holds_29) rfl kk) ?_
        refine own_laload X22 hx hZ e23 Fb (j := (1 : Int32)) (i := 1) (by decide) rfl (by decide) (hb hby down_holds_31) ?_
        show own_Out _ _ _ _ (T21.setTop (mkF m 32 #[.val (.ref a), .val (.int nn), .val (.ref b), .val (.int v6), .val (.int (1 : Int32))] [(.long (fb 1)), (.long (fw (q + 1)))]))
        refine own_st (G := T21.setTop (mkF m 33 #[.val (.ref a), .val (.int nn), .val (.ref b), .val (.int v6), .val (.int (1 : Int32))] [(.int (BdW.cmpL (fw (q + 1)) (fb 1)))])) (fun _ kk => XT.lcmp X22.here hx rfl (hb hby down_holds_32) rfl kk) ?_
        by_cases hc26 : (fw (q + 1)) = (fb 1)
        · skip
          refine own_st (G := T21.setTop (mkF m 38 #[.val (.ref a), .val (.int nn), .val (.ref b), .val (.int v6), .val (.int (1 : Int32))] [])) (fun _ kk => XS.ifYes X22.here hx rfl (pc0 := 33) (pc' := 38) rfl (hb hby down_holds_33) rfl (XT.ll_eq_t hc26) (by decide) (by decide) kk) ?_
          refine own_st (G := T21.setTop (mkF m 41 #[.val (.ref a), .val (.int nn), .val (.ref b), .val (.int v6), .val (.int ((1 : Int32) + (1 : Int32)))] [])) (fun _ kk => XT.iincV X22.here hx rfl (1 : Int32) (hb hby down_holds_38) (by decide) rfl (l' := #[.val (.ref a), .val (.int nn), .val (.ref b), .val (.int v6), .val (.int ((1 : Int32) + (1 : Int32)))]) rfl kk) ?_
          rw [show ((1 : Int32) + (1 : Int32)) = (2 : Int32) from by decide +kernel]
          refine own_st (G := T21.setTop (mkF m 10 #[.val (.ref a), .val (.int nn), .val (.ref b), .val (.int v6), .val (.int (2 : Int32))] [])) (fun _ kk => XS.goto X22.here hx rfl (pc0 := 41) (pc' := 10) rfl (hb hby down_holds_41) (by decide) (by decide) kk) ?_
          refine own_st (G := T21.setTop (mkF m 12 #[.val (.ref a), .val (.int nn), .val (.ref b), .val (.int v6), .val (.int (2 : Int32))] [(.int (2 : Int32))])) (fun _ kk => XS.iload X22.here hx rfl (hb hby down_holds_10) rfl kk) ?_
          refine own_st (G := T21.setTop (mkF m 13 #[.val (.ref a), .val (.int nn), .val (.ref b), .val (.int v6), .val (.int (2 : Int32))] [(.ref a), (.int (2 : Int32))])) (fun _ kk => XS.aloadN X22.here hx rfl (hb hby down_holds_12) rfl rfl kk) ?_
          obtain ⟨T27, X28, e29, st30⟩ := getF X22 hx hZ hown (host := "") (Or.inl (own_w hw 10 rfl)) Via.refl e23 (O).2.1 (g := (mkF m 13 #[.val (.ref a), .val (.int nn), .val (.ref b), .val (.int v6), .val (.int (2 : Int32))] [(.ref a), (.int (2 : Int32))])) rfl rfl (hb hby down_holds_13)
          refine own_st st30 ?_
          show own_Out _ _ _ _ (T27.setTop (mkF m 16 #[.val (.ref a), .val (.int nn), .val (.ref b), .val (.int v6), .val (.int (2 : Int32))] [(.int W), (.int (2 : Int32))]))
          by_cases hc31 : (2 : Int32) < W
          · skip
            refine own_st (G := T27.setTop (mkF m 19 #[.val (.ref a), .val (.int nn), .val (.ref b), .val (.int v6), .val (.int (2 : Int32))] [])) (fun _ kk => XS.icmpNo X28.here hx rfl (hb hby down_holds_16) rfl (XT.ii_ge_f hc31) kk) ?_
            refine own_st (G := T27.setTop (mkF m 20 #[.val (.ref a), .val (.int nn), .val (.ref b), .val (.int v6), .val (.int (2 : Int32))] [(.ref a)])) (fun _ kk => XS.aloadN X28.here hx rfl (hb hby down_holds_19) rfl rfl kk) ?_
            obtain ⟨T32, X33, e34, st35⟩ := getF X28 hx hZ hown (host := "") (Or.inl (own_w hw 12 rfl)) Via.refl e29 (O).2.2.1 (g := (mkF m 20 #[.val (.ref a), .val (.int nn), .val (.ref b), .val (.int v6), .val (.int (2 : Int32))] [(.ref a)])) rfl rfl (hb hby down_holds_20)
            refine own_st st35 ?_
            show own_Out _ _ _ _ (T32.setTop (mkF m 23 #[.val (.ref a), .val (.int nn), .val (.ref b), .val (.int v6), .val (.int (2 : Int32))] [(.ref wa)]))
            refine own_st (G := T32.setTop (mkF m 24 #[.val (.ref a), .val (.int nn), .val (.ref b), .val (.int v6), .val (.int (2 : Int32))] [(.int v6), (.ref wa)])) (fun _ kk => XS.iloadN X33.here hx rfl (hb hby down_holds_23) rfl kk) ?_
            refine own_st (G := T32.setTop (mkF m 26 #[.val (.ref a), .val (.int nn), .val (.ref b), .val (.int v6), .val (.int (2 : Int32))] [(.int (2 : Int32)), (.int v6), (.ref wa)])) (fun _ kk => XS.iload X33.here hx rfl (hb hby down_holds_24) rfl kk) ?_
            refine own_st (G := T32.setTop (mkF m 27 #[.val (.ref a), .val (.int nn), .val (.ref b), .val (.int v6), .val (.int (2 : Int32))] [(.int (v6 + (2 : Int32))), (.ref wa)])) (fun _ kk => XS.iadd X33.here hx rfl (hb hby down_holds_26) rfl kk) ?_
            have ix36 := own_ix (k := (2 : Int32)) (i := 2) (hv6 ▸ hq1) rfl (by omega)
            refine own_laload X33 hx hZ e34 Fw (j := (v6 + (2 : Int32))) (i := (q + 2)) ix36.1 ix36.2 (by have := (own_ltW hW).2.2.mp hc31; omega) (hb hby down_holds_27) ?_
            show own_Out _ _ _ _ (T32.setTop (mkF m 28 #[.val (.ref a), .val (.int nn), .val (.ref b), .val (.int v6), .val (.int (2 : Int32))] [(.long (fw (q + 2)))]))
            refine own_st (G := T32.setTop (mkF m 29 #[.val (.ref a), .val (.int nn), .val (.ref b), .val (.int v6), .val (.int (2 : Int32))] [(.ref b), (.long (fw (q + 2)))])) (fun _ kk => XS.aloadN X33.here hx rfl (hb hby down_holds_28) rfl rfl kk) ?_
            refine own_st (G := T32.setTop (mkF m 31 #[.val (.ref a), .val (.int nn), .val (.ref b), .val (.int v6), .val (.int (2 : Int32))] [(.int (2 : Int32)), (.ref b), (.long (fw (q + 2)))])) (fun _ kk => XS.iload X33.here hx rfl (hb hby down_holds_29) rfl kk) ?_
            refine own_laload X33 hx hZ e34 Fb (j := (2 : Int32)) (i := 2) (by decide) rfl (by decide) (hb hby down_holds_31) ?_
            show own_Out _ _ _ _ (T32.setTop (mkF m 32 #[.val (.ref a), .val (.int nn), .val (.ref b), .val (.int v6), .val (.int (2 : Int32))] [(.long (fb 2)), (.long (fw (q + 2)))]))
            refine own_st (G := T32.setTop (mkF m 33 #[.val (.ref a), .val (.int nn), .val (.ref b), .val (.int v6), .val (.int (2 : Int32))] [(.int (BdW.cmpL (fw (q + 2)) (fb 2)))])) (fun _ kk => XT.lcmp X33.here hx rfl (hb hby down_holds_32) rfl kk) ?_
            by_cases hc37 : (fw (q + 2)) = (fb 2)
            · skip
              refine own_st (G := T32.setTop (mkF m 38 #[.val (.ref a), .val (.int nn), .val (.ref b), .val (.int v6), .val (.int (2 : Int32))] [])) (fun _ kk => XS.ifYes X33.here hx rfl (pc0 := 33) (pc' := 38) rfl (hb hby down_holds_33) rfl (XT.ll_eq_t hc37) (by decide) (by decide) kk) ?_
              refine own_st (G := T32.setTop (mkF m 41 #[.val (.ref a), .val (.int nn), .val (.ref b), .val (.int v6), .val (.int ((2 : Int32) + (1 : Int32)))] [])) (fun _ kk => XT.iincV X33.here hx rfl (1 : Int32) (hb hby down_holds_38) (by decide) rfl (l' := #[.val (.ref a), .val (.int nn), .val (.ref b), .val (.int v6), .val (.int ((2 : Int32) + (1 : Int32)))]) rfl kk) ?_
              rw [show ((2 : Int32) + (1 : Int32)) = (3 : Int32) from by decide +kernel]
              refine own_st (G := T32.setTop (mkF m 10 #[.val (.ref a), .val (.int nn), .val (.ref b), .val (.int v6), .val (.int (3 : Int32))] [])) (fun _ kk => XS.goto X33.here hx rfl (pc0 := 41) (pc' := 10) rfl (hb hby down_holds_41) (by decide) (by decide) kk) ?_
              refine own_st (G := T32.setTop (mkF m 12 #[.val (.ref a), .val (.int nn), .val (.ref b), .val (.int v6), .val (.int (3 : Int32))] [(.int (3 : Int32))])) (fun _ kk => XS.iload X33.here hx rfl (hb hby down_holds_10) rfl kk) ?_
              refine own_st (G := T32.setTop (mkF m 13 #[.val (.ref a), .val (.int nn), .val (.ref b), .val (.int v6), .val (.int (3 : Int32))] [(.ref a), (.int (3 : Int32))])) (fun _ kk => XS.aloadN X33.here hx rfl (hb hby down_holds_12) rfl rfl kk) ?_
              obtain ⟨T38, X39, e40, st41⟩ := getF X33 hx hZ hown (host := "") (Or.inl (own_w hw 10 rfl)) Via.refl e34 (O).2.1 (g := (mkF m 13 #[.val (.ref a), .val (.int nn), .val (.ref b), .val (.int v6), .val (.int (3 : Int32))] [(.ref a), (.int (3 : Int32))])) rfl rfl (hb hby down_holds_13)
              refine own_st st41 ?_
              show own_Out _ _ _ _ (T38.setTop (mkF m 16 #[.val (.ref a), .val (.int nn), .val (.ref b), .val (.int v6), .val (.int (3 : Int32))] [(.int W), (.int (3 : Int32))]))
              have hk42 : ¬ ((3 : Int32) < W) := hW3
              refine own_st (G := T38.setTop (mkF m 44 #[.val (.ref a), .val (.int nn), .val (.ref b), .val (.int v6), .val (.int (3 : Int32))] [])) (fun _ kk => XS.icmpYes X39.here hx rfl (pc0 := 16) (pc' := 44) rfl (hb hby down_holds_16) rfl (XT.ii_ge_t hk42) (by decide) (by decide) kk) ?_
              refine own_st (G := T38.setTop (mkF m 45 #[.val (.ref a), .val (.int nn), .val (.ref b), .val (.int v6), .val (.int (3 : Int32))] [(.int (1 : Int32))])) (fun _ kk => XT.iconstV X39.here hx rfl (1 : Int32) (hb hby down_holds_44) (by decide) kk) ?_
              refine own_retB X39 hx hret (by simp) hlk (hb hby down_holds_45) (by decide) (by decide) ?_
              exact ⟨_, rfl, rfl, e40, fun _ => own_all3 (own_hWn hW).2.1 hc15 hc26 hc37⟩
            · skip
              refine own_st (G := T32.setTop (mkF m 36 #[.val (.ref a), .val (.int nn), .val (.ref b), .val (.int v6), .val (.int (2 : Int32))] [])) (fun _ kk => XS.ifNo X33.here hx rfl (hb hby down_holds_33) rfl (XT.ll_eq_f hc37) kk) ?_
              refine own_st (G := T32.setTop (mkF m 37 #[.val (.ref a), .val (.int nn), .val (.ref b), .val (.int v6), .val (.int (2 : Int32))] [(.int (0 : Int32))])) (fun _ kk => XT.iconstV X33.here hx rfl (0 : Int32) (hb hby down_holds_36) (by decide) kk) ?_
              refine own_retB X33 hx hret (by simp) hlk (hb hby down_holds_37) (by decide) (by decide) ?_
              exact ⟨_, rfl, rfl, e34, fun z => absurd rfl z⟩
          · skip
            refine own_st (G := T27.setTop (mkF m 44 #[.val (.ref a), .val (.int nn), .val (.ref b), .val (.int v6), .val (.int (2 : Int32))] [])) (fun _ kk => XS.icmpYes X28.here hx rfl (pc0 := 16) (pc' := 44) rfl (hb hby down_holds_16) rfl (XT.ii_ge_t hc31) (by decide) (by decide) kk) ?_
            refine own_st (G := T27.setTop (mkF m 45 #[.val (.ref a), .val (.int nn), .val (.ref b), .val (.int v6), .val (.int (2 : Int32))] [(.int (1 : Int32))])) (fun _ kk => XT.iconstV X28.here hx rfl (1 : Int32) (hb hby down_holds_44) (by decide) kk) ?_
            refine own_retB X28 hx hret (by simp) hlk (hb hby down_holds_45) (by decide) (by decide) ?_
            exact ⟨_, rfl, rfl, e29, fun _ => own_all2 (fun z => hc31 ((own_ltW hW).2.2.mpr z)) hc15 hc26⟩
        · skip
          refine own_st (G := T21.setTop (mkF m 36 #[.val (.ref a), .val (.int nn), .val (.ref b), .val (.int v6), .val (.int (1 : Int32))] [])) (fun _ kk => XS.ifNo X22.here hx rfl (hb hby down_holds_33) rfl (XT.ll_eq_f hc26) kk) ?_
          refine own_st (G := T21.setTop (mkF m 37 #[.val (.ref a), .val (.int nn), .val (.ref b), .val (.int v6), .val (.int (1 : Int32))] [(.int (0 : Int32))])) (fun _ kk => XT.iconstV X22.here hx rfl (0 : Int32) (hb hby down_holds_36) (by decide) kk) ?_
          refine own_retB X22 hx hret (by simp) hlk (hb hby down_holds_37) (by decide) (by decide) ?_
          exact ⟨_, rfl, rfl, e23, fun z => absurd rfl z⟩
      · skip
        refine own_st (G := T16.setTop (mkF m 44 #[.val (.ref a), .val (.int nn), .val (.ref b), .val (.int v6), .val (.int (1 : Int32))] [])) (fun _ kk => XS.icmpYes X17.here hx rfl (pc0 := 16) (pc' := 44) rfl (hb hby down_holds_16) rfl (XT.ii_ge_t hc20) (by decide) (by decide) kk) ?_
        refine own_st (G := T16.setTop (mkF m 45 #[.val (.ref a), .val (.int nn), .val (.ref b), .val (.int v6), .val (.int (1 : Int32))] [(.int (1 : Int32))])) (fun _ kk => XT.iconstV X17.here hx rfl (1 : Int32) (hb hby down_holds_44) (by decide) kk) ?_
        refine own_retB X17 hx hret (by simp) hlk (hb hby down_holds_45) (by decide) (by decide) ?_
        exact ⟨_, rfl, rfl, e18, fun _ => own_all1 (fun z => hc20 ((own_ltW hW).2.1.mpr z)) hc15⟩
    · skip
      refine own_st (G := T10.setTop (mkF m 36 #[.val (.ref a), .val (.int nn), .val (.ref b), .val (.int v6), .val (.int (0 : Int32))] [])) (fun _ kk => XS.ifNo X11.here hx rfl (hb hby down_holds_33) rfl (XT.ll_eq_f hc15) kk) ?_
      refine own_st (G := T10.setTop (mkF m 37 #[.val (.ref a), .val (.int nn), .val (.ref b), .val (.int v6), .val (.int (0 : Int32))] [(.int (0 : Int32))])) (fun _ kk => XT.iconstV X11.here hx rfl (0 : Int32) (hb hby down_holds_36) (by decide) kk) ?_
      refine own_retB X11 hx hret (by simp) hlk (hb hby down_holds_37) (by decide) (by decide) ?_
      exact ⟨_, rfl, rfl, e12, fun z => absurd rfl z⟩
  · skip
    refine own_st (G := T5.setTop (mkF m 44 #[.val (.ref a), .val (.int nn), .val (.ref b), .val (.int v6), .val (.int (0 : Int32))] [])) (fun _ kk => XS.icmpYes X6.here hx rfl (pc0 := 16) (pc' := 44) rfl (hb hby down_holds_16) rfl (XT.ii_ge_t hc9) (by decide) (by decide) kk) ?_
    refine own_st (G := T5.setTop (mkF m 45 #[.val (.ref a), .val (.int nn), .val (.ref b), .val (.int v6), .val (.int (0 : Int32))] [(.int (1 : Int32))])) (fun _ kk => XT.iconstV X6.here hx rfl (1 : Int32) (hb hby down_holds_44) (by decide) kk) ?_
    refine own_retB X6 hx hret (by simp) hlk (hb hby down_holds_45) (by decide) (by decide) ?_
    exact ⟨_, rfl, rfl, e7, fun _ => own_all0 (fun z => hc9 ((own_ltW hW).1.mpr z)) ⟩
theorem pn_own_get : plainFor (⟨"com/example/libbuchi/libbuchi/automata/PackedStates", "get", "(I[J)V"⟩ : MethodName) = true := by first | exact plainFor_of_name (by first | (simp [plainName, overriddenIn]; done) | decide +kernel) | decide +kernel
theorem down_get_0 : decode prog_34_method_4_code 0 = .ok (.aload_n 0, 1) := by decide +kernel
theorem down_get_1 : decode prog_34_method_4_code 1 = .ok (.getfield 15, 3) := by decide +kernel
theorem down_get_4 : decode prog_34_method_4_code 4 = .ok (.iload_n 1, 1) := by decide +kernel
theorem down_get_5 : decode prog_34_method_4_code 5 = .ok (.aload_n 0, 1) := by decide +kernel
theorem down_get_6 : decode prog_34_method_4_code 6 = .ok (.getfield 9, 3) := by decide +kernel
theorem down_get_9 : decode prog_34_method_4_code 9 = .ok (.imul, 1) := by decide +kernel
theorem down_get_10 : decode prog_34_method_4_code 10 = .ok (.aload_n 2, 1) := by decide +kernel
theorem down_get_11 : decode prog_34_method_4_code 11 = .ok (.iconst 0, 1) := by decide +kernel
theorem down_get_12 : decode prog_34_method_4_code 12 = .ok (.aload_n 0, 1) := by decide +kernel
theorem down_get_13 : decode prog_34_method_4_code 13 = .ok (.getfield 9, 3) := by decide +kernel
theorem down_get_16 : decode prog_34_method_4_code 16 = .ok (.invokestatic 54, 3) := by decide +kernel
theorem down_get_19 : decode prog_34_method_4_code 19 = .ok (.return_, 1) := by decide +kernel
def Q_own_get (Z : State) (nn : Int32) (a b wa sa : Addr) (W k : Int32) (fw fi : Nat → Int64) (h0 : Heap) (n0 : Nat) (v : Option Value) (h : Heap) (L : List Loc) : Prop := v = none ∧ Fr n0 L ∧ Keep h0 h [b] ∧ own_AJ Z h b 3 (fun i => if 0 ≤ i ∧ i < 0 + W.toNatClampNeg then fw (nn.toNatClampNeg * W.toNatClampNeg + (i - 0)) else fi i)
set_option maxRecDepth 65536 in
set_option maxHeartbeats 40000000 in
theorem own_get (l : Launch) (Z : State) (a0 : Array Value) (hw : ∀ d ∈ tables_1, d.before a0 Z = true) (ws : List Jvm.Cond) (nn : Int32) (a b wa sa : Addr) (W k : Int32) (fw fi : Nat → Int64) (h0 : Heap) (n0 : Nat) (gi : n0 ≤ b) (O : own_P Z h0 a W (.ref wa) (.ref sa) k) (Fw : own_AJ Z h0 wa (own_nw W) fw) (Fi : own_AJ Z h0 b 3 fi) (hW : own_hW W) (ha : own_at nn W) :
    MetFree l (⟨"com/example/libbuchi/libbuchi/automata/PackedStates", "get", "(I[J)V"⟩ : MethodName) (head1 (Jvm.Cond.code (⟨"com/example/libbuchi/libbuchi/automata/PackedStates", "get", "(I[J)V"⟩ : MethodName) prog_34_method_4_code 3 none :: ws) ({ frames := 1, cells := 0, slots := 0, locals := 18 } : Room)) (fun aa U => aa = #[(.ref a), (.int nn), (.ref b)] ∧ Z.Warmed39 U.vm ∧ U.heap = h0) (fun _ _ _ _ _ => True) (fun _ U o U' => ∃ v L, o = .returned v ∧ Q_own_get Z nn a b wa sa W k fw fi h0 n0 v U'.heap L ∧ FrameEnd U o U' L ({ frames := 1, cells := 0, slots := 0, locals := 18 } : Room).cells ({ frames := 1, cells := 0, slots := 0, locals := 18 } : Room).slots) := by
  refine own_body (x := (⟨"com/example/libbuchi/libbuchi/automata/PackedStates", "get", "(I[J)V"⟩ : MethodName)) (maxL := 3) (as' := #[(.ref a), (.int nn), (.ref b)]) (Q := Q_own_get Z nn a b wa sa W k fw fi h0 n0) pn_own_get #[.val (.ref a), .val (.int nn), .val (.ref b)] (fun m => by first | (simp [entryFrame, mkF, argsToLocals, Value.category]; done) | rfl) ?_
  intro p e s m below meth c T0 X0 hx hby hml hret hlk hown hnm hZ e0
  replace hml : c.maxLocals = 3 := hml
  replace hown : s.vm.findClass "com/example/libbuchi/libbuchi/automata/PackedStates" = some m.cls := hown
  have N0 := Fr.nil n0
  refine own_st (G := T0.setTop (mkF m 1 #[.val (.ref a), .val (.int nn), .val (.ref b)] [(.ref a)])) (fun _ kk => XS.aloadN X0.here hx rfl (hb hby down_get_0) rfl rfl kk) ?_
  obtain ⟨T1, X2, e3, st4⟩ := getF X0 hx hZ hown (host := "") (Or.inl (own_w hw 12 rfl)) Via.refl e0 (O).2.2.1 (g := (mkF m 1 #[.val (.ref a), .val (.int nn), .val (.ref b)] [(.ref a)])) rfl rfl (hb hby down_get_1)
  refine own_st st4 ?_
  show own_Out _ _ _ _ (T1.setTop (mkF m 4 #[.val (.ref a), .val (.int nn), .val (.ref b)] [(.ref wa)]))
  refine own_st (G := T1.setTop (mkF m 5 #[.val (.ref a), .val (.int nn), .val (.ref b)] [(.int nn), (.ref wa)])) (fun _ kk => XS.iloadN X2.here hx rfl (hb hby down_get_4) rfl kk) ?_
  refine own_st (G := T1.setTop (mkF m 6 #[.val (.ref a), .val (.int nn), .val (.ref b)] [(.ref a), (.int nn), (.ref wa)])) (fun _ kk => XS.aloadN X2.here hx rfl (hb hby down_get_5) rfl rfl kk) ?_
  obtain ⟨T5, X6, e7, st8⟩ := getF X2 hx hZ hown (host := "") (Or.inl (own_w hw 10 rfl)) Via.refl e3 (O).2.1 (g := (mkF m 6 #[.val (.ref a), .val (.int nn), .val (.ref b)] [(.ref a), (.int nn), (.ref wa)])) rfl rfl (hb hby down_get_6)
  refine own_st st8 ?_
  show own_Out _ _ _ _ (T5.setTop (mkF m 9 #[.val (.ref a), .val (.int nn), .val (.ref b)] [(.int W), (.int nn), (.ref wa)]))
  refine own_st (G := T5.setTop (mkF m 10 #[.val (.ref a), .val (.int nn), .val (.ref b)] [(.int (nn * W)), (.ref wa)])) (fun _ kk => XS.imul X6.here hx rfl (hb hby down_get_9) rfl kk) ?_
  refine own_st (G := T5.setTop (mkF m 11 #[.val (.ref a), .val (.int nn), .val (.ref b)] [(.ref b), (.int (nn * W)), (.ref wa)])) (fun _ kk => XS.aloadN X6.here hx rfl (hb hby down_get_10) rfl rfl kk) ?_
  refine own_st (G := T5.setTop (mkF m 12 #[.val (.ref a), .val (.int nn), .val (.ref b)] [(.int (0 : Int32)), (.ref b), (.int (nn * W)), (.ref wa)])) (fun _ kk => XT.iconstV X6.here hx rfl (0 : Int32) (hb hby down_get_11) (by decide) kk) ?_
  refine own_st (G := T5.setTop (mkF m 13 #[.val (.ref a), .val (.int nn), .val (.ref b)] [(.ref a), (.int (0 : Int32)), (.ref b), (.int (nn * W)), (.ref wa)])) (fun _ kk => XS.aloadN X6.here hx rfl (hb hby down_get_12) rfl rfl kk) ?_
  obtain ⟨T9, X10, e11, st12⟩ := getF X6 hx hZ hown (host := "") (Or.inl (own_w hw 10 rfl)) Via.refl e7 (O).2.1 (g := (mkF m 13 #[.val (.ref a), .val (.int nn), .val (.ref b)] [(.ref a), (.int (0 : Int32)), (.ref b), (.int (nn * W)), (.ref wa)])) rfl rfl (hb hby down_get_13)
  refine own_st st12 ?_
  show own_Out _ _ _ _ (T9.setTop (mkF m 16 #[.val (.ref a), .val (.int nn), .val (.ref b)] [(.int W), (.int (0 : Int32)), (.ref b), (.int (nn * W)), (.ref wa)]))
  refine own_arraycopy X10 hx hZ hown (own_w hw 29 rfl) (own_w hw 32 rfl) (own_w hw 30 rfl) (own_w hw 31 rfl) e11 Fw Fi (sp := (nn * W)) (dp := (0 : Int32)) (nn := W) (i1 := (nn.toNatClampNeg * W.toNatClampNeg)) (i2 := 0) (i3 := W.toNatClampNeg) ha.2.2.1 (by decide) (own_hWn hW).1 ha.2.2.2.2.1 rfl rfl ha.2.2.2.2.2.1 (by have := (own_hWn hW).2.1; omega) N0 gi (rest := []) (by rw [hml]; rfl) (hb hby down_get_16) (by decide) 0 (Nat.le_of_eq rfl) (by decide) ?_
  intro T13 h14 L20 X15 e16 N17 K18 F19
  show own_Out _ _ _ _ (T13.setTop (mkF m 19 #[.val (.ref a), .val (.int nn), .val (.ref b)] []))
  refine own_ret0 X15 hx hret hlk (hb hby down_get_19) (by decide) (by decide) ?_
  rw [e16]
  exact ⟨rfl, N17, K18, F19⟩
theorem pn_own_ini : plainFor (⟨"com/example/libbuchi/libbuchi/automata/PackedStates", "<init>", "(I)V"⟩ : MethodName) = true := by first | exact plainFor_of_name (by first | (simp [plainName, overriddenIn]; done) | decide +kernel) | decide +kernel
theorem down_ini_0 : decode prog_34_method_1_code 0 = .ok (.aload_n 0, 1) := by decide +kernel
theorem down_ini_1 : decode prog_34_method_1_code 1 = .ok (.invokespecial 3, 3) := by decide +kernel
theorem down_ini_4 : decode prog_34_method_1_code 4 = .ok (.aload_n 0, 1) := by decide +kernel
theorem down_ini_5 : decode prog_34_method_1_code 5 = .ok (.iload_n 1, 1) := by decide +kernel
theorem down_ini_6 : decode prog_34_method_1_code 6 = .ok (.putfield 9, 3) := by decide +kernel
theorem down_ini_9 : decode prog_34_method_1_code 9 = .ok (.aload_n 0, 1) := by decide +kernel
theorem down_ini_10 : decode prog_34_method_1_code 10 = .ok (.bipush 16, 2) := by decide +kernel
theorem down_ini_12 : decode prog_34_method_1_code 12 = .ok (.iload_n 1, 1) := by decide +kernel
theorem down_ini_13 : decode prog_34_method_1_code 13 = .ok (.imul, 1) := by decide +kernel
theorem down_ini_14 : decode prog_34_method_1_code 14 = .ok (.newarray .long, 2) := by decide +kernel
theorem down_ini_16 : decode prog_34_method_1_code 16 = .ok (.putfield 15, 3) := by decide +kernel
theorem down_ini_19 : decode prog_34_method_1_code 19 = .ok (.aload_n 0, 1) := by decide +kernel
theorem down_ini_20 : decode prog_34_method_1_code 20 = .ok (.bipush 32, 2) := by decide +kernel
theorem down_ini_22 : decode prog_34_method_1_code 22 = .ok (.newarray .int, 2) := by decide +kernel
theorem down_ini_24 : decode prog_34_method_1_code 24 = .ok (.putfield 19, 3) := by decide +kernel
theorem down_ini_27 : decode prog_34_method_1_code 27 = .ok (.return_, 1) := by decide +kernel
def Q_own_ini (Z : State) (W : Int32) (a : Addr) (h0 : Heap) (n0 : Nat) (v : Option Value) (h : Heap) (L : List Loc) : Prop := v = none ∧ Fr n0 L ∧ ∃ wa sa : Nat, h0.size ≤ wa ∧ wa < sa ∧ Keep h0 h [a] ∧ own_P Z h a W (.ref wa) (.ref sa) (0 : Int32) ∧ own_AJ Z h wa (own_nw W) (fun _ => 0) ∧ own_AI Z h sa 32 (fun _ => 0)
set_option maxRecDepth 65536 in
set_option maxHeartbeats 40000000 in
theorem own_ini (l : Launch) (Z : State) (a0 : Array Value) (hw : ∀ d ∈ tables_1, d.before a0 Z = true) (ws : List Jvm.Cond) (W : Int32) (a : Addr) (h0 : Heap) (n0 : Nat) (ga : n0 ≤ a) (O : own_P Z h0 a (0 : Int32) .null .null (0 : Int32)) (hW : own_hW W) :
    MetFree l (⟨"com/example/libbuchi/libbuchi/automata/PackedStates", "<init>", "(I)V"⟩ : MethodName) (head1 (Jvm.Cond.code (⟨"com/example/libbuchi/libbuchi/automata/PackedStates", "<init>", "(I)V"⟩ : MethodName) prog_34_method_1_code 2 none :: ws) ({ frames := 1, cells := 2, slots := 80, locals := 12 } : Room)) (fun aa U => aa = #[(.ref a), (.int W)] ∧ Z.Warmed39 U.vm ∧ U.heap = h0) (fun _ _ _ _ _ => True) (fun _ U o U' => ∃ v L, o = .returned v ∧ Q_own_ini Z W a h0 n0 v U'.heap L ∧ FrameEnd U o U' L ({ frames := 1, cells := 2, slots := 80, locals := 12 } : Room).cells ({ frames := 1, cells := 2, slots := 80, locals := 12 } : Room).slots) := by
  refine own_body (x := (⟨"com/example/libbuchi/libbuchi/automata/PackedStates", "<init>", "(I)V"⟩ : MethodName)) (maxL := 2) (as' := #[(.ref a), (.int W)]) (Q := Q_own_ini Z W a h0 n0) pn_own_ini #[.val (.ref a), .val (.int W)] (fun m => by first | (simp [entryFrame, mkF, argsToLocals, Value.category]; done) | rfl) ?_
  intro p e s m below meth c T0 X0 hx hby hml hret hlk hown hnm hZ e0
  replace hml : c.maxLocals = 2 := hml
  replace hown : s.vm.findClass "com/example/libbuchi/libbuchi/automata/PackedStates" = some m.cls := hown
  have N0 := Fr.nil n0
  have K0 := Keep.refl h0 [a]
  refine own_st (G := T0.setTop (mkF m 1 #[.val (.ref a), .val (.int W)] [(.ref a)])) (fun _ kk => XS.aloadN X0.here hx rfl (hb hby down_ini_0) rfl rfl kk) ?_
  obtain ⟨T1, X2, e3, st4⟩ := initO X0 hx hZ hown (own_w hw 7 rfl) (own_w hw 8 rfl) (own_w hw 9 rfl) e0 (g := (mkF m 1 #[.val (.ref a), .val (.int W)] [(.ref a)])) rfl (by rw [hml]; rfl) rfl (hb hby down_ini_1) (by decide) (W := 0) (by show 2 * 0 + _ ≤ _; exact Nat.le_of_eq rfl) (by decide)
  refine own_st st4 ?_
  show own_Out _ _ _ _ (T1.setTop (mkF m 4 #[.val (.ref a), .val (.int W)] []))
  refine own_st (G := T1.setTop (mkF m 5 #[.val (.ref a), .val (.int W)] [(.ref a)])) (fun _ kk => XS.aloadN X2.here hx rfl (hb hby down_ini_4) rfl rfl kk) ?_
  refine own_st (G := T1.setTop (mkF m 6 #[.val (.ref a), .val (.int W)] [(.int W), (.ref a)])) (fun _ kk => XS.iloadN X2.here hx rfl (hb hby down_ini_5) rfl kk) ?_
  obtain ⟨T5, h6, X7, e8, W9, st10⟩ := putF X2 hx hZ hown (host := "") (Or.inl (own_w hw 10 rfl)) Via.refl e3 (O).2.1 (O).1 (Or.inr ⟨(own_w hw 11 rfl), rfl, hnm⟩) (own_w hw 2 rfl) (ty := .int) (by decide) rfl rfl (g := (mkF m 6 #[.val (.ref a), .val (.int W)] [(.int W), (.ref a)])) rfl rfl (hb hby down_ini_6)
  refine own_st st10 ?_
  show own_Out _ _ _ _ (T5.setTop (mkF m 9 #[.val (.ref a), .val (.int W)] []))
  have O11 : own_P Z h6 a W .null .null (0 : Int32) := own_P_width hw W9 O
  have N12 := Fr.snoc X7 N0 ga
  have K13 := K0.wr W9 (Or.inl (List.mem_singleton.mpr rfl))
  refine own_st (G := T5.setTop (mkF m 10 #[.val (.ref a), .val (.int W)] [(.ref a)])) (fun _ kk => XS.aloadN X7.here hx rfl (hb hby down_ini_9) rfl rfl kk) ?_
  refine own_st (G := T5.setTop (mkF m 12 #[.val (.ref a), .val (.int W)] [(.int (16 : Int32)), (.ref a)])) (fun _ kk => XT.bipushV X7.here hx rfl (16 : Int32) (hb hby down_ini_10) (by decide) kk) ?_
  refine own_st (G := T5.setTop (mkF m 13 #[.val (.ref a), .val (.int W)] [(.int W), (.int (16 : Int32)), (.ref a)])) (fun _ kk => XS.iloadN X7.here hx rfl (hb hby down_ini_12) rfl kk) ?_
  refine own_st (G := T5.setTop (mkF m 14 #[.val (.ref a), .val (.int W)] [(.int ((16 : Int32) * W)), (.ref a)])) (fun _ kk => XS.imul X7.here hx rfl (hb hby down_ini_13) rfl kk) ?_
  obtain ⟨T14, h15, cA16, X17, e18, E19, A20, st21⟩ := newP X7 hx hZ (own_w hw 0 rfl) e8 (g := (mkF m 14 #[.val (.ref a), .val (.int W)] [(.int ((16 : Int32) * W)), (.ref a)])) rfl (hb hby down_ini_14) rfl (own_hWn hW).2.2.2.1 (cap := 48) (own_hWn hW).2.2.2.2.2.1 (by decide) (by decide) (by decide)
  obtain ⟨a22, g23⟩ : ∃ z, z = h6.size := ⟨_, rfl⟩
  rw [← g23] at A20 st21
  refine own_st st21 ?_
  show own_Out _ _ _ _ (T14.setTop (mkF m 16 #[.val (.ref a), .val (.int W)] [(.ref a22), (.ref a)]))
  have ne28 : a22 ≠ a := by rw [g23]; exact Nat.ne_of_gt (O11).1.lt
  have gea22 : h0.size ≤ a22 := by rw [g23]; exact K13.1
  have O25 := own_P_ext E19 O11
  have K26 := K13.ext E19
  have F27 := own_AJ_new A20 (own_hWn hW).2.2.2.1 (own_hWn hW).2.2.2.2.1
  obtain ⟨T29, h30, X31, e32, W33, st34⟩ := putF X17 hx hZ hown (host := "") (Or.inl (own_w hw 12 rfl)) Via.refl e18 (O25).2.2.1 (O25).1 (Or.inl (own_w hw 13 rfl)) (own_w hw 2 rfl) (ty := .array (.long)) (by decide) rfl rfl (g := (mkF m 16 #[.val (.ref a), .val (.int W)] [(.ref a22), (.ref a)])) rfl rfl (hb hby down_ini_16)
  refine own_st st34 ?_
  show own_Out _ _ _ _ (T29.setTop (mkF m 19 #[.val (.ref a), .val (.int W)] []))
  have O35 : own_P Z h30 a W (.ref a22) .null (0 : Int32) := own_P_words hw W33 O25
  have N36 := Fr.snoc X31 N12 ga
  have K37 := K26.wr W33 (Or.inl (List.mem_singleton.mpr rfl))
  have F38 := own_AJ_other F27 W33 ne28
  refine own_st (G := T29.setTop (mkF m 20 #[.val (.ref a), .val (.int W)] [(.ref a)])) (fun _ kk => XS.aloadN X31.here hx rfl (hb hby down_ini_19) rfl rfl kk) ?_
  refine own_st (G := T29.setTop (mkF m 22 #[.val (.ref a), .val (.int W)] [(.int (32 : Int32)), (.ref a)])) (fun _ kk => XT.bipushV X31.here hx rfl (32 : Int32) (hb hby down_ini_20) (by decide) kk) ?_
  obtain ⟨T39, h40, cA41, X42, e43, E44, A45, st46⟩ := newP X31 hx hZ (own_w hw 14 rfl) e32 (g := (mkF m 22 #[.val (.ref a), .val (.int W)] [(.int (32 : Int32)), (.ref a)])) rfl (hb hby down_ini_22) rfl (by decide) (cap := 32) (by decide) (by decide) (by decide) (by decide)
  obtain ⟨a47, g48⟩ : ∃ z, z = h30.size := ⟨_, rfl⟩
  rw [← g48] at A45 st46
  have S49 : (newA cA41 .int (32 : Int32)).slots.size = 32 := (sz_new _ _ _).trans (by decide)
  refine own_st st46 ?_
  show own_Out _ _ _ _ (T39.setTop (mkF m 24 #[.val (.ref a), .val (.int W)] [(.ref a47), (.ref a)]))
  have ne53 : a47 ≠ a := by rw [g48]; exact Nat.ne_of_gt (O35).1.lt
  have gea47 : h0.size ≤ a47 := by rw [g48]; exact K37.1
  have lta47 : a22 < a47 := by rw [g48]; exact own_AJ_lt F38
  have O50 := own_P_ext E44 O35
  have K51 := K37.ext E44
  have F54 := own_AJ_ext F38 E44
  have F52 := own_AI_new (n := 32) A45 (by decide) rfl
  obtain ⟨T55, h56, X57, e58, W59, st60⟩ := putF X42 hx hZ hown (host := "") (Or.inl (own_w hw 15 rfl)) Via.refl e43 (O50).2.2.2.1 (O50).1 (Or.inl (own_w hw 16 rfl)) (own_w hw 2 rfl) (ty := .array (.int)) (by decide) rfl rfl (g := (mkF m 24 #[.val (.ref a), .val (.int W)] [(.ref a47), (.ref a)])) rfl rfl (hb hby down_ini_24)
  refine own_st st60 ?_
  show own_Out _ _ _ _ (T55.setTop (mkF m 27 #[.val (.ref a), .val (.int W)] []))
  have O61 : own_P Z h56 a W (.ref a22) (.ref a47) (0 : Int32) := own_P_slots hw W59 O50
  have N62 := Fr.snoc X57 N36 ga
  have K63 := K51.wr W59 (Or.inl (List.mem_singleton.mpr rfl))
  have F64 := own_AJ_other F54 W59 ne28
  have F65 := own_AI_other F52 W59 ne53
  refine own_ret0 X57 hx hret hlk (hb hby down_ini_27) (by decide) (by decide) ?_
  rw [e58]
  exact ⟨rfl, N62, _, _, gea22, lta47, K63, O61, F64, F65⟩
theorem pn_own_add : plainFor (⟨"com/example/libbuchi/libbuchi/automata/PackedStates", "add", "([J)I"⟩ : MethodName) = true := by first | exact plainFor_of_name (by first | (simp [plainName, overriddenIn]; done) | decide +kernel) | decide +kernel
theorem down_add_0 : decode prog_34_method_3_code 0 = .ok (.aload_n 0, 1) := by decide +kernel
theorem down_add_1 : decode prog_34_method_3_code 1 = .ok (.aload_n 1, 1) := by decide +kernel
theorem down_add_2 : decode prog_34_method_3_code 2 = .ok (.iconst 0, 1) := by decide +kernel
theorem down_add_3 : decode prog_34_method_3_code 3 = .ok (.invokevirtual 26, 3) := by decide +kernel
theorem down_add_6 : decode prog_34_method_3_code 6 = .ok (.aload_n 0, 1) := by decide +kernel
theorem down_add_7 : decode prog_34_method_3_code 7 = .ok (.getfield 19, 3) := by decide +kernel
theorem down_add_10 : decode prog_34_method_3_code 10 = .ok (.arraylength, 1) := by decide +kernel
theorem down_add_11 : decode prog_34_method_3_code 11 = .ok (.iconst 1, 1) := by decide +kernel
theorem down_add_12 : decode prog_34_method_3_code 12 = .ok (.isub, 1) := by decide +kernel
theorem down_add_13 : decode prog_34_method_3_code 13 = .ok (.iand, 1) := by decide +kernel
theorem down_add_14 : decode prog_34_method_3_code 14 = .ok (.istore_n 2, 1) := by decide +kernel
theorem down_add_15 : decode prog_34_method_3_code 15 = .ok (.aload_n 0, 1) := by decide +kernel
theorem down_add_16 : decode prog_34_method_3_code 16 = .ok (.getfield 19, 3) := by decide +kernel
theorem down_add_19 : decode prog_34_method_3_code 19 = .ok (.iload_n 2, 1) := by decide +kernel
theorem down_add_20 : decode prog_34_method_3_code 20 = .ok (.iaload, 1) := by decide +kernel
theorem down_add_21 : decode prog_34_method_3_code 21 = .ok (.ifCond .eq 43, 3) := by decide +kernel
theorem down_add_24 : decode prog_34_method_3_code 24 = .ok (.aload_n 0, 1) := by decide +kernel
theorem down_add_25 : decode prog_34_method_3_code 25 = .ok (.aload_n 0, 1) := by decide +kernel
theorem down_add_26 : decode prog_34_method_3_code 26 = .ok (.getfield 19, 3) := by decide +kernel
theorem down_add_29 : decode prog_34_method_3_code 29 = .ok (.iload_n 2, 1) := by decide +kernel
theorem down_add_30 : decode prog_34_method_3_code 30 = .ok (.iaload, 1) := by decide +kernel
theorem down_add_31 : decode prog_34_method_3_code 31 = .ok (.iconst 1, 1) := by decide +kernel
theorem down_add_32 : decode prog_34_method_3_code 32 = .ok (.isub, 1) := by decide +kernel
theorem down_add_33 : decode prog_34_method_3_code 33 = .ok (.aload_n 1, 1) := by decide +kernel
theorem down_add_34 : decode prog_34_method_3_code 34 = .ok (.invokevirtual 30, 3) := by decide +kernel
theorem down_add_37 : decode prog_34_method_3_code 37 = .ok (.ifCond .eq 12, 3) := by decide +kernel
theorem down_add_40 : decode prog_34_method_3_code 40 = .ok (.aload_n 0, 1) := by decide +kernel
theorem down_add_41 : decode prog_34_method_3_code 41 = .ok (.getfield 19, 3) := by decide +kernel
theorem down_add_44 : decode prog_34_method_3_code 44 = .ok (.iload_n 2, 1) := by decide +kernel
theorem down_add_45 : decode prog_34_method_3_code 45 = .ok (.iaload, 1) := by decide +kernel
theorem down_add_46 : decode prog_34_method_3_code 46 = .ok (.iconst 1, 1) := by decide +kernel
theorem down_add_47 : decode prog_34_method_3_code 47 = .ok (.isub, 1) := by decide +kernel
theorem down_add_48 : decode prog_34_method_3_code 48 = .ok (.ireturn, 1) := by decide +kernel
theorem down_add_49 : decode prog_34_method_3_code 49 = .ok (.iload_n 2, 1) := by decide +kernel
theorem down_add_50 : decode prog_34_method_3_code 50 = .ok (.iconst 1, 1) := by decide +kernel
theorem down_add_51 : decode prog_34_method_3_code 51 = .ok (.iadd, 1) := by decide +kernel
theorem down_add_52 : decode prog_34_method_3_code 52 = .ok (.aload_n 0, 1) := by decide +kernel
theorem down_add_53 : decode prog_34_method_3_code 53 = .ok (.getfield 19, 3) := by decide +kernel
theorem down_add_56 : decode prog_34_method_3_code 56 = .ok (.arraylength, 1) := by decide +kernel
theorem down_add_57 : decode prog_34_method_3_code 57 = .ok (.iconst 1, 1) := by decide +kernel
theorem down_add_58 : decode prog_34_method_3_code 58 = .ok (.isub, 1) := by decide +kernel
theorem down_add_59 : decode prog_34_method_3_code 59 = .ok (.iand, 1) := by decide +kernel
theorem down_add_60 : decode prog_34_method_3_code 60 = .ok (.istore_n 2, 1) := by decide +kernel
theorem down_add_61 : decode prog_34_method_3_code 61 = .ok (.goto (-46), 3) := by decide +kernel
theorem down_add_64 : decode prog_34_method_3_code 64 = .ok (.aload_n 0, 1) := by decide +kernel
theorem down_add_65 : decode prog_34_method_3_code 65 = .ok (.getfield 23, 3) := by decide +kernel
theorem down_add_68 : decode prog_34_method_3_code 68 = .ok (.iconst 1, 1) := by decide +kernel
theorem down_add_69 : decode prog_34_method_3_code 69 = .ok (.iadd, 1) := by decide +kernel
theorem down_add_70 : decode prog_34_method_3_code 70 = .ok (.i2l, 1) := by decide +kernel
theorem down_add_71 : decode prog_34_method_3_code 71 = .ok (.aload_n 0, 1) := by decide +kernel
theorem down_add_72 : decode prog_34_method_3_code 72 = .ok (.getfield 9, 3) := by decide +kernel
theorem down_add_75 : decode prog_34_method_3_code 75 = .ok (.i2l, 1) := by decide +kernel
theorem down_add_76 : decode prog_34_method_3_code 76 = .ok (.lmul, 1) := by decide +kernel
theorem down_add_77 : decode prog_34_method_3_code 77 = .ok (.lstore_n 3, 1) := by decide +kernel
theorem down_add_78 : decode prog_34_method_3_code 78 = .ok (.lload_n 3, 1) := by decide +kernel
theorem down_add_79 : decode prog_34_method_3_code 79 = .ok (.aload_n 0, 1) := by decide +kernel
theorem down_add_80 : decode prog_34_method_3_code 80 = .ok (.getfield 15, 3) := by decide +kernel
theorem down_add_83 : decode prog_34_method_3_code 83 = .ok (.arraylength, 1) := by decide +kernel
theorem down_add_84 : decode prog_34_method_3_code 84 = .ok (.i2l, 1) := by decide +kernel
theorem down_add_85 : decode prog_34_method_3_code 85 = .ok (.lcmp, 1) := by decide +kernel
theorem down_add_86 : decode prog_34_method_3_code 86 = .ok (.ifCond .le 72, 3) := by decide +kernel
theorem down_add_158 : decode prog_34_method_3_code 158 = .ok (.aload_n 1, 1) := by decide +kernel
theorem down_add_159 : decode prog_34_method_3_code 159 = .ok (.iconst 0, 1) := by decide +kernel
theorem down_add_160 : decode prog_34_method_3_code 160 = .ok (.aload_n 0, 1) := by decide +kernel
theorem down_add_161 : decode prog_34_method_3_code 161 = .ok (.getfield 15, 3) := by decide +kernel
theorem down_add_164 : decode prog_34_method_3_code 164 = .ok (.aload_n 0, 1) := by decide +kernel
theorem down_add_165 : decode prog_34_method_3_code 165 = .ok (.getfield 23, 3) := by decide +kernel
theorem down_add_168 : decode prog_34_method_3_code 168 = .ok (.aload_n 0, 1) := by decide +kernel
theorem down_add_169 : decode prog_34_method_3_code 169 = .ok (.getfield 9, 3) := by decide +kernel
theorem down_add_172 : decode prog_34_method_3_code 172 = .ok (.imul, 1) := by decide +kernel
theorem down_add_173 : decode prog_34_method_3_code 173 = .ok (.aload_n 0, 1) := by decide +kernel
theorem down_add_174 : decode prog_34_method_3_code 174 = .ok (.getfield 9, 3) := by decide +kernel
theorem down_add_177 : decode prog_34_method_3_code 177 = .ok (.invokestatic 54, 3) := by decide +kernel
theorem down_add_180 : decode prog_34_method_3_code 180 = .ok (.aload_n 0, 1) := by decide +kernel
theorem down_add_181 : decode prog_34_method_3_code 181 = .ok (.getfield 19, 3) := by decide +kernel
theorem down_add_184 : decode prog_34_method_3_code 184 = .ok (.iload_n 2, 1) := by decide +kernel
theorem down_add_185 : decode prog_34_method_3_code 185 = .ok (.aload_n 0, 1) := by decide +kernel
theorem down_add_186 : decode prog_34_method_3_code 186 = .ok (.getfield 23, 3) := by decide +kernel
theorem down_add_189 : decode prog_34_method_3_code 189 = .ok (.iconst 1, 1) := by decide +kernel
theorem down_add_190 : decode prog_34_method_3_code 190 = .ok (.iadd, 1) := by decide +kernel
theorem down_add_191 : decode prog_34_method_3_code 191 = .ok (.iastore, 1) := by decide +kernel
theorem down_add_192 : decode prog_34_method_3_code 192 = .ok (.aload_n 0, 1) := by decide +kernel
theorem down_add_193 : decode prog_34_method_3_code 193 = .ok (.dup, 1) := by decide +kernel
theorem down_add_194 : decode prog_34_method_3_code 194 = .ok (.getfield 23, 3) := by decide +kernel
theorem down_add_197 : decode prog_34_method_3_code 197 = .ok (.iconst 1, 1) := by decide +kernel
theorem down_add_198 : decode prog_34_method_3_code 198 = .ok (.iadd, 1) := by decide +kernel
theorem down_add_199 : decode prog_34_method_3_code 199 = .ok (.putfield 23, 3) := by decide +kernel
theorem down_add_202 : decode prog_34_method_3_code 202 = .ok (.ldc2_w 43, 3) := by decide +kernel
theorem down_add_205 : decode prog_34_method_3_code 205 = .ok (.aload_n 0, 1) := by decide +kernel
theorem down_add_206 : decode prog_34_method_3_code 206 = .ok (.getfield 23, 3) := by decide +kernel
theorem down_add_209 : decode prog_34_method_3_code 209 = .ok (.i2l, 1) := by decide +kernel
theorem down_add_210 : decode prog_34_method_3_code 210 = .ok (.lmul, 1) := by decide +kernel
theorem down_add_211 : decode prog_34_method_3_code 211 = .ok (.aload_n 0, 1) := by decide +kernel
theorem down_add_212 : decode prog_34_method_3_code 212 = .ok (.getfield 19, 3) := by decide +kernel
theorem down_add_215 : decode prog_34_method_3_code 215 = .ok (.arraylength, 1) := by decide +kernel
theorem down_add_216 : decode prog_34_method_3_code 216 = .ok (.i2l, 1) := by decide +kernel
theorem down_add_217 : decode prog_34_method_3_code 217 = .ok (.lcmp, 1) := by decide +kernel
theorem down_add_218 : decode prog_34_method_3_code 218 = .ok (.ifCond .le 7, 3) := by decide +kernel
theorem down_add_225 : decode prog_34_method_3_code 225 = .ok (.aload_n 0, 1) := by decide +kernel
theorem down_add_226 : decode prog_34_method_3_code 226 = .ok (.getfield 23, 3) := by decide +kernel
theorem down_add_229 : decode prog_34_method_3_code 229 = .ok (.iconst 1, 1) := by decide +kernel
theorem down_add_230 : decode prog_34_method_3_code 230 = .ok (.isub, 1) := by decide +kernel
theorem down_add_231 : decode prog_34_method_3_code 231 = .ok (.ireturn, 1) := by decide +kernel
def Q_own_add (Z : State)  (a b wa sa : Addr) (W k : Int32) (fw fb : Nat → Int64) (fsl : Nat → Int32) (h0 : Heap) (n0 : Nat) (v : Option Value) (h : Heap) (L : List Loc) : Prop := ∃ (r k' : Int32) (fw' : Nat → Int64) (fsl' : Nat → Int32), v = some (.int r) ∧ Fr n0 L ∧ Keep h0 h [a, wa, sa] ∧ own_P Z h a W (.ref wa) (.ref sa) k' ∧ own_AJ Z h wa (own_nw W) fw' ∧ own_AI Z h sa 32 fsl' ∧ own_R W k k' r fw fw' fsl' fb
set_option maxRecDepth 65536 in
set_option maxHeartbeats 40000000 in
theorem own_add (l : Launch) (Z : State) (a0 : Array Value) (hw : ∀ d ∈ tables_1, d.before a0 Z = true) (ws : List Jvm.Cond)  (a b wa sa : Addr) (W k : Int32) (fw fb : Nat → Int64) (fsl : Nat → Int32) (h0 : Heap) (n0 : Nat) (ga : n0 ≤ a) (gw : n0 ≤ wa) (gs : n0 ≤ sa) (naw : a ≠ wa) (nas : a ≠ sa) (nws : wa ≠ sa) (O : own_P Z h0 a W (.ref wa) (.ref sa) k) (Fw : own_AJ Z h0 wa (own_nw W) fw) (Fs : own_AI Z h0 sa 32 fsl) (Fb : own_AJ Z h0 b 3 fb) (hW : own_hW W) (hk : own_K k 2) (S : own_SI fsl k) :
    MetFree l (⟨"com/example/libbuchi/libbuchi/automata/PackedStates", "add", "([J)I"⟩ : MethodName) (head1 (Jvm.Cond.code (⟨"com/example/libbuchi/libbuchi/automata/PackedStates", "add", "([J)I"⟩ : MethodName) prog_34_method_3_code 6 (some (.int)) :: ws) ({ frames := 1, cells := 0, slots := 0, locals := 18 } : Room)) (fun aa U => aa = #[(.ref a), (.ref b)] ∧ Z.Warmed39 U.vm ∧ U.heap = h0) (fun _ _ _ _ _ => True) (fun _ U o U' => ∃ v L, o = .returned v ∧ Q_own_add Z a b wa sa W k fw fb fsl h0 n0 v U'.heap L ∧ FrameEnd U o U' L ({ frames := 1, cells := 0, slots := 0, locals := 18 } : Room).cells ({ frames := 1, cells := 0, slots := 0, locals := 18 } : Room).slots) := by
  refine own_body (x := (⟨"com/example/libbuchi/libbuchi/automata/PackedStates", "add", "([J)I"⟩ : MethodName)) (maxL := 6) (as' := #[(.ref a), (.ref b)]) (Q := Q_own_add Z a b wa sa W k fw fb fsl h0 n0) pn_own_add #[.val (.ref a), .val (.ref b), .unset, .unset, .unset, .unset] (fun m => by first | (simp [entryFrame, mkF, argsToLocals, Value.category]; done) | rfl) ?_
  intro p e s m below meth c T0 X0 hx hby hml hret hlk hown hnm hZ e0
  replace hml : c.maxLocals = 6 := hml
  replace hown : s.vm.findClass "com/example/libbuchi/libbuchi/automata/PackedStates" = some m.cls := hown
  have N0 := Fr.nil n0
  refine own_st (G := T0.setTop (mkF m 1 #[.val (.ref a), .val (.ref b), .unset, .unset, .unset, .unset] [(.ref a)])) (fun _ kk => XS.aloadN X0.here hx rfl (hb hby down_add_0) rfl rfl kk) ?_
  refine own_st (G := T0.setTop (mkF m 2 #[.val (.ref a), .val (.ref b), .unset, .unset, .unset, .unset] [(.ref b), (.ref a)])) (fun _ kk => XS.aloadN X0.here hx rfl (hb hby down_add_1) rfl rfl kk) ?_
  refine own_st (G := T0.setTop (mkF m 3 #[.val (.ref a), .val (.ref b), .unset, .unset, .unset, .unset] [(.int (0 : Int32)), (.ref b), (.ref a)])) (fun _ kk => XT.iconstV X0.here hx rfl (0 : Int32) (hb hby down_add_2) (by decide) kk) ?_
  refine own_callP X0 hx hZ (y := (⟨"com/example/libbuchi/libbuchi/automata/PackedStates", "hash", "([JI)I"⟩ : MethodName)) (b := a) (as' := [(.ref b), (.int (0 : Int32))]) hown (own_w hw 22 rfl) (own_w hw 23 rfl) (own_w hw 24 rfl) (own_w hw 25 rfl) (own_w hw 3 rfl) (own_nf (y := ⟨"com/example/libbuchi/libbuchi/automata/PackedStates", "add", "([J)I"⟩) (a0 := #[]) rfl (notFace_of_selects (args := #[]) (mvT hZ (own_w hw 20 rfl))) (mvT hZ (own_w hw 19 rfl))) (by decide) (own_hash l Z a0 hw [] a b wa sa W k fb h0 n0 O Fb (own_hWn hW).2.2.1) O.1 0 (by decide) (by decide) (by decide) (by decide) (rest := []) (by rw [hml]; rfl) (lenOf (by decide : parseMethodDescriptor "([JI)I" = some ⟨[.array (.long), .int], some (.int)⟩) rfl) rfl (Nat.le_of_eq rfl) (hb hby down_add_3) e0 ?_
  intro T4 L5 v7 X6 hQ
  obtain ⟨⟨r3, rfl⟩, rfl, eq1⟩ := hQ
  show own_Out _ _ _ _ (T4.setTop (mkF m 6 #[.val (.ref a), .val (.ref b), .unset, .unset, .unset, .unset] [(.int r3)]))
  have N2 := Fr.app N0 (Fr.nil n0)
  refine own_st (G := T4.setTop (mkF m 7 #[.val (.ref a), .val (.ref b), .unset, .unset, .unset, .unset] [(.ref a), (.int r3)])) (fun _ kk => XS.aloadN X6.here hx rfl (hb hby down_add_6) rfl rfl kk) ?_
  obtain ⟨T8, X9, e10, st11⟩ := getF X6 hx hZ hown (host := "") (Or.inl (own_w hw 15 rfl)) Via.refl eq1 (O).2.2.2.1 (g := (mkF m 7 #[.val (.ref a), .val (.ref b), .unset, .unset, .unset, .unset] [(.ref a), (.int r3)])) rfl rfl (hb hby down_add_7)
  refine own_st st11 ?_
  show own_Out _ _ _ _ (T8.setTop (mkF m 10 #[.val (.ref a), .val (.ref b), .unset, .unset, .unset, .unset] [(.ref sa), (.int r3)]))
  refine own_lenI X9 hx hZ e10 Fs (z := (32 : Int32)) rfl (hb hby down_add_10) ?_
  show own_Out _ _ _ _ (T8.setTop (mkF m 11 #[.val (.ref a), .val (.ref b), .unset, .unset, .unset, .unset] [(.int (32 : Int32)), (.int r3)]))
  refine own_st (G := T8.setTop (mkF m 12 #[.val (.ref a), .val (.ref b), .unset, .unset, .unset, .unset] [(.int (1 : Int32)), (.int (32 : Int32)), (.int r3)])) (fun _ kk => XT.iconstV X9.here hx rfl (1 : Int32) (hb hby down_add_11) (by decide) kk) ?_
  refine own_st (G := T8.setTop (mkF m 13 #[.val (.ref a), .val (.ref b), .unset, .unset, .unset, .unset] [(.int ((32 : Int32) - (1 : Int32))), (.int r3)])) (fun _ kk => XS.isub X9.here hx rfl (hb hby down_add_12) rfl kk) ?_
  rw [show ((32 : Int32) - (1 : Int32)) = (31 : Int32) from by decide +kernel]
  refine own_st (G := T8.setTop (mkF m 14 #[.val (.ref a), .val (.ref b), .unset, .unset, .unset, .unset] [(.int (r3 &&& (31 : Int32)))])) (fun _ kk => XS.iand X9.here hx rfl (hb hby down_add_13) rfl kk) ?_
  generalize hv14 : (r3 &&& (31 : Int32)) = iv12
  refine own_st (G := T8.setTop (mkF m 15 #[.val (.ref a), .val (.ref b), .val (.int iv12), .unset, .unset, .unset] [])) (fun _ kk => XS.istoreN X9.here hx rfl (hb hby down_add_14) rfl (l' := #[.val (.ref a), .val (.ref b), .val (.int iv12), .unset, .unset, .unset]) rfl kk) ?_
  have hi14 := hv14
  have b13 := own_and31 hi14
  refine own_st (G := T8.setTop (mkF m 16 #[.val (.ref a), .val (.ref b), .val (.int iv12), .unset, .unset, .unset] [(.ref a)])) (fun _ kk => XS.aloadN X9.here hx rfl (hb hby down_add_15) rfl rfl kk) ?_
  obtain ⟨T15, X16, e17, st18⟩ := getF X9 hx hZ hown (host := "") (Or.inl (own_w hw 15 rfl)) Via.refl e10 (O).2.2.2.1 (g := (mkF m 16 #[.val (.ref a), .val (.ref b), .val (.int iv12), .unset, .unset, .unset] [(.ref a)])) rfl rfl (hb hby down_add_16)
  refine own_st st18 ?_
  show own_Out _ _ _ _ (T15.setTop (mkF m 19 #[.val (.ref a), .val (.ref b), .val (.int iv12), .unset, .unset, .unset] [(.ref sa)]))
  refine own_st (G := T15.setTop (mkF m 20 #[.val (.ref a), .val (.ref b), .val (.int iv12), .unset, .unset, .unset] [(.int iv12), (.ref sa)])) (fun _ kk => XS.iloadN X16.here hx rfl (hb hby down_add_19) rfl kk) ?_
  refine own_iaload X16 hx hZ e17 Fs (j := iv12) (i := iv12.toNatClampNeg) b13.1 rfl b13.2.1 (hb hby down_add_20) ?_
  show own_Out _ _ _ _ (T15.setTop (mkF m 21 #[.val (.ref a), .val (.ref b), .val (.int iv12), .unset, .unset, .unset] [(.int (fsl iv12.toNatClampNeg))]))
  by_cases hc19 : (fsl iv12.toNatClampNeg) = (0 : Int32)
  · skip
    refine own_st (G := T15.setTop (mkF m 64 #[.val (.ref a), .val (.ref b), .val (.int iv12), .unset, .unset, .unset] [])) (fun _ kk => XS.ifYes X16.here hx rfl (pc0 := 21) (pc' := 64) rfl (hb hby down_add_21) rfl (XT.i0_eq_t hc19) (by decide) (by decide) kk) ?_
    refine own_st (G := T15.setTop (mkF m 65 #[.val (.ref a), .val (.ref b), .val (.int iv12), .unset, .unset, .unset] [(.ref a)])) (fun _ kk => XS.aloadN X16.here hx rfl (hb hby down_add_64) rfl rfl kk) ?_
    obtain ⟨T20, X21, e22, st23⟩ := getF X16 hx hZ hown (host := "") (Or.inl (own_w hw 27 rfl)) Via.refl e17 (O).2.2.2.2 (g := (mkF m 65 #[.val (.ref a), .val (.ref b), .val (.int iv12), .unset, .unset, .unset] [(.ref a)])) rfl rfl (hb hby down_add_65)
    refine own_st st23 ?_
    show own_Out _ _ _ _ (T20.setTop (mkF m 68 #[.val (.ref a), .val (.ref b), .val (.int iv12), .unset, .unset, .unset] [(.int k)]))
    refine own_st (G := T20.setTop (mkF m 69 #[.val (.ref a), .val (.ref b), .val (.int iv12), .unset, .unset, .unset] [(.int (1 : Int32)), (.int k)])) (fun _ kk => XT.iconstV X21.here hx rfl (1 : Int32) (hb hby down_add_68) (by decide) kk) ?_
    refine own_st (G := T20.setTop (mkF m 70 #[.val (.ref a), .val (.ref b), .val (.int iv12), .unset, .unset, .unset] [(.int (k + (1 : Int32)))])) (fun _ kk => XS.iadd X21.here hx rfl (hb hby down_add_69) rfl kk) ?_
    refine own_st (G := T20.setTop (mkF m 71 #[.val (.ref a), .val (.ref b), .val (.int iv12), .unset, .unset, .unset] [(.long (k + (1 : Int32)).toInt64)])) (fun _ kk => XS.i2l X21.here hx rfl (hb hby down_add_70) rfl kk) ?_
    refine own_st (G := T20.setTop (mkF m 72 #[.val (.ref a), .val (.ref b), .val (.int iv12), .unset, .unset, .unset] [(.ref a), (.long (k + (1 : Int32)).toInt64)])) (fun _ kk => XS.aloadN X21.here hx rfl (hb hby down_add_71) rfl rfl kk) ?_
    obtain ⟨T24, X25, e26, st27⟩ := getF X21 hx hZ hown (host := "") (Or.inl (own_w hw 10 rfl)) Via.refl e22 (O).2.1 (g := (mkF m 72 #[.val (.ref a), .val (.ref b), .val (.int iv12), .unset, .unset, .unset] [(.ref a), (.long (k + (1 : Int32)).toInt64)])) rfl rfl (hb hby down_add_72)
    refine own_st st27 ?_
    show own_Out _ _ _ _ (T24.setTop (mkF m 75 #[.val (.ref a), .val (.ref b), .val (.int iv12), .unset, .unset, .unset] [(.int W), (.long (k + (1 : Int32)).toInt64)]))
    refine own_st (G := T24.setTop (mkF m 76 #[.val (.ref a), .val (.ref b), .val (.int iv12), .unset, .unset, .unset] [(.long W.toInt64), (.long (k + (1 : Int32)).toInt64)])) (fun _ kk => XS.i2l X25.here hx rfl (hb hby down_add_75) rfl kk) ?_
    refine own_st (G := T24.setTop (mkF m 77 #[.val (.ref a), .val (.ref b), .val (.int iv12), .unset, .unset, .unset] [(.long ((k + (1 : Int32)).toInt64 * W.toInt64))])) (fun _ kk => XS.lmul X25.here hx rfl (hb hby down_add_76) rfl kk) ?_
    refine own_st (G := T24.setTop (mkF m 78 #[.val (.ref a), .val (.ref b), .val (.int iv12), .val (.long ((k + (1 : Int32)).toInt64 * W.toInt64)), .second, .unset] [])) (fun _ kk => XS.lstoreN X25.here hx rfl (hb hby down_add_77) rfl (l' := #[.val (.ref a), .val (.ref b), .val (.int iv12), .val (.long ((k + (1 : Int32)).toInt64 * W.toInt64)), .second, .unset]) rfl kk) ?_
    refine own_st (G := T24.setTop (mkF m 79 #[.val (.ref a), .val (.ref b), .val (.int iv12), .val (.long ((k + (1 : Int32)).toInt64 * W.toInt64)), .second, .unset] [(.long ((k + (1 : Int32)).toInt64 * W.toInt64))])) (fun _ kk => XS.lloadN X25.here hx rfl (hb hby down_add_78) rfl kk) ?_
    refine own_st (G := T24.setTop (mkF m 80 #[.val (.ref a), .val (.ref b), .val (.int iv12), .val (.long ((k + (1 : Int32)).toInt64 * W.toInt64)), .second, .unset] [(.ref a), (.long ((k + (1 : Int32)).toInt64 * W.toInt64))])) (fun _ kk => XS.aloadN X25.here hx rfl (hb hby down_add_79) rfl rfl kk) ?_
    obtain ⟨T28, X29, e30, st31⟩ := getF X25 hx hZ hown (host := "") (Or.inl (own_w hw 12 rfl)) Via.refl e26 (O).2.2.1 (g := (mkF m 80 #[.val (.ref a), .val (.ref b), .val (.int iv12), .val (.long ((k + (1 : Int32)).toInt64 * W.toInt64)), .second, .unset] [(.ref a), (.long ((k + (1 : Int32)).toInt64 * W.toInt64))])) rfl rfl (hb hby down_add_80)
    refine own_st st31 ?_
    show own_Out _ _ _ _ (T28.setTop (mkF m 83 #[.val (.ref a), .val (.ref b), .val (.int iv12), .val (.long ((k + (1 : Int32)).toInt64 * W.toInt64)), .second, .unset] [(.ref wa), (.long ((k + (1 : Int32)).toInt64 * W.toInt64))]))
    refine own_lenJ X29 hx hZ e30 Fw (z := ((16 : Int32) * W)) (own_hWn hW).2.2.2.2.2.2 (hb hby down_add_83) ?_
    show own_Out _ _ _ _ (T28.setTop (mkF m 84 #[.val (.ref a), .val (.ref b), .val (.int iv12), .val (.long ((k + (1 : Int32)).toInt64 * W.toInt64)), .second, .unset] [(.int ((16 : Int32) * W)), (.long ((k + (1 : Int32)).toInt64 * W.toInt64))]))
    refine own_st (G := T28.setTop (mkF m 85 #[.val (.ref a), .val (.ref b), .val (.int iv12), .val (.long ((k + (1 : Int32)).toInt64 * W.toInt64)), .second, .unset] [(.long ((16 : Int32) * W).toInt64), (.long ((k + (1 : Int32)).toInt64 * W.toInt64))])) (fun _ kk => XS.i2l X29.here hx rfl (hb hby down_add_84) rfl kk) ?_
    refine own_st (G := T28.setTop (mkF m 86 #[.val (.ref a), .val (.ref b), .val (.int iv12), .val (.long ((k + (1 : Int32)).toInt64 * W.toInt64)), .second, .unset] [(.int (BdW.cmpL ((k + (1 : Int32)).toInt64 * W.toInt64) ((16 : Int32) * W).toInt64))])) (fun _ kk => XT.lcmp X29.here hx rfl (hb hby down_add_85) rfl kk) ?_
    have hk32 : ¬ (((16 : Int32) * W).toInt64 < ((k + (1 : Int32)).toInt64 * W.toInt64)) := (own_grow hW hk).1
    refine own_st (G := T28.setTop (mkF m 158 #[.val (.ref a), .val (.ref b), .val (.int iv12), .val (.long ((k + (1 : Int32)).toInt64 * W.toInt64)), .second, .unset] [])) (fun _ kk => XS.ifYes X29.here hx rfl (pc0 := 86) (pc' := 158) rfl (hb hby down_add_86) rfl (XT.ll_le_t hk32) (by decide) (by decide) kk) ?_
    refine own_st (G := T28.setTop (mkF m 159 #[.val (.ref a), .val (.ref b), .val (.int iv12), .val (.long ((k + (1 : Int32)).toInt64 * W.toInt64)), .second, .unset] [(.ref b)])) (fun _ kk => XS.aloadN X29.here hx rfl (hb hby down_add_158) rfl rfl kk) ?_
    refine own_st (G := T28.setTop (mkF m 160 #[.val (.ref a), .val (.ref b), .val (.int iv12), .val (.long ((k + (1 : Int32)).toInt64 * W.toInt64)), .second, .unset] [(.int (0 : Int32)), (.ref b)])) (fun _ kk => XT.iconstV X29.here hx rfl (0 : Int32) (hb hby down_add_159) (by decide) kk) ?_
    refine own_st (G := T28.setTop (mkF m 161 #[.val (.ref a), .val (.ref b), .val (.int iv12), .val (.long ((k + (1 : Int32)).toInt64 * W.toInt64)), .second, .unset] [(.ref a), (.int (0 : Int32)), (.ref b)])) (fun _ kk => XS.aloadN X29.here hx rfl (hb hby down_add_160) rfl rfl kk) ?_
    obtain ⟨T33, X34, e35, st36⟩ := getF X29 hx hZ hown (host := "") (Or.inl (own_w hw 12 rfl)) Via.refl e30 (O).2.2.1 (g := (mkF m 161 #[.val (.ref a), .val (.ref b), .val (.int iv12), .val (.long ((k + (1 : Int32)).toInt64 * W.toInt64)), .second, .unset] [(.ref a), (.int (0 : Int32)), (.ref b)])) rfl rfl (hb hby down_add_161)
    refine own_st st36 ?_
    show own_Out _ _ _ _ (T33.setTop (mkF m 164 #[.val (.ref a), .val (.ref b), .val (.int iv12), .val (.long ((k + (1 : Int32)).toInt64 * W.toInt64)), .second, .unset] [(.ref wa), (.int (0 : Int32)), (.ref b)]))
    refine own_st (G := T33.setTop (mkF m 165 #[.val (.ref a), .val (.ref b), .val (.int iv12), .val (.long ((k + (1 : Int32)).toInt64 * W.toInt64)), .second, .unset] [(.ref a), (.ref wa), (.int (0 : Int32)), (.ref b)])) (fun _ kk => XS.aloadN X34.here hx rfl (hb hby down_add_164) rfl rfl kk) ?_
    obtain ⟨T37, X38, e39, st40⟩ := getF X34 hx hZ hown (host := "") (Or.inl (own_w hw 27 rfl)) Via.refl e35 (O).2.2.2.2 (g := (mkF m 165 #[.val (.ref a), .val (.ref b), .val (.int iv12), .val (.long ((k + (1 : Int32)).toInt64 * W.toInt64)), .second, .unset] [(.ref a), (.ref wa), (.int (0 : Int32)), (.ref b)])) rfl rfl (hb hby down_add_165)
    refine own_st st40 ?_
    show own_Out _ _ _ _ (T37.setTop (mkF m 168 #[.val (.ref a), .val (.ref b), .val (.int iv12), .val (.long ((k + (1 : Int32)).toInt64 * W.toInt64)), .second, .unset] [(.int k), (.ref wa), (.int (0 : Int32)), (.ref b)]))
    refine own_st (G := T37.setTop (mkF m 169 #[.val (.ref a), .val (.ref b), .val (.int iv12), .val (.long ((k + (1 : Int32)).toInt64 * W.toInt64)), .second, .unset] [(.ref a), (.int k), (.ref wa), (.int (0 : Int32)), (.ref b)])) (fun _ kk => XS.aloadN X38.here hx rfl (hb hby down_add_168) rfl rfl kk) ?_
    obtain ⟨T41, X42, e43, st44⟩ := getF X38 hx hZ hown (host := "") (Or.inl (own_w hw 10 rfl)) Via.refl e39 (O).2.1 (g := (mkF m 169 #[.val (.ref a), .val (.ref b), .val (.int iv12), .val (.long ((k + (1 : Int32)).toInt64 * W.toInt64)), .second, .unset] [(.ref a), (.int k), (.ref wa), (.int (0 : Int32)), (.ref b)])) rfl rfl (hb hby down_add_169)
    refine own_st st44 ?_
    show own_Out _ _ _ _ (T41.setTop (mkF m 172 #[.val (.ref a), .val (.ref b), .val (.int iv12), .val (.long ((k + (1 : Int32)).toInt64 * W.toInt64)), .second, .unset] [(.int W), (.int k), (.ref wa), (.int (0 : Int32)), (.ref b)]))
    refine own_st (G := T41.setTop (mkF m 173 #[.val (.ref a), .val (.ref b), .val (.int iv12), .val (.long ((k + (1 : Int32)).toInt64 * W.toInt64)), .second, .unset] [(.int (k * W)), (.ref wa), (.int (0 : Int32)), (.ref b)])) (fun _ kk => XS.imul X42.here hx rfl (hb hby down_add_172) rfl kk) ?_
    refine own_st (G := T41.setTop (mkF m 174 #[.val (.ref a), .val (.ref b), .val (.int iv12), .val (.long ((k + (1 : Int32)).toInt64 * W.toInt64)), .second, .unset] [(.ref a), (.int (k * W)), (.ref wa), (.int (0 : Int32)), (.ref b)])) (fun _ kk => XS.aloadN X42.here hx rfl (hb hby down_add_173) rfl rfl kk) ?_
    obtain ⟨T45, X46, e47, st48⟩ := getF X42 hx hZ hown (host := "") (Or.inl (own_w hw 10 rfl)) Via.refl e43 (O).2.1 (g := (mkF m 174 #[.val (.ref a), .val (.ref b), .val (.int iv12), .val (.long ((k + (1 : Int32)).toInt64 * W.toInt64)), .second, .unset] [(.ref a), (.int (k * W)), (.ref wa), (.int (0 : Int32)), (.ref b)])) rfl rfl (hb hby down_add_174)
    refine own_st st48 ?_
    show own_Out _ _ _ _ (T45.setTop (mkF m 177 #[.val (.ref a), .val (.ref b), .val (.int iv12), .val (.long ((k + (1 : Int32)).toInt64 * W.toInt64)), .second, .unset] [(.int W), (.int (k * W)), (.ref wa), (.int (0 : Int32)), (.ref b)]))
    have hat := own_at_of hW (own_K012 hk)
    refine own_arraycopy X46 hx hZ hown (own_w hw 29 rfl) (own_w hw 32 rfl) (own_w hw 30 rfl) (own_w hw 31 rfl) e47 Fb Fw (sp := (0 : Int32)) (dp := (k * W)) (nn := W) (i1 := 0) (i2 := (k.toNatClampNeg * W.toNatClampNeg)) (i3 := W.toNatClampNeg) (by decide) hat.2.2.1 (own_hWn hW).1 rfl hat.2.2.2.2.1 rfl (by have := (own_hWn hW).2.1; omega) hat.2.2.2.2.2.1 N2 gw (rest := []) (by rw [hml]; rfl) (hb hby down_add_177) (by decide) 0 (Nat.le_of_eq rfl) (by decide) ?_
    intro T49 h50 L56 X51 e52 N53 K54 F55
    show own_Out _ _ _ _ (T49.setTop (mkF m 180 #[.val (.ref a), .val (.ref b), .val (.int iv12), .val (.long ((k + (1 : Int32)).toInt64 * W.toInt64)), .second, .unset] []))
    have K1 := (Keep.refl h0 [a, wa, sa]).trans K54 (allS (Or.inl (by simp)) all0)
    have O1 := own_P_keep K54 (ninS naw nin0) O
    have Fs1 := own_AI_keep Fs K54 (ninS (Ne.symm nws) nin0)
    refine own_st (G := T49.setTop (mkF m 181 #[.val (.ref a), .val (.ref b), .val (.int iv12), .val (.long ((k + (1 : Int32)).toInt64 * W.toInt64)), .second, .unset] [(.ref a)])) (fun _ kk => XS.aloadN X51.here hx rfl (hb hby down_add_180) rfl rfl kk) ?_
    obtain ⟨T57, X58, e59, st60⟩ := getF X51 hx hZ hown (host := "") (Or.inl (own_w hw 15 rfl)) Via.refl e52 (O1).2.2.2.1 (g := (mkF m 181 #[.val (.ref a), .val (.ref b), .val (.int iv12), .val (.long ((k + (1 : Int32)).toInt64 * W.toInt64)), .second, .unset] [(.ref a)])) rfl rfl (hb hby down_add_181)
    refine own_st st60 ?_
    show own_Out _ _ _ _ (T57.setTop (mkF m 184 #[.val (.ref a), .val (.ref b), .val (.int iv12), .val (.long ((k + (1 : Int32)).toInt64 * W.toInt64)), .second, .unset] [(.ref sa)]))
    refine own_st (G := T57.setTop (mkF m 185 #[.val (.ref a), .val (.ref b), .val (.int iv12), .val (.long ((k + (1 : Int32)).toInt64 * W.toInt64)), .second, .unset] [(.int iv12), (.ref sa)])) (fun _ kk => XS.iloadN X58.here hx rfl (hb hby down_add_184) rfl kk) ?_
    refine own_st (G := T57.setTop (mkF m 186 #[.val (.ref a), .val (.ref b), .val (.int iv12), .val (.long ((k + (1 : Int32)).toInt64 * W.toInt64)), .second, .unset] [(.ref a), (.int iv12), (.ref sa)])) (fun _ kk => XS.aloadN X58.here hx rfl (hb hby down_add_185) rfl rfl kk) ?_
    obtain ⟨T61, X62, e63, st64⟩ := getF X58 hx hZ hown (host := "") (Or.inl (own_w hw 27 rfl)) Via.refl e59 (O1).2.2.2.2 (g := (mkF m 186 #[.val (.ref a), .val (.ref b), .val (.int iv12), .val (.long ((k + (1 : Int32)).toInt64 * W.toInt64)), .second, .unset] [(.ref a), (.int iv12), (.ref sa)])) rfl rfl (hb hby down_add_186)
    refine own_st st64 ?_
    show own_Out _ _ _ _ (T61.setTop (mkF m 189 #[.val (.ref a), .val (.ref b), .val (.int iv12), .val (.long ((k + (1 : Int32)).toInt64 * W.toInt64)), .second, .unset] [(.int k), (.int iv12), (.ref sa)]))
    refine own_st (G := T61.setTop (mkF m 190 #[.val (.ref a), .val (.ref b), .val (.int iv12), .val (.long ((k + (1 : Int32)).toInt64 * W.toInt64)), .second, .unset] [(.int (1 : Int32)), (.int k), (.int iv12), (.ref sa)])) (fun _ kk => XT.iconstV X62.here hx rfl (1 : Int32) (hb hby down_add_189) (by decide) kk) ?_
    refine own_st (G := T61.setTop (mkF m 191 #[.val (.ref a), .val (.ref b), .val (.int iv12), .val (.long ((k + (1 : Int32)).toInt64 * W.toInt64)), .second, .unset] [(.int (k + (1 : Int32))), (.int iv12), (.ref sa)])) (fun _ kk => XS.iadd X62.here hx rfl (hb hby down_add_190) rfl kk) ?_
    refine own_iastore X62 hx hZ e63 Fs1 (j := iv12) (i := iv12.toNatClampNeg) b13.1 rfl b13.2.1 (hb hby down_add_191) ?_
    intro T65 h66 X67 e68 W69 F70
    show own_Out _ _ _ _ (T65.setTop (mkF m 192 #[.val (.ref a), .val (.ref b), .val (.int iv12), .val (.long ((k + (1 : Int32)).toInt64 * W.toInt64)), .second, .unset] []))
    have N2 := Fr.snoc X67 N53 gs
    have K2 := K1.wr W69 (Or.inl (by simp))
    have O2 := own_P_keep (Keep.of_wr W69) (ninS nas nin0) O1
    have Fw2 := own_AJ_other F55 W69 nws
    refine own_st (G := T65.setTop (mkF m 193 #[.val (.ref a), .val (.ref b), .val (.int iv12), .val (.long ((k + (1 : Int32)).toInt64 * W.toInt64)), .second, .unset] [(.ref a)])) (fun _ kk => XS.aloadN X67.here hx rfl (hb hby down_add_192) rfl rfl kk) ?_
    refine own_st (G := T65.setTop (mkF m 194 #[.val (.ref a), .val (.ref b), .val (.int iv12), .val (.long ((k + (1 : Int32)).toInt64 * W.toInt64)), .second, .unset] [(.ref a), (.ref a)])) (fun _ kk => XS.dup X67.here hx rfl (hb hby down_add_193) rfl rfl kk) ?_
    obtain ⟨T71, X72, e73, st74⟩ := getF X67 hx hZ hown (host := "") (Or.inl (own_w hw 27 rfl)) Via.refl e68 (O2).2.2.2.2 (g := (mkF m 194 #[.val (.ref a), .val (.ref b), .val (.int iv12), .val (.long ((k + (1 : Int32)).toInt64 * W.toInt64)), .second, .unset] [(.ref a), (.ref a)])) rfl rfl (hb hby down_add_194)
    refine own_st st74 ?_
    show own_Out _ _ _ _ (T71.setTop (mkF m 197 #[.val (.ref a), .val (.ref b), .val (.int iv12), .val (.long ((k + (1 : Int32)).toInt64 * W.toInt64)), .second, .unset] [(.int k), (.ref a)]))
    refine own_st (G := T71.setTop (mkF m 198 #[.val (.ref a), .val (.ref b), .val (.int iv12), .val (.long ((k + (1 : Int32)).toInt64 * W.toInt64)), .second, .unset] [(.int (1 : Int32)), (.int k), (.ref a)])) (fun _ kk => XT.iconstV X72.here hx rfl (1 : Int32) (hb hby down_add_197) (by decide) kk) ?_
    refine own_st (G := T71.setTop (mkF m 199 #[.val (.ref a), .val (.ref b), .val (.int iv12), .val (.long ((k + (1 : Int32)).toInt64 * W.toInt64)), .second, .unset] [(.int (k + (1 : Int32))), (.ref a)])) (fun _ kk => XS.iadd X72.here hx rfl (hb hby down_add_198) rfl kk) ?_
    obtain ⟨T75, h76, X77, e78, W79, st80⟩ := putF X72 hx hZ hown (host := "") (Or.inl (own_w hw 27 rfl)) Via.refl e73 (O2).2.2.2.2 (O2).1 (Or.inl (own_w hw 28 rfl)) (own_w hw 2 rfl) (ty := .int) (by decide) rfl rfl (g := (mkF m 199 #[.val (.ref a), .val (.ref b), .val (.int iv12), .val (.long ((k + (1 : Int32)).toInt64 * W.toInt64)), .second, .unset] [(.int (k + (1 : Int32))), (.ref a)])) rfl rfl (hb hby down_add_199)
    refine own_st st80 ?_
    show own_Out _ _ _ _ (T75.setTop (mkF m 202 #[.val (.ref a), .val (.ref b), .val (.int iv12), .val (.long ((k + (1 : Int32)).toInt64 * W.toInt64)), .second, .unset] []))
    have O81 : own_P Z h76 a W (.ref wa) (.ref sa) (k + (1 : Int32)) := own_P_size hw W79 O2
    have N82 := Fr.snoc X77 N2 ga
    have K3 := K2.wr W79 (Or.inl (by simp))
    have F83 := own_AJ_other Fw2 W79 (Ne.symm naw)
    have F84 := own_AI_other F70 W79 (Ne.symm nas)
    refine own_st (G := T75.setTop (mkF m 205 #[.val (.ref a), .val (.ref b), .val (.int iv12), .val (.long ((k + (1 : Int32)).toInt64 * W.toInt64)), .second, .unset] [(.long (2 : Int64))])) (fun _ kk => X77.ldc2Long hx hown (mvT hZ (own_w hw 33 rfl)) (g := (mkF m 202 #[.val (.ref a), .val (.ref b), .val (.int iv12), .val (.long ((k + (1 : Int32)).toInt64 * W.toInt64)), .second, .unset] [])) rfl (hb hby down_add_202) _ kk) ?_
    refine own_st (G := T75.setTop (mkF m 206 #[.val (.ref a), .val (.ref b), .val (.int iv12), .val (.long ((k + (1 : Int32)).toInt64 * W.toInt64)), .second, .unset] [(.ref a), (.long (2 : Int64))])) (fun _ kk => XS.aloadN X77.here hx rfl (hb hby down_add_205) rfl rfl kk) ?_
    obtain ⟨T85, X86, e87, st88⟩ := getF X77 hx hZ hown (host := "") (Or.inl (own_w hw 27 rfl)) Via.refl e78 (O81).2.2.2.2 (g := (mkF m 206 #[.val (.ref a), .val (.ref b), .val (.int iv12), .val (.long ((k + (1 : Int32)).toInt64 * W.toInt64)), .second, .unset] [(.ref a), (.long (2 : Int64))])) rfl rfl (hb hby down_add_206)
    refine own_st st88 ?_
    show own_Out _ _ _ _ (T85.setTop (mkF m 209 #[.val (.ref a), .val (.ref b), .val (.int iv12), .val (.long ((k + (1 : Int32)).toInt64 * W.toInt64)), .second, .unset] [(.int (k + (1 : Int32))), (.long (2 : Int64))]))
    refine own_st (G := T85.setTop (mkF m 210 #[.val (.ref a), .val (.ref b), .val (.int iv12), .val (.long ((k + (1 : Int32)).toInt64 * W.toInt64)), .second, .unset] [(.long (k + (1 : Int32)).toInt64), (.long (2 : Int64))])) (fun _ kk => XS.i2l X86.here hx rfl (hb hby down_add_209) rfl kk) ?_
    refine own_st (G := T85.setTop (mkF m 211 #[.val (.ref a), .val (.ref b), .val (.int iv12), .val (.long ((k + (1 : Int32)).toInt64 * W.toInt64)), .second, .unset] [(.long ((2 : Int64) * (k + (1 : Int32)).toInt64))])) (fun _ kk => XS.lmul X86.here hx rfl (hb hby down_add_210) rfl kk) ?_
    refine own_st (G := T85.setTop (mkF m 212 #[.val (.ref a), .val (.ref b), .val (.int iv12), .val (.long ((k + (1 : Int32)).toInt64 * W.toInt64)), .second, .unset] [(.ref a), (.long ((2 : Int64) * (k + (1 : Int32)).toInt64))])) (fun _ kk => XS.aloadN X86.here hx rfl (hb hby down_add_211) rfl rfl kk) ?_
    obtain ⟨T89, X90, e91, st92⟩ := getF X86 hx hZ hown (host := "") (Or.inl (own_w hw 15 rfl)) Via.refl e87 (O81).2.2.2.1 (g := (mkF m 212 #[.val (.ref a), .val (.ref b), .val (.int iv12), .val (.long ((k + (1 : Int32)).toInt64 * W.toInt64)), .second, .unset] [(.ref a), (.long ((2 : Int64) * (k + (1 : Int32)).toInt64))])) rfl rfl (hb hby down_add_212)
    refine own_st st92 ?_
    show own_Out _ _ _ _ (T89.setTop (mkF m 215 #[.val (.ref a), .val (.ref b), .val (.int iv12), .val (.long ((k + (1 : Int32)).toInt64 * W.toInt64)), .second, .unset] [(.ref sa), (.long ((2 : Int64) * (k + (1 : Int32)).toInt64))]))
    refine own_lenI X90 hx hZ e91 F84 (z := (32 : Int32)) rfl (hb hby down_add_215) ?_
    show own_Out _ _ _ _ (T89.setTop (mkF m 216 #[.val (.ref a), .val (.ref b), .val (.int iv12), .val (.long ((k + (1 : Int32)).toInt64 * W.toInt64)), .second, .unset] [(.int (32 : Int32)), (.long ((2 : Int64) * (k + (1 : Int32)).toInt64))]))
    refine own_st (G := T89.setTop (mkF m 217 #[.val (.ref a), .val (.ref b), .val (.int iv12), .val (.long ((k + (1 : Int32)).toInt64 * W.toInt64)), .second, .unset] [(.long (32 : Int32).toInt64), (.long ((2 : Int64) * (k + (1 : Int32)).toInt64))])) (fun _ kk => XS.i2l X90.here hx rfl (hb hby down_add_216) rfl kk) ?_
    refine own_st (G := T89.setTop (mkF m 218 #[.val (.ref a), .val (.ref b), .val (.int iv12), .val (.long ((k + (1 : Int32)).toInt64 * W.toInt64)), .second, .unset] [(.int (BdW.cmpL ((2 : Int64) * (k + (1 : Int32)).toInt64) (32 : Int32).toInt64))])) (fun _ kk => XT.lcmp X90.here hx rfl (hb hby down_add_217) rfl kk) ?_
    have hk93 : ¬ ((32 : Int32).toInt64 < ((2 : Int64) * (k + (1 : Int32)).toInt64)) := (own_grow hW hk).2
    refine own_st (G := T89.setTop (mkF m 225 #[.val (.ref a), .val (.ref b), .val (.int iv12), .val (.long ((k + (1 : Int32)).toInt64 * W.toInt64)), .second, .unset] [])) (fun _ kk => XS.ifYes X90.here hx rfl (pc0 := 218) (pc' := 225) rfl (hb hby down_add_218) rfl (XT.ll_le_t hk93) (by decide) (by decide) kk) ?_
    refine own_st (G := T89.setTop (mkF m 226 #[.val (.ref a), .val (.ref b), .val (.int iv12), .val (.long ((k + (1 : Int32)).toInt64 * W.toInt64)), .second, .unset] [(.ref a)])) (fun _ kk => XS.aloadN X90.here hx rfl (hb hby down_add_225) rfl rfl kk) ?_
    obtain ⟨T94, X95, e96, st97⟩ := getF X90 hx hZ hown (host := "") (Or.inl (own_w hw 27 rfl)) Via.refl e91 (O81).2.2.2.2 (g := (mkF m 226 #[.val (.ref a), .val (.ref b), .val (.int iv12), .val (.long ((k + (1 : Int32)).toInt64 * W.toInt64)), .second, .unset] [(.ref a)])) rfl rfl (hb hby down_add_226)
    refine own_st st97 ?_
    show own_Out _ _ _ _ (T94.setTop (mkF m 229 #[.val (.ref a), .val (.ref b), .val (.int iv12), .val (.long ((k + (1 : Int32)).toInt64 * W.toInt64)), .second, .unset] [(.int (k + (1 : Int32)))]))
    refine own_st (G := T94.setTop (mkF m 230 #[.val (.ref a), .val (.ref b), .val (.int iv12), .val (.long ((k + (1 : Int32)).toInt64 * W.toInt64)), .second, .unset] [(.int (1 : Int32)), (.int (k + (1 : Int32)))])) (fun _ kk => XT.iconstV X95.here hx rfl (1 : Int32) (hb hby down_add_229) (by decide) kk) ?_
    refine own_st (G := T94.setTop (mkF m 231 #[.val (.ref a), .val (.ref b), .val (.int iv12), .val (.long ((k + (1 : Int32)).toInt64 * W.toInt64)), .second, .unset] [(.int ((k + (1 : Int32)) - (1 : Int32)))])) (fun _ kk => XS.isub X95.here hx rfl (hb hby down_add_230) rfl kk) ?_
    refine own_retI X95 hx hret hlk (hb hby down_add_231) (by decide) (by decide) ?_
    rw [e96]
    exact ⟨_, _, _, _, rfl, N82, K3, O81, F83, F84, own_put hk S b13.2.1 hc19⟩
  · skip
    refine own_st (G := T15.setTop (mkF m 24 #[.val (.ref a), .val (.ref b), .val (.int iv12), .unset, .unset, .unset] [])) (fun _ kk => XS.ifNo X16.here hx rfl (hb hby down_add_21) rfl (XT.i0_eq_f hc19) kk) ?_
    refine own_st (G := T15.setTop (mkF m 25 #[.val (.ref a), .val (.ref b), .val (.int iv12), .unset, .unset, .unset] [(.ref a)])) (fun _ kk => XS.aloadN X16.here hx rfl (hb hby down_add_24) rfl rfl kk) ?_
    refine own_st (G := T15.setTop (mkF m 26 #[.val (.ref a), .val (.ref b), .val (.int iv12), .unset, .unset, .unset] [(.ref a), (.ref a)])) (fun _ kk => XS.aloadN X16.here hx rfl (hb hby down_add_25) rfl rfl kk) ?_
    obtain ⟨T98, X99, e100, st101⟩ := getF X16 hx hZ hown (host := "") (Or.inl (own_w hw 15 rfl)) Via.refl e17 (O).2.2.2.1 (g := (mkF m 26 #[.val (.ref a), .val (.ref b), .val (.int iv12), .unset, .unset, .unset] [(.ref a), (.ref a)])) rfl rfl (hb hby down_add_26)
    refine own_st st101 ?_
    show own_Out _ _ _ _ (T98.setTop (mkF m 29 #[.val (.ref a), .val (.ref b), .val (.int iv12), .unset, .unset, .unset] [(.ref sa), (.ref a)]))
    refine own_st (G := T98.setTop (mkF m 30 #[.val (.ref a), .val (.ref b), .val (.int iv12), .unset, .unset, .unset] [(.int iv12), (.ref sa), (.ref a)])) (fun _ kk => XS.iloadN X99.here hx rfl (hb hby down_add_29) rfl kk) ?_
    refine own_iaload X99 hx hZ e100 Fs (j := iv12) (i := iv12.toNatClampNeg) b13.1 rfl b13.2.1 (hb hby down_add_30) ?_
    show own_Out _ _ _ _ (T98.setTop (mkF m 31 #[.val (.ref a), .val (.ref b), .val (.int iv12), .unset, .unset, .unset] [(.int (fsl iv12.toNatClampNeg)), (.ref a)]))
    refine own_st (G := T98.setTop (mkF m 32 #[.val (.ref a), .val (.ref b), .val (.int iv12), .unset, .unset, .unset] [(.int (1 : Int32)), (.int (fsl iv12.toNatClampNeg)), (.ref a)])) (fun _ kk => XT.iconstV X99.here hx rfl (1 : Int32) (hb hby down_add_31) (by decide) kk) ?_
    refine own_st (G := T98.setTop (mkF m 33 #[.val (.ref a), .val (.ref b), .val (.int iv12), .unset, .unset, .unset] [(.int ((fsl iv12.toNatClampNeg) - (1 : Int32))), (.ref a)])) (fun _ kk => XS.isub X99.here hx rfl (hb hby down_add_32) rfl kk) ?_
    refine own_st (G := T98.setTop (mkF m 34 #[.val (.ref a), .val (.ref b), .val (.int iv12), .unset, .unset, .unset] [(.ref b), (.int ((fsl iv12.toNatClampNeg) - (1 : Int32))), (.ref a)])) (fun _ kk => XS.aloadN X99.here hx rfl (hb hby down_add_33) rfl rfl kk) ?_
    have at105 := own_at_val hW S hk b13.2.1 hc19
    refine own_callP X99 hx hZ (y := (⟨"com/example/libbuchi/libbuchi/automata/PackedStates", "holds", "(I[J)Z"⟩ : MethodName)) (b := a) (as' := [(.int ((fsl iv12.toNatClampNeg) - (1 : Int32))), (.ref b)]) hown (own_w hw 43 rfl) (own_w hw 44 rfl) (own_w hw 45 rfl) (own_w hw 46 rfl) (own_w hw 3 rfl) (own_nf (y := ⟨"com/example/libbuchi/libbuchi/automata/PackedStates", "add", "([J)I"⟩) (a0 := #[]) rfl (notFace_of_selects (args := #[]) (mvT hZ (own_w hw 20 rfl))) (mvT hZ (own_w hw 19 rfl))) (by decide) (own_holds l Z a0 hw [] ((fsl iv12.toNatClampNeg) - (1 : Int32)) a b wa sa W k fw fb _ h0 n0 O Fw Fb hW at105.2.2.2.1 at105.2.2.2.2.2.1 at105.2.2.2.2.2.2) O.1 0 (by decide) (by decide) (by decide) (by decide) (rest := []) (by rw [hml]; rfl) (lenOf (by decide : parseMethodDescriptor "(I[J)Z" = some ⟨[.int, .array (.long)], some (.boolean)⟩) rfl) rfl (Nat.le_of_eq rfl) (hb hby down_add_34) e100 ?_
    intro T107 L108 v110 X109 hQ
    obtain ⟨r104, rfl, rfl, eq102, hh106⟩ := hQ
    show own_Out _ _ _ _ (T107.setTop (mkF m 37 #[.val (.ref a), .val (.ref b), .val (.int iv12), .unset, .unset, .unset] [(.int r104)]))
    have N103 := Fr.app N2 (Fr.nil n0)
    by_cases hc111 : r104 = (0 : Int32)
    · skip
      refine own_st (G := T107.setTop (mkF m 49 #[.val (.ref a), .val (.ref b), .val (.int iv12), .unset, .unset, .unset] [])) (fun _ kk => XS.ifYes X109.here hx rfl (pc0 := 37) (pc' := 49) rfl (hb hby down_add_37) rfl (XT.i0_eq_t hc111) (by decide) (by decide) kk) ?_
      refine own_st (G := T107.setTop (mkF m 50 #[.val (.ref a), .val (.ref b), .val (.int iv12), .unset, .unset, .unset] [(.int iv12)])) (fun _ kk => XS.iloadN X109.here hx rfl (hb hby down_add_49) rfl kk) ?_
      refine own_st (G := T107.setTop (mkF m 51 #[.val (.ref a), .val (.ref b), .val (.int iv12), .unset, .unset, .unset] [(.int (1 : Int32)), (.int iv12)])) (fun _ kk => XT.iconstV X109.here hx rfl (1 : Int32) (hb hby down_add_50) (by decide) kk) ?_
      refine own_st (G := T107.setTop (mkF m 52 #[.val (.ref a), .val (.ref b), .val (.int iv12), .unset, .unset, .unset] [(.int (iv12 + (1 : Int32)))])) (fun _ kk => XS.iadd X109.here hx rfl (hb hby down_add_51) rfl kk) ?_
      refine own_st (G := T107.setTop (mkF m 53 #[.val (.ref a), .val (.ref b), .val (.int iv12), .unset, .unset, .unset] [(.ref a), (.int (iv12 + (1 : Int32)))])) (fun _ kk => XS.aloadN X109.here hx rfl (hb hby down_add_52) rfl rfl kk) ?_
      obtain ⟨T112, X113, e114, st115⟩ := getF X109 hx hZ hown (host := "") (Or.inl (own_w hw 15 rfl)) Via.refl eq102 (O).2.2.2.1 (g := (mkF m 53 #[.val (.ref a), .val (.ref b), .val (.int iv12), .unset, .unset, .unset] [(.ref a), (.int (iv12 + (1 : Int32)))])) rfl rfl (hb hby down_add_53)
      refine own_st st115 ?_
      show own_Out _ _ _ _ (T112.setTop (mkF m 56 #[.val (.ref a), .val (.ref b), .val (.int iv12), .unset, .unset, .unset] [(.ref sa), (.int (iv12 + (1 : Int32)))]))
      refine own_lenI X113 hx hZ e114 Fs (z := (32 : Int32)) rfl (hb hby down_add_56) ?_
      show own_Out _ _ _ _ (T112.setTop (mkF m 57 #[.val (.ref a), .val (.ref b), .val (.int iv12), .unset, .unset, .unset] [(.int (32 : Int32)), (.int (iv12 + (1 : Int32)))]))
      refine own_st (G := T112.setTop (mkF m 58 #[.val (.ref a), .val (.ref b), .val (.int iv12), .unset, .unset, .unset] [(.int (1 : Int32)), (.int (32 : Int32)), (.int (iv12 + (1 : Int32)))])) (fun _ kk => XT.iconstV X113.here hx rfl (1 : Int32) (hb hby down_add_57) (by decide) kk) ?_
      refine own_st (G := T112.setTop (mkF m 59 #[.val (.ref a), .val (.ref b), .val (.int iv12), .unset, .unset, .unset] [(.int ((32 : Int32) - (1 : Int32))), (.int (iv12 + (1 : Int32)))])) (fun _ kk => XS.isub X113.here hx rfl (hb hby down_add_58) rfl kk) ?_
      rw [show ((32 : Int32) - (1 : Int32)) = (31 : Int32) from by decide +kernel]
      refine own_st (G := T112.setTop (mkF m 60 #[.val (.ref a), .val (.ref b), .val (.int iv12), .unset, .unset, .unset] [(.int ((iv12 + (1 : Int32)) &&& (31 : Int32)))])) (fun _ kk => XS.iand X113.here hx rfl (hb hby down_add_59) rfl kk) ?_
      generalize hv60 : ((iv12 + (1 : Int32)) &&& (31 : Int32)) = iv116
      refine own_st (G := T112.setTop (mkF m 61 #[.val (.ref a), .val (.ref b), .val (.int iv116), .unset, .unset, .unset] [])) (fun _ kk => XS.istoreN X113.here hx rfl (hb hby down_add_60) rfl (l' := #[.val (.ref a), .val (.ref b), .val (.int iv116), .unset, .unset, .unset]) rfl kk) ?_
      refine own_st (G := T112.setTop (mkF m 15 #[.val (.ref a), .val (.ref b), .val (.int iv116), .unset, .unset, .unset] [])) (fun _ kk => XS.goto X113.here hx rfl (pc0 := 61) (pc' := 15) rfl (hb hby down_add_61) (by decide) (by decide) kk) ?_
      have hi118 := hv60
      have b117 := own_and31 hi118
      refine own_st (G := T112.setTop (mkF m 16 #[.val (.ref a), .val (.ref b), .val (.int iv116), .unset, .unset, .unset] [(.ref a)])) (fun _ kk => XS.aloadN X113.here hx rfl (hb hby down_add_15) rfl rfl kk) ?_
      obtain ⟨T119, X120, e121, st122⟩ := getF X113 hx hZ hown (host := "") (Or.inl (own_w hw 15 rfl)) Via.refl e114 (O).2.2.2.1 (g := (mkF m 16 #[.val (.ref a), .val (.ref b), .val (.int iv116), .unset, .unset, .unset] [(.ref a)])) rfl rfl (hb hby down_add_16)
      refine own_st st122 ?_
      show own_Out _ _ _ _ (T119.setTop (mkF m 19 #[.val (.ref a), .val (.ref b), .val (.int iv116), .unset, .unset, .unset] [(.ref sa)]))
      refine own_st (G := T119.setTop (mkF m 20 #[.val (.ref a), .val (.ref b), .val (.int iv116), .unset, .unset, .unset] [(.int iv116), (.ref sa)])) (fun _ kk => XS.iloadN X120.here hx rfl (hb hby down_add_19) rfl kk) ?_
      refine own_iaload X120 hx hZ e121 Fs (j := iv116) (i := iv116.toNatClampNeg) b117.1 rfl b117.2.1 (hb hby down_add_20) ?_
      show own_Out _ _ _ _ (T119.setTop (mkF m 21 #[.val (.ref a), .val (.ref b), .val (.int iv116), .unset, .unset, .unset] [(.int (fsl iv116.toNatClampNeg))]))
      by_cases hc123 : (fsl iv116.toNatClampNeg) = (0 : Int32)
      · skip
        refine own_st (G := T119.setTop (mkF m 64 #[.val (.ref a), .val (.ref b), .val (.int iv116), .unset, .unset, .unset] [])) (fun _ kk => XS.ifYes X120.here hx rfl (pc0 := 21) (pc' := 64) rfl (hb hby down_add_21) rfl (XT.i0_eq_t hc123) (by decide) (by decide) kk) ?_
        refine own_st (G := T119.setTop (mkF m 65 #[.val (.ref a), .val (.ref b), .val (.int iv116), .unset, .unset, .unset] [(.ref a)])) (fun _ kk => XS.aloadN X120.here hx rfl (hb hby down_add_64) rfl rfl kk) ?_
        obtain ⟨T124, X125, e126, st127⟩ := getF X120 hx hZ hown (host := "") (Or.inl (own_w hw 27 rfl)) Via.refl e121 (O).2.2.2.2 (g := (mkF m 65 #[.val (.ref a), .val (.ref b), .val (.int iv116), .unset, .unset, .unset] [(.ref a)])) rfl rfl (hb hby down_add_65)
        refine own_st st127 ?_
        show own_Out _ _ _ _ (T124.setTop (mkF m 68 #[.val (.ref a), .val (.ref b), .val (.int iv116), .unset, .unset, .unset] [(.int k)]))
        refine own_st (G := T124.setTop (mkF m 69 #[.val (.ref a), .val (.ref b), .val (.int iv116), .unset, .unset, .unset] [(.int (1 : Int32)), (.int k)])) (fun _ kk => XT.iconstV X125.here hx rfl (1 : Int32) (hb hby down_add_68) (by decide) kk) ?_
        refine own_st (G := T124.setTop (mkF m 70 #[.val (.ref a), .val (.ref b), .val (.int iv116), .unset, .unset, .unset] [(.int (k + (1 : Int32)))])) (fun _ kk => XS.iadd X125.here hx rfl (hb hby down_add_69) rfl kk) ?_
        refine own_st (G := T124.setTop (mkF m 71 #[.val (.ref a), .val (.ref b), .val (.int iv116), .unset, .unset, .unset] [(.long (k + (1 : Int32)).toInt64)])) (fun _ kk => XS.i2l X125.here hx rfl (hb hby down_add_70) rfl kk) ?_
        refine own_st (G := T124.setTop (mkF m 72 #[.val (.ref a), .val (.ref b), .val (.int iv116), .unset, .unset, .unset] [(.ref a), (.long (k + (1 : Int32)).toInt64)])) (fun _ kk => XS.aloadN X125.here hx rfl (hb hby down_add_71) rfl rfl kk) ?_
        obtain ⟨T128, X129, e130, st131⟩ := getF X125 hx hZ hown (host := "") (Or.inl (own_w hw 10 rfl)) Via.refl e126 (O).2.1 (g := (mkF m 72 #[.val (.ref a), .val (.ref b), .val (.int iv116), .unset, .unset, .unset] [(.ref a), (.long (k + (1 : Int32)).toInt64)])) rfl rfl (hb hby down_add_72)
        refine own_st st131 ?_
        show own_Out _ _ _ _ (T128.setTop (mkF m 75 #[.val (.ref a), .val (.ref b), .val (.int iv116), .unset, .unset, .unset] [(.int W), (.long (k + (1 : Int32)).toInt64)]))
        refine own_st (G := T128.setTop (mkF m 76 #[.val (.ref a), .val (.ref b), .val (.int iv116), .unset, .unset, .unset] [(.long W.toInt64), (.long (k + (1 : Int32)).toInt64)])) (fun _ kk => XS.i2l X129.here hx rfl (hb hby down_add_75) rfl kk) ?_
        refine own_st (G := T128.setTop (mkF m 77 #[.val (.ref a), .val (.ref b), .val (.int iv116), .unset, .unset, .unset] [(.long ((k + (1 : Int32)).toInt64 * W.toInt64))])) (fun _ kk => XS.lmul X129.here hx rfl (hb hby down_add_76) rfl kk) ?_
        refine own_st (G := T128.setTop (mkF m 78 #[.val (.ref a), .val (.ref b), .val (.int iv116), .val (.long ((k + (1 : Int32)).toInt64 * W.toInt64)), .second, .unset] [])) (fun _ kk => XS.lstoreN X129.here hx rfl (hb hby down_add_77) rfl (l' := #[.val (.ref a), .val (.ref b), .val (.int iv116), .val (.long ((k + (1 : Int32)).toInt64 * W.toInt64)), .second, .unset]) rfl kk) ?_
        refine own_st (G := T128.setTop (mkF m 79 #[.val (.ref a), .val (.ref b), .val (.int iv116), .val (.long ((k + (1 : Int32)).toInt64 * W.toInt64)), .second, .unset] [(.long ((k + (1 : Int32)).toInt64 * W.toInt64))])) (fun _ kk => XS.lloadN X129.here hx rfl (hb hby down_add_78) rfl kk) ?_
        refine own_st (G := T128.setTop (mkF m 80 #[.val (.ref a), .val (.ref b), .val (.int iv116), .val (.long ((k + (1 : Int32)).toInt64 * W.toInt64)), .second, .unset] [(.ref a), (.long ((k + (1 : Int32)).toInt64 * W.toInt64))])) (fun _ kk => XS.aloadN X129.here hx rfl (hb hby down_add_79) rfl rfl kk) ?_
        obtain ⟨T132, X133, e134, st135⟩ := getF X129 hx hZ hown (host := "") (Or.inl (own_w hw 12 rfl)) Via.refl e130 (O).2.2.1 (g := (mkF m 80 #[.val (.ref a), .val (.ref b), .val (.int iv116), .val (.long ((k + (1 : Int32)).toInt64 * W.toInt64)), .second, .unset] [(.ref a), (.long ((k + (1 : Int32)).toInt64 * W.toInt64))])) rfl rfl (hb hby down_add_80)
        refine own_st st135 ?_
        show own_Out _ _ _ _ (T132.setTop (mkF m 83 #[.val (.ref a), .val (.ref b), .val (.int iv116), .val (.long ((k + (1 : Int32)).toInt64 * W.toInt64)), .second, .unset] [(.ref wa), (.long ((k + (1 : Int32)).toInt64 * W.toInt64))]))
        refine own_lenJ X133 hx hZ e134 Fw (z := ((16 : Int32) * W)) (own_hWn hW).2.2.2.2.2.2 (hb hby down_add_83) ?_
        show own_Out _ _ _ _ (T132.setTop (mkF m 84 #[.val (.ref a), .val (.ref b), .val (.int iv116), .val (.long ((k + (1 : Int32)).toInt64 * W.toInt64)), .second, .unset] [(.int ((16 : Int32) * W)), (.long ((k + (1 : Int32)).toInt64 * W.toInt64))]))
        refine own_st (G := T132.setTop (mkF m 85 #[.val (.ref a), .val (.ref b), .val (.int iv116), .val (.long ((k + (1 : Int32)).toInt64 * W.toInt64)), .second, .unset] [(.long ((16 : Int32) * W).toInt64), (.long ((k + (1 : Int32)).toInt64 * W.toInt64))])) (fun _ kk => XS.i2l X133.here hx rfl (hb hby down_add_84) rfl kk) ?_
        refine own_st (G := T132.setTop (mkF m 86 #[.val (.ref a), .val (.ref b), .val (.int iv116), .val (.long ((k + (1 : Int32)).toInt64 * W.toInt64)), .second, .unset] [(.int (BdW.cmpL ((k + (1 : Int32)).toInt64 * W.toInt64) ((16 : Int32) * W).toInt64))])) (fun _ kk => XT.lcmp X133.here hx rfl (hb hby down_add_85) rfl kk) ?_
        have hk136 : ¬ (((16 : Int32) * W).toInt64 < ((k + (1 : Int32)).toInt64 * W.toInt64)) := (own_grow hW hk).1
        refine own_st (G := T132.setTop (mkF m 158 #[.val (.ref a), .val (.ref b), .val (.int iv116), .val (.long ((k + (1 : Int32)).toInt64 * W.toInt64)), .second, .unset] [])) (fun _ kk => XS.ifYes X133.here hx rfl (pc0 := 86) (pc' := 158) rfl (hb hby down_add_86) rfl (XT.ll_le_t hk136) (by decide) (by decide) kk) ?_
        refine own_st (G := T132.setTop (mkF m 159 #[.val (.ref a), .val (.ref b), .val (.int iv116), .val (.long ((k + (1 : Int32)).toInt64 * W.toInt64)), .second, .unset] [(.ref b)])) (fun _ kk => XS.aloadN X133.here hx rfl (hb hby down_add_158) rfl rfl kk) ?_
        refine own_st (G := T132.setTop (mkF m 160 #[.val (.ref a), .val (.ref b), .val (.int iv116), .val (.long ((k + (1 : Int32)).toInt64 * W.toInt64)), .second, .unset] [(.int (0 : Int32)), (.ref b)])) (fun _ kk => XT.iconstV X133.here hx rfl (0 : Int32) (hb hby down_add_159) (by decide) kk) ?_
        refine own_st (G := T132.setTop (mkF m 161 #[.val (.ref a), .val (.ref b), .val (.int iv116), .val (.long ((k + (1 : Int32)).toInt64 * W.toInt64)), .second, .unset] [(.ref a), (.int (0 : Int32)), (.ref b)])) (fun _ kk => XS.aloadN X133.here hx rfl (hb hby down_add_160) rfl rfl kk) ?_
        obtain ⟨T137, X138, e139, st140⟩ := getF X133 hx hZ hown (host := "") (Or.inl (own_w hw 12 rfl)) Via.refl e134 (O).2.2.1 (g := (mkF m 161 #[.val (.ref a), .val (.ref b), .val (.int iv116), .val (.long ((k + (1 : Int32)).toInt64 * W.toInt64)), .second, .unset] [(.ref a), (.int (0 : Int32)), (.ref b)])) rfl rfl (hb hby down_add_161)
        refine own_st st140 ?_
        show own_Out _ _ _ _ (T137.setTop (mkF m 164 #[.val (.ref a), .val (.ref b), .val (.int iv116), .val (.long ((k + (1 : Int32)).toInt64 * W.toInt64)), .second, .unset] [(.ref wa), (.int (0 : Int32)), (.ref b)]))
        refine own_st (G := T137.setTop (mkF m 165 #[.val (.ref a), .val (.ref b), .val (.int iv116), .val (.long ((k + (1 : Int32)).toInt64 * W.toInt64)), .second, .unset] [(.ref a), (.ref wa), (.int (0 : Int32)), (.ref b)])) (fun _ kk => XS.aloadN X138.here hx rfl (hb hby down_add_164) rfl rfl kk) ?_
        obtain ⟨T141, X142, e143, st144⟩ := getF X138 hx hZ hown (host := "") (Or.inl (own_w hw 27 rfl)) Via.refl e139 (O).2.2.2.2 (g := (mkF m 165 #[.val (.ref a), .val (.ref b), .val (.int iv116), .val (.long ((k + (1 : Int32)).toInt64 * W.toInt64)), .second, .unset] [(.ref a), (.ref wa), (.int (0 : Int32)), (.ref b)])) rfl rfl (hb hby down_add_165)
        refine own_st st144 ?_
        show own_Out _ _ _ _ (T141.setTop (mkF m 168 #[.val (.ref a), .val (.ref b), .val (.int iv116), .val (.long ((k + (1 : Int32)).toInt64 * W.toInt64)), .second, .unset] [(.int k), (.ref wa), (.int (0 : Int32)), (.ref b)]))
        refine own_st (G := T141.setTop (mkF m 169 #[.val (.ref a), .val (.ref b), .val (.int iv116), .val (.long ((k + (1 : Int32)).toInt64 * W.toInt64)), .second, .unset] [(.ref a), (.int k), (.ref wa), (.int (0 : Int32)), (.ref b)])) (fun _ kk => XS.aloadN X142.here hx rfl (hb hby down_add_168) rfl rfl kk) ?_
        obtain ⟨T145, X146, e147, st148⟩ := getF X142 hx hZ hown (host := "") (Or.inl (own_w hw 10 rfl)) Via.refl e143 (O).2.1 (g := (mkF m 169 #[.val (.ref a), .val (.ref b), .val (.int iv116), .val (.long ((k + (1 : Int32)).toInt64 * W.toInt64)), .second, .unset] [(.ref a), (.int k), (.ref wa), (.int (0 : Int32)), (.ref b)])) rfl rfl (hb hby down_add_169)
        refine own_st st148 ?_
        show own_Out _ _ _ _ (T145.setTop (mkF m 172 #[.val (.ref a), .val (.ref b), .val (.int iv116), .val (.long ((k + (1 : Int32)).toInt64 * W.toInt64)), .second, .unset] [(.int W), (.int k), (.ref wa), (.int (0 : Int32)), (.ref b)]))
        refine own_st (G := T145.setTop (mkF m 173 #[.val (.ref a), .val (.ref b), .val (.int iv116), .val (.long ((k + (1 : Int32)).toInt64 * W.toInt64)), .second, .unset] [(.int (k * W)), (.ref wa), (.int (0 : Int32)), (.ref b)])) (fun _ kk => XS.imul X146.here hx rfl (hb hby down_add_172) rfl kk) ?_
        refine own_st (G := T145.setTop (mkF m 174 #[.val (.ref a), .val (.ref b), .val (.int iv116), .val (.long ((k + (1 : Int32)).toInt64 * W.toInt64)), .second, .unset] [(.ref a), (.int (k * W)), (.ref wa), (.int (0 : Int32)), (.ref b)])) (fun _ kk => XS.aloadN X146.here hx rfl (hb hby down_add_173) rfl rfl kk) ?_
        obtain ⟨T149, X150, e151, st152⟩ := getF X146 hx hZ hown (host := "") (Or.inl (own_w hw 10 rfl)) Via.refl e147 (O).2.1 (g := (mkF m 174 #[.val (.ref a), .val (.ref b), .val (.int iv116), .val (.long ((k + (1 : Int32)).toInt64 * W.toInt64)), .second, .unset] [(.ref a), (.int (k * W)), (.ref wa), (.int (0 : Int32)), (.ref b)])) rfl rfl (hb hby down_add_174)
        refine own_st st152 ?_
        show own_Out _ _ _ _ (T149.setTop (mkF m 177 #[.val (.ref a), .val (.ref b), .val (.int iv116), .val (.long ((k + (1 : Int32)).toInt64 * W.toInt64)), .second, .unset] [(.int W), (.int (k * W)), (.ref wa), (.int (0 : Int32)), (.ref b)]))
        have hat := own_at_of hW (own_K012 hk)
        refine own_arraycopy X150 hx hZ hown (own_w hw 29 rfl) (own_w hw 32 rfl) (own_w hw 30 rfl) (own_w hw 31 rfl) e151 Fb Fw (sp := (0 : Int32)) (dp := (k * W)) (nn := W) (i1 := 0) (i2 := (k.toNatClampNeg * W.toNatClampNeg)) (i3 := W.toNatClampNeg) (by decide) hat.2.2.1 (own_hWn hW).1 rfl hat.2.2.2.2.1 rfl (by have := (own_hWn hW).2.1; omega) hat.2.2.2.2.2.1 N103 gw (rest := []) (by rw [hml]; rfl) (hb hby down_add_177) (by decide) 0 (Nat.le_of_eq rfl) (by decide) ?_
        intro T153 h154 L160 X155 e156 N157 K158 F159
        show own_Out _ _ _ _ (T153.setTop (mkF m 180 #[.val (.ref a), .val (.ref b), .val (.int iv116), .val (.long ((k + (1 : Int32)).toInt64 * W.toInt64)), .second, .unset] []))
        have K1 := (Keep.refl h0 [a, wa, sa]).trans K158 (allS (Or.inl (by simp)) all0)
        have O1 := own_P_keep K158 (ninS naw nin0) O
        have Fs1 := own_AI_keep Fs K158 (ninS (Ne.symm nws) nin0)
        refine own_st (G := T153.setTop (mkF m 181 #[.val (.ref a), .val (.ref b), .val (.int iv116), .val (.long ((k + (1 : Int32)).toInt64 * W.toInt64)), .second, .unset] [(.ref a)])) (fun _ kk => XS.aloadN X155.here hx rfl (hb hby down_add_180) rfl rfl kk) ?_
        obtain ⟨T161, X162, e163, st164⟩ := getF X155 hx hZ hown (host := "") (Or.inl (own_w hw 15 rfl)) Via.refl e156 (O1).2.2.2.1 (g := (mkF m 181 #[.val (.ref a), .val (.ref b), .val (.int iv116), .val (.long ((k + (1 : Int32)).toInt64 * W.toInt64)), .second, .unset] [(.ref a)])) rfl rfl (hb hby down_add_181)
        refine own_st st164 ?_
        show own_Out _ _ _ _ (T161.setTop (mkF m 184 #[.val (.ref a), .val (.ref b), .val (.int iv116), .val (.long ((k + (1 : Int32)).toInt64 * W.toInt64)), .second, .unset] [(.ref sa)]))
        refine own_st (G := T161.setTop (mkF m 185 #[.val (.ref a), .val (.ref b), .val (.int iv116), .val (.long ((k + (1 : Int32)).toInt64 * W.toInt64)), .second, .unset] [(.int iv116), (.ref sa)])) (fun _ kk => XS.iloadN X162.here hx rfl (hb hby down_add_184) rfl kk) ?_
        refine own_st (G := T161.setTop (mkF m 186 #[.val (.ref a), .val (.ref b), .val (.int iv116), .val (.long ((k + (1 : Int32)).toInt64 * W.toInt64)), .second, .unset] [(.ref a), (.int iv116), (.ref sa)])) (fun _ kk => XS.aloadN X162.here hx rfl (hb hby down_add_185) rfl rfl kk) ?_
        obtain ⟨T165, X166, e167, st168⟩ := getF X162 hx hZ hown (host := "") (Or.inl (own_w hw 27 rfl)) Via.refl e163 (O1).2.2.2.2 (g := (mkF m 186 #[.val (.ref a), .val (.ref b), .val (.int iv116), .val (.long ((k + (1 : Int32)).toInt64 * W.toInt64)), .second, .unset] [(.ref a), (.int iv116), (.ref sa)])) rfl rfl (hb hby down_add_186)
        refine own_st st168 ?_
        show own_Out _ _ _ _ (T165.setTop (mkF m 189 #[.val (.ref a), .val (.ref b), .val (.int iv116), .val (.long ((k + (1 : Int32)).toInt64 * W.toInt64)), .second, .unset] [(.int k), (.int iv116), (.ref sa)]))
        refine own_st (G := T165.setTop (mkF m 190 #[.val (.ref a), .val (.ref b), .val (.int iv116), .val (.long ((k + (1 : Int32)).toInt64 * W.toInt64)), .second, .unset] [(.int (1 : Int32)), (.int k), (.int iv116), (.ref sa)])) (fun _ kk => XT.iconstV X166.here hx rfl (1 : Int32) (hb hby down_add_189) (by decide) kk) ?_
        refine own_st (G := T165.setTop (mkF m 191 #[.val (.ref a), .val (.ref b), .val (.int iv116), .val (.long ((k + (1 : Int32)).toInt64 * W.toInt64)), .second, .unset] [(.int (k + (1 : Int32))), (.int iv116), (.ref sa)])) (fun _ kk => XS.iadd X166.here hx rfl (hb hby down_add_190) rfl kk) ?_
        refine own_iastore X166 hx hZ e167 Fs1 (j := iv116) (i := iv116.toNatClampNeg) b117.1 rfl b117.2.1 (hb hby down_add_191) ?_
        intro T169 h170 X171 e172 W173 F174
        show own_Out _ _ _ _ (T169.setTop (mkF m 192 #[.val (.ref a), .val (.ref b), .val (.int iv116), .val (.long ((k + (1 : Int32)).toInt64 * W.toInt64)), .second, .unset] []))
        have N2 := Fr.snoc X171 N157 gs
        have K2 := K1.wr W173 (Or.inl (by simp))
        have O2 := own_P_keep (Keep.of_wr W173) (ninS nas nin0) O1
        have Fw2 := own_AJ_other F159 W173 nws
        refine own_st (G := T169.setTop (mkF m 193 #[.val (.ref a), .val (.ref b), .val (.int iv116), .val (.long ((k + (1 : Int32)).toInt64 * W.toInt64)), .second, .unset] [(.ref a)])) (fun _ kk => XS.aloadN X171.here hx rfl (hb hby down_add_192) rfl rfl kk) ?_
        refine own_st (G := T169.setTop (mkF m 194 #[.val (.ref a), .val (.ref b), .val (.int iv116), .val (.long ((k + (1 : Int32)).toInt64 * W.toInt64)), .second, .unset] [(.ref a), (.ref a)])) (fun _ kk => XS.dup X171.here hx rfl (hb hby down_add_193) rfl rfl kk) ?_
        obtain ⟨T175, X176, e177, st178⟩ := getF X171 hx hZ hown (host := "") (Or.inl (own_w hw 27 rfl)) Via.refl e172 (O2).2.2.2.2 (g := (mkF m 194 #[.val (.ref a), .val (.ref b), .val (.int iv116), .val (.long ((k + (1 : Int32)).toInt64 * W.toInt64)), .second, .unset] [(.ref a), (.ref a)])) rfl rfl (hb hby down_add_194)
        refine own_st st178 ?_
        show own_Out _ _ _ _ (T175.setTop (mkF m 197 #[.val (.ref a), .val (.ref b), .val (.int iv116), .val (.long ((k + (1 : Int32)).toInt64 * W.toInt64)), .second, .unset] [(.int k), (.ref a)]))
        refine own_st (G := T175.setTop (mkF m 198 #[.val (.ref a), .val (.ref b), .val (.int iv116), .val (.long ((k + (1 : Int32)).toInt64 * W.toInt64)), .second, .unset] [(.int (1 : Int32)), (.int k), (.ref a)])) (fun _ kk => XT.iconstV X176.here hx rfl (1 : Int32) (hb hby down_add_197) (by decide) kk) ?_
        refine own_st (G := T175.setTop (mkF m 199 #[.val (.ref a), .val (.ref b), .val (.int iv116), .val (.long ((k + (1 : Int32)).toInt64 * W.toInt64)), .second, .unset] [(.int (k + (1 : Int32))), (.ref a)])) (fun _ kk => XS.iadd X176.here hx rfl (hb hby down_add_198) rfl kk) ?_
        obtain ⟨T179, h180, X181, e182, W183, st184⟩ := putF X176 hx hZ hown (host := "") (Or.inl (own_w hw 27 rfl)) Via.refl e177 (O2).2.2.2.2 (O2).1 (Or.inl (own_w hw 28 rfl)) (own_w hw 2 rfl) (ty := .int) (by decide) rfl rfl (g := (mkF m 199 #[.val (.ref a), .val (.ref b), .val (.int iv116), .val (.long ((k + (1 : Int32)).toInt64 * W.toInt64)), .second, .unset] [(.int (k + (1 : Int32))), (.ref a)])) rfl rfl (hb hby down_add_199)
        refine own_st st184 ?_
        show own_Out _ _ _ _ (T179.setTop (mkF m 202 #[.val (.ref a), .val (.ref b), .val (.int iv116), .val (.long ((k + (1 : Int32)).toInt64 * W.toInt64)), .second, .unset] []))
        have O185 : own_P Z h180 a W (.ref wa) (.ref sa) (k + (1 : Int32)) := own_P_size hw W183 O2
        have N186 := Fr.snoc X181 N2 ga
        have K3 := K2.wr W183 (Or.inl (by simp))
        have F187 := own_AJ_other Fw2 W183 (Ne.symm naw)
        have F188 := own_AI_other F174 W183 (Ne.symm nas)
        refine own_st (G := T179.setTop (mkF m 205 #[.val (.ref a), .val (.ref b), .val (.int iv116), .val (.long ((k + (1 : Int32)).toInt64 * W.toInt64)), .second, .unset] [(.long (2 : Int64))])) (fun _ kk => X181.ldc2Long hx hown (mvT hZ (own_w hw 33 rfl)) (g := (mkF m 202 #[.val (.ref a), .val (.ref b), .val (.int iv116), .val (.long ((k + (1 : Int32)).toInt64 * W.toInt64)), .second, .unset] [])) rfl (hb hby down_add_202) _ kk) ?_
        refine own_st (G := T179.setTop (mkF m 206 #[.val (.ref a), .val (.ref b), .val (.int iv116), .val (.long ((k + (1 : Int32)).toInt64 * W.toInt64)), .second, .unset] [(.ref a), (.long (2 : Int64))])) (fun _ kk => XS.aloadN X181.here hx rfl (hb hby down_add_205) rfl rfl kk) ?_
        obtain ⟨T189, X190, e191, st192⟩ := getF X181 hx hZ hown (host := "") (Or.inl (own_w hw 27 rfl)) Via.refl e182 (O185).2.2.2.2 (g := (mkF m 206 #[.val (.ref a), .val (.ref b), .val (.int iv116), .val (.long ((k + (1 : Int32)).toInt64 * W.toInt64)), .second, .unset] [(.ref a), (.long (2 : Int64))])) rfl rfl (hb hby down_add_206)
        refine own_st st192 ?_
        show own_Out _ _ _ _ (T189.setTop (mkF m 209 #[.val (.ref a), .val (.ref b), .val (.int iv116), .val (.long ((k + (1 : Int32)).toInt64 * W.toInt64)), .second, .unset] [(.int (k + (1 : Int32))), (.long (2 : Int64))]))
        refine own_st (G := T189.setTop (mkF m 210 #[.val (.ref a), .val (.ref b), .val (.int iv116), .val (.long ((k + (1 : Int32)).toInt64 * W.toInt64)), .second, .unset] [(.long (k + (1 : Int32)).toInt64), (.long (2 : Int64))])) (fun _ kk => XS.i2l X190.here hx rfl (hb hby down_add_209) rfl kk) ?_
        refine own_st (G := T189.setTop (mkF m 211 #[.val (.ref a), .val (.ref b), .val (.int iv116), .val (.long ((k + (1 : Int32)).toInt64 * W.toInt64)), .second, .unset] [(.long ((2 : Int64) * (k + (1 : Int32)).toInt64))])) (fun _ kk => XS.lmul X190.here hx rfl (hb hby down_add_210) rfl kk) ?_
        refine own_st (G := T189.setTop (mkF m 212 #[.val (.ref a), .val (.ref b), .val (.int iv116), .val (.long ((k + (1 : Int32)).toInt64 * W.toInt64)), .second, .unset] [(.ref a), (.long ((2 : Int64) * (k + (1 : Int32)).toInt64))])) (fun _ kk => XS.aloadN X190.here hx rfl (hb hby down_add_211) rfl rfl kk) ?_
        obtain ⟨T193, X194, e195, st196⟩ := getF X190 hx hZ hown (host := "") (Or.inl (own_w hw 15 rfl)) Via.refl e191 (O185).2.2.2.1 (g := (mkF m 212 #[.val (.ref a), .val (.ref b), .val (.int iv116), .val (.long ((k + (1 : Int32)).toInt64 * W.toInt64)), .second, .unset] [(.ref a), (.long ((2 : Int64) * (k + (1 : Int32)).toInt64))])) rfl rfl (hb hby down_add_212)
        refine own_st st196 ?_
        show own_Out _ _ _ _ (T193.setTop (mkF m 215 #[.val (.ref a), .val (.ref b), .val (.int iv116), .val (.long ((k + (1 : Int32)).toInt64 * W.toInt64)), .second, .unset] [(.ref sa), (.long ((2 : Int64) * (k + (1 : Int32)).toInt64))]))
        refine own_lenI X194 hx hZ e195 F188 (z := (32 : Int32)) rfl (hb hby down_add_215) ?_
        show own_Out _ _ _ _ (T193.setTop (mkF m 216 #[.val (.ref a), .val (.ref b), .val (.int iv116), .val (.long ((k + (1 : Int32)).toInt64 * W.toInt64)), .second, .unset] [(.int (32 : Int32)), (.long ((2 : Int64) * (k + (1 : Int32)).toInt64))]))
        refine own_st (G := T193.setTop (mkF m 217 #[.val (.ref a), .val (.ref b), .val (.int iv116), .val (.long ((k + (1 : Int32)).toInt64 * W.toInt64)), .second, .unset] [(.long (32 : Int32).toInt64), (.long ((2 : Int64) * (k + (1 : Int32)).toInt64))])) (fun _ kk => XS.i2l X194.here hx rfl (hb hby down_add_216) rfl kk) ?_
        refine own_st (G := T193.setTop (mkF m 218 #[.val (.ref a), .val (.ref b), .val (.int iv116), .val (.long ((k + (1 : Int32)).toInt64 * W.toInt64)), .second, .unset] [(.int (BdW.cmpL ((2 : Int64) * (k + (1 : Int32)).toInt64) (32 : Int32).toInt64))])) (fun _ kk => XT.lcmp X194.here hx rfl (hb hby down_add_217) rfl kk) ?_
        have hk197 : ¬ ((32 : Int32).toInt64 < ((2 : Int64) * (k + (1 : Int32)).toInt64)) := (own_grow hW hk).2
        refine own_st (G := T193.setTop (mkF m 225 #[.val (.ref a), .val (.ref b), .val (.int iv116), .val (.long ((k + (1 : Int32)).toInt64 * W.toInt64)), .second, .unset] [])) (fun _ kk => XS.ifYes X194.here hx rfl (pc0 := 218) (pc' := 225) rfl (hb hby down_add_218) rfl (XT.ll_le_t hk197) (by decide) (by decide) kk) ?_
        refine own_st (G := T193.setTop (mkF m 226 #[.val (.ref a), .val (.ref b), .val (.int iv116), .val (.long ((k + (1 : Int32)).toInt64 * W.toInt64)), .second, .unset] [(.ref a)])) (fun _ kk => XS.aloadN X194.here hx rfl (hb hby down_add_225) rfl rfl kk) ?_
        obtain ⟨T198, X199, e200, st201⟩ := getF X194 hx hZ hown (host := "") (Or.inl (own_w hw 27 rfl)) Via.refl e195 (O185).2.2.2.2 (g := (mkF m 226 #[.val (.ref a), .val (.ref b), .val (.int iv116), .val (.long ((k + (1 : Int32)).toInt64 * W.toInt64)), .second, .unset] [(.ref a)])) rfl rfl (hb hby down_add_226)
        refine own_st st201 ?_
        show own_Out _ _ _ _ (T198.setTop (mkF m 229 #[.val (.ref a), .val (.ref b), .val (.int iv116), .val (.long ((k + (1 : Int32)).toInt64 * W.toInt64)), .second, .unset] [(.int (k + (1 : Int32)))]))
        refine own_st (G := T198.setTop (mkF m 230 #[.val (.ref a), .val (.ref b), .val (.int iv116), .val (.long ((k + (1 : Int32)).toInt64 * W.toInt64)), .second, .unset] [(.int (1 : Int32)), (.int (k + (1 : Int32)))])) (fun _ kk => XT.iconstV X199.here hx rfl (1 : Int32) (hb hby down_add_229) (by decide) kk) ?_
        refine own_st (G := T198.setTop (mkF m 231 #[.val (.ref a), .val (.ref b), .val (.int iv116), .val (.long ((k + (1 : Int32)).toInt64 * W.toInt64)), .second, .unset] [(.int ((k + (1 : Int32)) - (1 : Int32)))])) (fun _ kk => XS.isub X199.here hx rfl (hb hby down_add_230) rfl kk) ?_
        refine own_retI X199 hx hret hlk (hb hby down_add_231) (by decide) (by decide) ?_
        rw [e200]
        exact ⟨_, _, _, _, rfl, N186, K3, O185, F187, F188, own_put hk S b117.2.1 hc123⟩
      · skip
        refine own_st (G := T119.setTop (mkF m 24 #[.val (.ref a), .val (.ref b), .val (.int iv116), .unset, .unset, .unset] [])) (fun _ kk => XS.ifNo X120.here hx rfl (hb hby down_add_21) rfl (XT.i0_eq_f hc123) kk) ?_
        refine own_st (G := T119.setTop (mkF m 25 #[.val (.ref a), .val (.ref b), .val (.int iv116), .unset, .unset, .unset] [(.ref a)])) (fun _ kk => XS.aloadN X120.here hx rfl (hb hby down_add_24) rfl rfl kk) ?_
        refine own_st (G := T119.setTop (mkF m 26 #[.val (.ref a), .val (.ref b), .val (.int iv116), .unset, .unset, .unset] [(.ref a), (.ref a)])) (fun _ kk => XS.aloadN X120.here hx rfl (hb hby down_add_25) rfl rfl kk) ?_
        obtain ⟨T202, X203, e204, st205⟩ := getF X120 hx hZ hown (host := "") (Or.inl (own_w hw 15 rfl)) Via.refl e121 (O).2.2.2.1 (g := (mkF m 26 #[.val (.ref a), .val (.ref b), .val (.int iv116), .unset, .unset, .unset] [(.ref a), (.ref a)])) rfl rfl (hb hby down_add_26)
        refine own_st st205 ?_
        show own_Out _ _ _ _ (T202.setTop (mkF m 29 #[.val (.ref a), .val (.ref b), .val (.int iv116), .unset, .unset, .unset] [(.ref sa), (.ref a)]))
        refine own_st (G := T202.setTop (mkF m 30 #[.val (.ref a), .val (.ref b), .val (.int iv116), .unset, .unset, .unset] [(.int iv116), (.ref sa), (.ref a)])) (fun _ kk => XS.iloadN X203.here hx rfl (hb hby down_add_29) rfl kk) ?_
        refine own_iaload X203 hx hZ e204 Fs (j := iv116) (i := iv116.toNatClampNeg) b117.1 rfl b117.2.1 (hb hby down_add_30) ?_
        show own_Out _ _ _ _ (T202.setTop (mkF m 31 #[.val (.ref a), .val (.ref b), .val (.int iv116), .unset, .unset, .unset] [(.int (fsl iv116.toNatClampNeg)), (.ref a)]))
        refine own_st (G := T202.setTop (mkF m 32 #[.val (.ref a), .val (.ref b), .val (.int iv116), .unset, .unset, .unset] [(.int (1 : Int32)), (.int (fsl iv116.toNatClampNeg)), (.ref a)])) (fun _ kk => XT.iconstV X203.here hx rfl (1 : Int32) (hb hby down_add_31) (by decide) kk) ?_
        refine own_st (G := T202.setTop (mkF m 33 #[.val (.ref a), .val (.ref b), .val (.int iv116), .unset, .unset, .unset] [(.int ((fsl iv116.toNatClampNeg) - (1 : Int32))), (.ref a)])) (fun _ kk => XS.isub X203.here hx rfl (hb hby down_add_32) rfl kk) ?_
        refine own_st (G := T202.setTop (mkF m 34 #[.val (.ref a), .val (.ref b), .val (.int iv116), .unset, .unset, .unset] [(.ref b), (.int ((fsl iv116.toNatClampNeg) - (1 : Int32))), (.ref a)])) (fun _ kk => XS.aloadN X203.here hx rfl (hb hby down_add_33) rfl rfl kk) ?_
        have at209 := own_at_val hW S hk b117.2.1 hc123
        refine own_callP X203 hx hZ (y := (⟨"com/example/libbuchi/libbuchi/automata/PackedStates", "holds", "(I[J)Z"⟩ : MethodName)) (b := a) (as' := [(.int ((fsl iv116.toNatClampNeg) - (1 : Int32))), (.ref b)]) hown (own_w hw 43 rfl) (own_w hw 44 rfl) (own_w hw 45 rfl) (own_w hw 46 rfl) (own_w hw 3 rfl) (own_nf (y := ⟨"com/example/libbuchi/libbuchi/automata/PackedStates", "add", "([J)I"⟩) (a0 := #[]) rfl (notFace_of_selects (args := #[]) (mvT hZ (own_w hw 20 rfl))) (mvT hZ (own_w hw 19 rfl))) (by decide) (own_holds l Z a0 hw [] ((fsl iv116.toNatClampNeg) - (1 : Int32)) a b wa sa W k fw fb _ h0 n0 O Fw Fb hW at209.2.2.2.1 at209.2.2.2.2.2.1 at209.2.2.2.2.2.2) O.1 0 (by decide) (by decide) (by decide) (by decide) (rest := []) (by rw [hml]; rfl) (lenOf (by decide : parseMethodDescriptor "(I[J)Z" = some ⟨[.int, .array (.long)], some (.boolean)⟩) rfl) rfl (Nat.le_of_eq rfl) (hb hby down_add_34) e204 ?_
        intro T211 L212 v214 X213 hQ
        obtain ⟨r208, rfl, rfl, eq206, hh210⟩ := hQ
        show own_Out _ _ _ _ (T211.setTop (mkF m 37 #[.val (.ref a), .val (.ref b), .val (.int iv116), .unset, .unset, .unset] [(.int r208)]))
        have N207 := Fr.app N103 (Fr.nil n0)
        by_cases hc215 : r208 = (0 : Int32)
        · skip
          refine own_st (G := T211.setTop (mkF m 49 #[.val (.ref a), .val (.ref b), .val (.int iv116), .unset, .unset, .unset] [])) (fun _ kk => XS.ifYes X213.here hx rfl (pc0 := 37) (pc' := 49) rfl (hb hby down_add_37) rfl (XT.i0_eq_t hc215) (by decide) (by decide) kk) ?_
          refine own_st (G := T211.setTop (mkF m 50 #[.val (.ref a), .val (.ref b), .val (.int iv116), .unset, .unset, .unset] [(.int iv116)])) (fun _ kk => XS.iloadN X213.here hx rfl (hb hby down_add_49) rfl kk) ?_
          refine own_st (G := T211.setTop (mkF m 51 #[.val (.ref a), .val (.ref b), .val (.int iv116), .unset, .unset, .unset] [(.int (1 : Int32)), (.int iv116)])) (fun _ kk => XT.iconstV X213.here hx rfl (1 : Int32) (hb hby down_add_50) (by decide) kk) ?_
          refine own_st (G := T211.setTop (mkF m 52 #[.val (.ref a), .val (.ref b), .val (.int iv116), .unset, .unset, .unset] [(.int (iv116 + (1 : Int32)))])) (fun _ kk => XS.iadd X213.here hx rfl (hb hby down_add_51) rfl kk) ?_
          refine own_st (G := T211.setTop (mkF m 53 #[.val (.ref a), .val (.ref b), .val (.int iv116), .unset, .unset, .unset] [(.ref a), (.int (iv116 + (1 : Int32)))])) (fun _ kk => XS.aloadN X213.here hx rfl (hb hby down_add_52) rfl rfl kk) ?_
          obtain ⟨T216, X217, e218, st219⟩ := getF X213 hx hZ hown (host := "") (Or.inl (own_w hw 15 rfl)) Via.refl eq206 (O).2.2.2.1 (g := (mkF m 53 #[.val (.ref a), .val (.ref b), .val (.int iv116), .unset, .unset, .unset] [(.ref a), (.int (iv116 + (1 : Int32)))])) rfl rfl (hb hby down_add_53)
          refine own_st st219 ?_
          show own_Out _ _ _ _ (T216.setTop (mkF m 56 #[.val (.ref a), .val (.ref b), .val (.int iv116), .unset, .unset, .unset] [(.ref sa), (.int (iv116 + (1 : Int32)))]))
          refine own_lenI X217 hx hZ e218 Fs (z := (32 : Int32)) rfl (hb hby down_add_56) ?_
          show own_Out _ _ _ _ (T216.setTop (mkF m 57 #[.val (.ref a), .val (.ref b), .val (.int iv116), .unset, .unset, .unset] [(.int (32 : Int32)), (.int (iv116 + (1 : Int32)))]))
          refine own_st (G := T216.setTop (mkF m 58 #[.val (.ref a), .val (.ref b), .val (.int iv116), .unset, .unset, .unset] [(.int (1 : Int32)), (.int (32 : Int32)), (.int (iv116 + (1 : Int32)))])) (fun _ kk => XT.iconstV X217.here hx rfl (1 : Int32) (hb hby down_add_57) (by decide) kk) ?_
          refine own_st (G := T216.setTop (mkF m 59 #[.val (.ref a), .val (.ref b), .val (.int iv116), .unset, .unset, .unset] [(.int ((32 : Int32) - (1 : Int32))), (.int (iv116 + (1 : Int32)))])) (fun _ kk => XS.isub X217.here hx rfl (hb hby down_add_58) rfl kk) ?_
          rw [show ((32 : Int32) - (1 : Int32)) = (31 : Int32) from by decide +kernel]
          refine own_st (G := T216.setTop (mkF m 60 #[.val (.ref a), .val (.ref b), .val (.int iv116), .unset, .unset, .unset] [(.int ((iv116 + (1 : Int32)) &&& (31 : Int32)))])) (fun _ kk => XS.iand X217.here hx rfl (hb hby down_add_59) rfl kk) ?_
          generalize hv60 : ((iv116 + (1 : Int32)) &&& (31 : Int32)) = iv220
          refine own_st (G := T216.setTop (mkF m 61 #[.val (.ref a), .val (.ref b), .val (.int iv220), .unset, .unset, .unset] [])) (fun _ kk => XS.istoreN X217.here hx rfl (hb hby down_add_60) rfl (l' := #[.val (.ref a), .val (.ref b), .val (.int iv220), .unset, .unset, .unset]) rfl kk) ?_
          refine own_st (G := T216.setTop (mkF m 15 #[.val (.ref a), .val (.ref b), .val (.int iv220), .unset, .unset, .unset] [])) (fun _ kk => XS.goto X217.here hx rfl (pc0 := 61) (pc' := 15) rfl (hb hby down_add_61) (by decide) (by decide) kk) ?_
          have hi222 := hv60
          have b221 := own_and31 hi222
          refine own_st (G := T216.setTop (mkF m 16 #[.val (.ref a), .val (.ref b), .val (.int iv220), .unset, .unset, .unset] [(.ref a)])) (fun _ kk => XS.aloadN X217.here hx rfl (hb hby down_add_15) rfl rfl kk) ?_
          obtain ⟨T223, X224, e225, st226⟩ := getF X217 hx hZ hown (host := "") (Or.inl (own_w hw 15 rfl)) Via.refl e218 (O).2.2.2.1 (g := (mkF m 16 #[.val (.ref a), .val (.ref b), .val (.int iv220), .unset, .unset, .unset] [(.ref a)])) rfl rfl (hb hby down_add_16)
          refine own_st st226 ?_
          show own_Out _ _ _ _ (T223.setTop (mkF m 19 #[.val (.ref a), .val (.ref b), .val (.int iv220), .unset, .unset, .unset] [(.ref sa)]))
          refine own_st (G := T223.setTop (mkF m 20 #[.val (.ref a), .val (.ref b), .val (.int iv220), .unset, .unset, .unset] [(.int iv220), (.ref sa)])) (fun _ kk => XS.iloadN X224.here hx rfl (hb hby down_add_19) rfl kk) ?_
          refine own_iaload X224 hx hZ e225 Fs (j := iv220) (i := iv220.toNatClampNeg) b221.1 rfl b221.2.1 (hb hby down_add_20) ?_
          show own_Out _ _ _ _ (T223.setTop (mkF m 21 #[.val (.ref a), .val (.ref b), .val (.int iv220), .unset, .unset, .unset] [(.int (fsl iv220.toNatClampNeg))]))
          have hk227 : ((fsl iv220.toNatClampNeg) = (0 : Int32)) := own_third S hk b13 hi118 hi222 hc19 hc123
          refine own_st (G := T223.setTop (mkF m 64 #[.val (.ref a), .val (.ref b), .val (.int iv220), .unset, .unset, .unset] [])) (fun _ kk => XS.ifYes X224.here hx rfl (pc0 := 21) (pc' := 64) rfl (hb hby down_add_21) rfl (XT.i0_eq_t hk227) (by decide) (by decide) kk) ?_
          refine own_st (G := T223.setTop (mkF m 65 #[.val (.ref a), .val (.ref b), .val (.int iv220), .unset, .unset, .unset] [(.ref a)])) (fun _ kk => XS.aloadN X224.here hx rfl (hb hby down_add_64) rfl rfl kk) ?_
          obtain ⟨T228, X229, e230, st231⟩ := getF X224 hx hZ hown (host := "") (Or.inl (own_w hw 27 rfl)) Via.refl e225 (O).2.2.2.2 (g := (mkF m 65 #[.val (.ref a), .val (.ref b), .val (.int iv220), .unset, .unset, .unset] [(.ref a)])) rfl rfl (hb hby down_add_65)
          refine own_st st231 ?_
          show own_Out _ _ _ _ (T228.setTop (mkF m 68 #[.val (.ref a), .val (.ref b), .val (.int iv220), .unset, .unset, .unset] [(.int k)]))
          refine own_st (G := T228.setTop (mkF m 69 #[.val (.ref a), .val (.ref b), .val (.int iv220), .unset, .unset, .unset] [(.int (1 : Int32)), (.int k)])) (fun _ kk => XT.iconstV X229.here hx rfl (1 : Int32) (hb hby down_add_68) (by decide) kk) ?_
          refine own_st (G := T228.setTop (mkF m 70 #[.val (.ref a), .val (.ref b), .val (.int iv220), .unset, .unset, .unset] [(.int (k + (1 : Int32)))])) (fun _ kk => XS.iadd X229.here hx rfl (hb hby down_add_69) rfl kk) ?_
          refine own_st (G := T228.setTop (mkF m 71 #[.val (.ref a), .val (.ref b), .val (.int iv220), .unset, .unset, .unset] [(.long (k + (1 : Int32)).toInt64)])) (fun _ kk => XS.i2l X229.here hx rfl (hb hby down_add_70) rfl kk) ?_
          refine own_st (G := T228.setTop (mkF m 72 #[.val (.ref a), .val (.ref b), .val (.int iv220), .unset, .unset, .unset] [(.ref a), (.long (k + (1 : Int32)).toInt64)])) (fun _ kk => XS.aloadN X229.here hx rfl (hb hby down_add_71) rfl rfl kk) ?_
          obtain ⟨T232, X233, e234, st235⟩ := getF X229 hx hZ hown (host := "") (Or.inl (own_w hw 10 rfl)) Via.refl e230 (O).2.1 (g := (mkF m 72 #[.val (.ref a), .val (.ref b), .val (.int iv220), .unset, .unset, .unset] [(.ref a), (.long (k + (1 : Int32)).toInt64)])) rfl rfl (hb hby down_add_72)
          refine own_st st235 ?_
          show own_Out _ _ _ _ (T232.setTop (mkF m 75 #[.val (.ref a), .val (.ref b), .val (.int iv220), .unset, .unset, .unset] [(.int W), (.long (k + (1 : Int32)).toInt64)]))
          refine own_st (G := T232.setTop (mkF m 76 #[.val (.ref a), .val (.ref b), .val (.int iv220), .unset, .unset, .unset] [(.long W.toInt64), (.long (k + (1 : Int32)).toInt64)])) (fun _ kk => XS.i2l X233.here hx rfl (hb hby down_add_75) rfl kk) ?_
          refine own_st (G := T232.setTop (mkF m 77 #[.val (.ref a), .val (.ref b), .val (.int iv220), .unset, .unset, .unset] [(.long ((k + (1 : Int32)).toInt64 * W.toInt64))])) (fun _ kk => XS.lmul X233.here hx rfl (hb hby down_add_76) rfl kk) ?_
          refine own_st (G := T232.setTop (mkF m 78 #[.val (.ref a), .val (.ref b), .val (.int iv220), .val (.long ((k + (1 : Int32)).toInt64 * W.toInt64)), .second, .unset] [])) (fun _ kk => XS.lstoreN X233.here hx rfl (hb hby down_add_77) rfl (l' := #[.val (.ref a), .val (.ref b), .val (.int iv220), .val (.long ((k + (1 : Int32)).toInt64 * W.toInt64)), .second, .unset]) rfl kk) ?_
          refine own_st (G := T232.setTop (mkF m 79 #[.val (.ref a), .val (.ref b), .val (.int iv220), .val (.long ((k + (1 : Int32)).toInt64 * W.toInt64)), .second, .unset] [(.long ((k + (1 : Int32)).toInt64 * W.toInt64))])) (fun _ kk => XS.lloadN X233.here hx rfl (hb hby down_add_78) rfl kk) ?_
          refine own_st (G := T232.setTop (mkF m 80 #[.val (.ref a), .val (.ref b), .val (.int iv220), .val (.long ((k + (1 : Int32)).toInt64 * W.toInt64)), .second, .unset] [(.ref a), (.long ((k + (1 : Int32)).toInt64 * W.toInt64))])) (fun _ kk => XS.aloadN X233.here hx rfl (hb hby down_add_79) rfl rfl kk) ?_
          obtain ⟨T236, X237, e238, st239⟩ := getF X233 hx hZ hown (host := "") (Or.inl (own_w hw 12 rfl)) Via.refl e234 (O).2.2.1 (g := (mkF m 80 #[.val (.ref a), .val (.ref b), .val (.int iv220), .val (.long ((k + (1 : Int32)).toInt64 * W.toInt64)), .second, .unset] [(.ref a), (.long ((k + (1 : Int32)).toInt64 * W.toInt64))])) rfl rfl (hb hby down_add_80)
          refine own_st st239 ?_
          show own_Out _ _ _ _ (T236.setTop (mkF m 83 #[.val (.ref a), .val (.ref b), .val (.int iv220), .val (.long ((k + (1 : Int32)).toInt64 * W.toInt64)), .second, .unset] [(.ref wa), (.long ((k + (1 : Int32)).toInt64 * W.toInt64))]))
          refine own_lenJ X237 hx hZ e238 Fw (z := ((16 : Int32) * W)) (own_hWn hW).2.2.2.2.2.2 (hb hby down_add_83) ?_
          show own_Out _ _ _ _ (T236.setTop (mkF m 84 #[.val (.ref a), .val (.ref b), .val (.int iv220), .val (.long ((k + (1 : Int32)).toInt64 * W.toInt64)), .second, .unset] [(.int ((16 : Int32) * W)), (.long ((k + (1 : Int32)).toInt64 * W.toInt64))]))
          refine own_st (G := T236.setTop (mkF m 85 #[.val (.ref a), .val (.ref b), .val (.int iv220), .val (.long ((k + (1 : Int32)).toInt64 * W.toInt64)), .second, .unset] [(.long ((16 : Int32) * W).toInt64), (.long ((k + (1 : Int32)).toInt64 * W.toInt64))])) (fun _ kk => XS.i2l X237.here hx rfl (hb hby down_add_84) rfl kk) ?_
          refine own_st (G := T236.setTop (mkF m 86 #[.val (.ref a), .val (.ref b), .val (.int iv220), .val (.long ((k + (1 : Int32)).toInt64 * W.toInt64)), .second, .unset] [(.int (BdW.cmpL ((k + (1 : Int32)).toInt64 * W.toInt64) ((16 : Int32) * W).toInt64))])) (fun _ kk => XT.lcmp X237.here hx rfl (hb hby down_add_85) rfl kk) ?_
          have hk240 : ¬ (((16 : Int32) * W).toInt64 < ((k + (1 : Int32)).toInt64 * W.toInt64)) := (own_grow hW hk).1
          refine own_st (G := T236.setTop (mkF m 158 #[.val (.ref a), .val (.ref b), .val (.int iv220), .val (.long ((k + (1 : Int32)).toInt64 * W.toInt64)), .second, .unset] [])) (fun _ kk => XS.ifYes X237.here hx rfl (pc0 := 86) (pc' := 158) rfl (hb hby down_add_86) rfl (XT.ll_le_t hk240) (by decide) (by decide) kk) ?_
          refine own_st (G := T236.setTop (mkF m 159 #[.val (.ref a), .val (.ref b), .val (.int iv220), .val (.long ((k + (1 : Int32)).toInt64 * W.toInt64)), .second, .unset] [(.ref b)])) (fun _ kk => XS.aloadN X237.here hx rfl (hb hby down_add_158) rfl rfl kk) ?_
          refine own_st (G := T236.setTop (mkF m 160 #[.val (.ref a), .val (.ref b), .val (.int iv220), .val (.long ((k + (1 : Int32)).toInt64 * W.toInt64)), .second, .unset] [(.int (0 : Int32)), (.ref b)])) (fun _ kk => XT.iconstV X237.here hx rfl (0 : Int32) (hb hby down_add_159) (by decide) kk) ?_
          refine own_st (G := T236.setTop (mkF m 161 #[.val (.ref a), .val (.ref b), .val (.int iv220), .val (.long ((k + (1 : Int32)).toInt64 * W.toInt64)), .second, .unset] [(.ref a), (.int (0 : Int32)), (.ref b)])) (fun _ kk => XS.aloadN X237.here hx rfl (hb hby down_add_160) rfl rfl kk) ?_
          obtain ⟨T241, X242, e243, st244⟩ := getF X237 hx hZ hown (host := "") (Or.inl (own_w hw 12 rfl)) Via.refl e238 (O).2.2.1 (g := (mkF m 161 #[.val (.ref a), .val (.ref b), .val (.int iv220), .val (.long ((k + (1 : Int32)).toInt64 * W.toInt64)), .second, .unset] [(.ref a), (.int (0 : Int32)), (.ref b)])) rfl rfl (hb hby down_add_161)
          refine own_st st244 ?_
          show own_Out _ _ _ _ (T241.setTop (mkF m 164 #[.val (.ref a), .val (.ref b), .val (.int iv220), .val (.long ((k + (1 : Int32)).toInt64 * W.toInt64)), .second, .unset] [(.ref wa), (.int (0 : Int32)), (.ref b)]))
          refine own_st (G := T241.setTop (mkF m 165 #[.val (.ref a), .val (.ref b), .val (.int iv220), .val (.long ((k + (1 : Int32)).toInt64 * W.toInt64)), .second, .unset] [(.ref a), (.ref wa), (.int (0 : Int32)), (.ref b)])) (fun _ kk => XS.aloadN X242.here hx rfl (hb hby down_add_164) rfl rfl kk) ?_
          obtain ⟨T245, X246, e247, st248⟩ := getF X242 hx hZ hown (host := "") (Or.inl (own_w hw 27 rfl)) Via.refl e243 (O).2.2.2.2 (g := (mkF m 165 #[.val (.ref a), .val (.ref b), .val (.int iv220), .val (.long ((k + (1 : Int32)).toInt64 * W.toInt64)), .second, .unset] [(.ref a), (.ref wa), (.int (0 : Int32)), (.ref b)])) rfl rfl (hb hby down_add_165)
          refine own_st st248 ?_
          show own_Out _ _ _ _ (T245.setTop (mkF m 168 #[.val (.ref a), .val (.ref b), .val (.int iv220), .val (.long ((k + (1 : Int32)).toInt64 * W.toInt64)), .second, .unset] [(.int k), (.ref wa), (.int (0 : Int32)), (.ref b)]))
          refine own_st (G := T245.setTop (mkF m 169 #[.val (.ref a), .val (.ref b), .val (.int iv220), .val (.long ((k + (1 : Int32)).toInt64 * W.toInt64)), .second, .unset] [(.ref a), (.int k), (.ref wa), (.int (0 : Int32)), (.ref b)])) (fun _ kk => XS.aloadN X246.here hx rfl (hb hby down_add_168) rfl rfl kk) ?_
          obtain ⟨T249, X250, e251, st252⟩ := getF X246 hx hZ hown (host := "") (Or.inl (own_w hw 10 rfl)) Via.refl e247 (O).2.1 (g := (mkF m 169 #[.val (.ref a), .val (.ref b), .val (.int iv220), .val (.long ((k + (1 : Int32)).toInt64 * W.toInt64)), .second, .unset] [(.ref a), (.int k), (.ref wa), (.int (0 : Int32)), (.ref b)])) rfl rfl (hb hby down_add_169)
          refine own_st st252 ?_
          show own_Out _ _ _ _ (T249.setTop (mkF m 172 #[.val (.ref a), .val (.ref b), .val (.int iv220), .val (.long ((k + (1 : Int32)).toInt64 * W.toInt64)), .second, .unset] [(.int W), (.int k), (.ref wa), (.int (0 : Int32)), (.ref b)]))
          refine own_st (G := T249.setTop (mkF m 173 #[.val (.ref a), .val (.ref b), .val (.int iv220), .val (.long ((k + (1 : Int32)).toInt64 * W.toInt64)), .second, .unset] [(.int (k * W)), (.ref wa), (.int (0 : Int32)), (.ref b)])) (fun _ kk => XS.imul X250.here hx rfl (hb hby down_add_172) rfl kk) ?_
          refine own_st (G := T249.setTop (mkF m 174 #[.val (.ref a), .val (.ref b), .val (.int iv220), .val (.long ((k + (1 : Int32)).toInt64 * W.toInt64)), .second, .unset] [(.ref a), (.int (k * W)), (.ref wa), (.int (0 : Int32)), (.ref b)])) (fun _ kk => XS.aloadN X250.here hx rfl (hb hby down_add_173) rfl rfl kk) ?_
          obtain ⟨T253, X254, e255, st256⟩ := getF X250 hx hZ hown (host := "") (Or.inl (own_w hw 10 rfl)) Via.refl e251 (O).2.1 (g := (mkF m 174 #[.val (.ref a), .val (.ref b), .val (.int iv220), .val (.long ((k + (1 : Int32)).toInt64 * W.toInt64)), .second, .unset] [(.ref a), (.int (k * W)), (.ref wa), (.int (0 : Int32)), (.ref b)])) rfl rfl (hb hby down_add_174)
          refine own_st st256 ?_
          show own_Out _ _ _ _ (T253.setTop (mkF m 177 #[.val (.ref a), .val (.ref b), .val (.int iv220), .val (.long ((k + (1 : Int32)).toInt64 * W.toInt64)), .second, .unset] [(.int W), (.int (k * W)), (.ref wa), (.int (0 : Int32)), (.ref b)]))
          have hat := own_at_of hW (own_K012 hk)
          refine own_arraycopy X254 hx hZ hown (own_w hw 29 rfl) (own_w hw 32 rfl) (own_w hw 30 rfl) (own_w hw 31 rfl) e255 Fb Fw (sp := (0 : Int32)) (dp := (k * W)) (nn := W) (i1 := 0) (i2 := (k.toNatClampNeg * W.toNatClampNeg)) (i3 := W.toNatClampNeg) (by decide) hat.2.2.1 (own_hWn hW).1 rfl hat.2.2.2.2.1 rfl (by have := (own_hWn hW).2.1; omega) hat.2.2.2.2.2.1 N207 gw (rest := []) (by rw [hml]; rfl) (hb hby down_add_177) (by decide) 0 (Nat.le_of_eq rfl) (by decide) ?_
          intro T257 h258 L264 X259 e260 N261 K262 F263
          show own_Out _ _ _ _ (T257.setTop (mkF m 180 #[.val (.ref a), .val (.ref b), .val (.int iv220), .val (.long ((k + (1 : Int32)).toInt64 * W.toInt64)), .second, .unset] []))
          have K1 := (Keep.refl h0 [a, wa, sa]).trans K262 (allS (Or.inl (by simp)) all0)
          have O1 := own_P_keep K262 (ninS naw nin0) O
          have Fs1 := own_AI_keep Fs K262 (ninS (Ne.symm nws) nin0)
          refine own_st (G := T257.setTop (mkF m 181 #[.val (.ref a), .val (.ref b), .val (.int iv220), .val (.long ((k + (1 : Int32)).toInt64 * W.toInt64)), .second, .unset] [(.ref a)])) (fun _ kk => XS.aloadN X259.here hx rfl (hb hby down_add_180) rfl rfl kk) ?_
          obtain ⟨T265, X266, e267, st268⟩ := getF X259 hx hZ hown (host := "") (Or.inl (own_w hw 15 rfl)) Via.refl e260 (O1).2.2.2.1 (g := (mkF m 181 #[.val (.ref a), .val (.ref b), .val (.int iv220), .val (.long ((k + (1 : Int32)).toInt64 * W.toInt64)), .second, .unset] [(.ref a)])) rfl rfl (hb hby down_add_181)
          refine own_st st268 ?_
          show own_Out _ _ _ _ (T265.setTop (mkF m 184 #[.val (.ref a), .val (.ref b), .val (.int iv220), .val (.long ((k + (1 : Int32)).toInt64 * W.toInt64)), .second, .unset] [(.ref sa)]))
          refine own_st (G := T265.setTop (mkF m 185 #[.val (.ref a), .val (.ref b), .val (.int iv220), .val (.long ((k + (1 : Int32)).toInt64 * W.toInt64)), .second, .unset] [(.int iv220), (.ref sa)])) (fun _ kk => XS.iloadN X266.here hx rfl (hb hby down_add_184) rfl kk) ?_
          refine own_st (G := T265.setTop (mkF m 186 #[.val (.ref a), .val (.ref b), .val (.int iv220), .val (.long ((k + (1 : Int32)).toInt64 * W.toInt64)), .second, .unset] [(.ref a), (.int iv220), (.ref sa)])) (fun _ kk => XS.aloadN X266.here hx rfl (hb hby down_add_185) rfl rfl kk) ?_
          obtain ⟨T269, X270, e271, st272⟩ := getF X266 hx hZ hown (host := "") (Or.inl (own_w hw 27 rfl)) Via.refl e267 (O1).2.2.2.2 (g := (mkF m 186 #[.val (.ref a), .val (.ref b), .val (.int iv220), .val (.long ((k + (1 : Int32)).toInt64 * W.toInt64)), .second, .unset] [(.ref a), (.int iv220), (.ref sa)])) rfl rfl (hb hby down_add_186)
          refine own_st st272 ?_
          show own_Out _ _ _ _ (T269.setTop (mkF m 189 #[.val (.ref a), .val (.ref b), .val (.int iv220), .val (.long ((k + (1 : Int32)).toInt64 * W.toInt64)), .second, .unset] [(.int k), (.int iv220), (.ref sa)]))
          refine own_st (G := T269.setTop (mkF m 190 #[.val (.ref a), .val (.ref b), .val (.int iv220), .val (.long ((k + (1 : Int32)).toInt64 * W.toInt64)), .second, .unset] [(.int (1 : Int32)), (.int k), (.int iv220), (.ref sa)])) (fun _ kk => XT.iconstV X270.here hx rfl (1 : Int32) (hb hby down_add_189) (by decide) kk) ?_
          refine own_st (G := T269.setTop (mkF m 191 #[.val (.ref a), .val (.ref b), .val (.int iv220), .val (.long ((k + (1 : Int32)).toInt64 * W.toInt64)), .second, .unset] [(.int (k + (1 : Int32))), (.int iv220), (.ref sa)])) (fun _ kk => XS.iadd X270.here hx rfl (hb hby down_add_190) rfl kk) ?_
          refine own_iastore X270 hx hZ e271 Fs1 (j := iv220) (i := iv220.toNatClampNeg) b221.1 rfl b221.2.1 (hb hby down_add_191) ?_
          intro T273 h274 X275 e276 W277 F278
          show own_Out _ _ _ _ (T273.setTop (mkF m 192 #[.val (.ref a), .val (.ref b), .val (.int iv220), .val (.long ((k + (1 : Int32)).toInt64 * W.toInt64)), .second, .unset] []))
          have N2 := Fr.snoc X275 N261 gs
          have K2 := K1.wr W277 (Or.inl (by simp))
          have O2 := own_P_keep (Keep.of_wr W277) (ninS nas nin0) O1
          have Fw2 := own_AJ_other F263 W277 nws
          refine own_st (G := T273.setTop (mkF m 193 #[.val (.ref a), .val (.ref b), .val (.int iv220), .val (.long ((k + (1 : Int32)).toInt64 * W.toInt64)), .second, .unset] [(.ref a)])) (fun _ kk => XS.aloadN X275.here hx rfl (hb hby down_add_192) rfl rfl kk) ?_
          refine own_st (G := T273.setTop (mkF m 194 #[.val (.ref a), .val (.ref b), .val (.int iv220), .val (.long ((k + (1 : Int32)).toInt64 * W.toInt64)), .second, .unset] [(.ref a), (.ref a)])) (fun _ kk => XS.dup X275.here hx rfl (hb hby down_add_193) rfl rfl kk) ?_
          obtain ⟨T279, X280, e281, st282⟩ := getF X275 hx hZ hown (host := "") (Or.inl (own_w hw 27 rfl)) Via.refl e276 (O2).2.2.2.2 (g := (mkF m 194 #[.val (.ref a), .val (.ref b), .val (.int iv220), .val (.long ((k + (1 : Int32)).toInt64 * W.toInt64)), .second, .unset] [(.ref a), (.ref a)])) rfl rfl (hb hby down_add_194)
          refine own_st st282 ?_
          show own_Out _ _ _ _ (T279.setTop (mkF m 197 #[.val (.ref a), .val (.ref b), .val (.int iv220), .val (.long ((k + (1 : Int32)).toInt64 * W.toInt64)), .second, .unset] [(.int k), (.ref a)]))
          refine own_st (G := T279.setTop (mkF m 198 #[.val (.ref a), .val (.ref b), .val (.int iv220), .val (.long ((k + (1 : Int32)).toInt64 * W.toInt64)), .second, .unset] [(.int (1 : Int32)), (.int k), (.ref a)])) (fun _ kk => XT.iconstV X280.here hx rfl (1 : Int32) (hb hby down_add_197) (by decide) kk) ?_
          refine own_st (G := T279.setTop (mkF m 199 #[.val (.ref a), .val (.ref b), .val (.int iv220), .val (.long ((k + (1 : Int32)).toInt64 * W.toInt64)), .second, .unset] [(.int (k + (1 : Int32))), (.ref a)])) (fun _ kk => XS.iadd X280.here hx rfl (hb hby down_add_198) rfl kk) ?_
          obtain ⟨T283, h284, X285, e286, W287, st288⟩ := putF X280 hx hZ hown (host := "") (Or.inl (own_w hw 27 rfl)) Via.refl e281 (O2).2.2.2.2 (O2).1 (Or.inl (own_w hw 28 rfl)) (own_w hw 2 rfl) (ty := .int) (by decide) rfl rfl (g := (mkF m 199 #[.val (.ref a), .val (.ref b), .val (.int iv220), .val (.long ((k + (1 : Int32)).toInt64 * W.toInt64)), .second, .unset] [(.int (k + (1 : Int32))), (.ref a)])) rfl rfl (hb hby down_add_199)
          refine own_st st288 ?_
          show own_Out _ _ _ _ (T283.setTop (mkF m 202 #[.val (.ref a), .val (.ref b), .val (.int iv220), .val (.long ((k + (1 : Int32)).toInt64 * W.toInt64)), .second, .unset] []))
          have O289 : own_P Z h284 a W (.ref wa) (.ref sa) (k + (1 : Int32)) := own_P_size hw W287 O2
          have N290 := Fr.snoc X285 N2 ga
          have K3 := K2.wr W287 (Or.inl (by simp))
          have F291 := own_AJ_other Fw2 W287 (Ne.symm naw)
          have F292 := own_AI_other F278 W287 (Ne.symm nas)
          refine own_st (G := T283.setTop (mkF m 205 #[.val (.ref a), .val (.ref b), .val (.int iv220), .val (.long ((k + (1 : Int32)).toInt64 * W.toInt64)), .second, .unset] [(.long (2 : Int64))])) (fun _ kk => X285.ldc2Long hx hown (mvT hZ (own_w hw 33 rfl)) (g := (mkF m 202 #[.val (.ref a), .val (.ref b), .val (.int iv220), .val (.long ((k + (1 : Int32)).toInt64 * W.toInt64)), .second, .unset] [])) rfl (hb hby down_add_202) _ kk) ?_
          refine own_st (G := T283.setTop (mkF m 206 #[.val (.ref a), .val (.ref b), .val (.int iv220), .val (.long ((k + (1 : Int32)).toInt64 * W.toInt64)), .second, .unset] [(.ref a), (.long (2 : Int64))])) (fun _ kk => XS.aloadN X285.here hx rfl (hb hby down_add_205) rfl rfl kk) ?_
          obtain ⟨T293, X294, e295, st296⟩ := getF X285 hx hZ hown (host := "") (Or.inl (own_w hw 27 rfl)) Via.refl e286 (O289).2.2.2.2 (g := (mkF m 206 #[.val (.ref a), .val (.ref b), .val (.int iv220), .val (.long ((k + (1 : Int32)).toInt64 * W.toInt64)), .second, .unset] [(.ref a), (.long (2 : Int64))])) rfl rfl (hb hby down_add_206)
          refine own_st st296 ?_
          show own_Out _ _ _ _ (T293.setTop (mkF m 209 #[.val (.ref a), .val (.ref b), .val (.int iv220), .val (.long ((k + (1 : Int32)).toInt64 * W.toInt64)), .second, .unset] [(.int (k + (1 : Int32))), (.long (2 : Int64))]))
          refine own_st (G := T293.setTop (mkF m 210 #[.val (.ref a), .val (.ref b), .val (.int iv220), .val (.long ((k + (1 : Int32)).toInt64 * W.toInt64)), .second, .unset] [(.long (k + (1 : Int32)).toInt64), (.long (2 : Int64))])) (fun _ kk => XS.i2l X294.here hx rfl (hb hby down_add_209) rfl kk) ?_
          refine own_st (G := T293.setTop (mkF m 211 #[.val (.ref a), .val (.ref b), .val (.int iv220), .val (.long ((k + (1 : Int32)).toInt64 * W.toInt64)), .second, .unset] [(.long ((2 : Int64) * (k + (1 : Int32)).toInt64))])) (fun _ kk => XS.lmul X294.here hx rfl (hb hby down_add_210) rfl kk) ?_
          refine own_st (G := T293.setTop (mkF m 212 #[.val (.ref a), .val (.ref b), .val (.int iv220), .val (.long ((k + (1 : Int32)).toInt64 * W.toInt64)), .second, .unset] [(.ref a), (.long ((2 : Int64) * (k + (1 : Int32)).toInt64))])) (fun _ kk => XS.aloadN X294.here hx rfl (hb hby down_add_211) rfl rfl kk) ?_
          obtain ⟨T297, X298, e299, st300⟩ := getF X294 hx hZ hown (host := "") (Or.inl (own_w hw 15 rfl)) Via.refl e295 (O289).2.2.2.1 (g := (mkF m 212 #[.val (.ref a), .val (.ref b), .val (.int iv220), .val (.long ((k + (1 : Int32)).toInt64 * W.toInt64)), .second, .unset] [(.ref a), (.long ((2 : Int64) * (k + (1 : Int32)).toInt64))])) rfl rfl (hb hby down_add_212)
          refine own_st st300 ?_
          show own_Out _ _ _ _ (T297.setTop (mkF m 215 #[.val (.ref a), .val (.ref b), .val (.int iv220), .val (.long ((k + (1 : Int32)).toInt64 * W.toInt64)), .second, .unset] [(.ref sa), (.long ((2 : Int64) * (k + (1 : Int32)).toInt64))]))
          refine own_lenI X298 hx hZ e299 F292 (z := (32 : Int32)) rfl (hb hby down_add_215) ?_
          show own_Out _ _ _ _ (T297.setTop (mkF m 216 #[.val (.ref a), .val (.ref b), .val (.int iv220), .val (.long ((k + (1 : Int32)).toInt64 * W.toInt64)), .second, .unset] [(.int (32 : Int32)), (.long ((2 : Int64) * (k + (1 : Int32)).toInt64))]))
          refine own_st (G := T297.setTop (mkF m 217 #[.val (.ref a), .val (.ref b), .val (.int iv220), .val (.long ((k + (1 : Int32)).toInt64 * W.toInt64)), .second, .unset] [(.long (32 : Int32).toInt64), (.long ((2 : Int64) * (k + (1 : Int32)).toInt64))])) (fun _ kk => XS.i2l X298.here hx rfl (hb hby down_add_216) rfl kk) ?_
          refine own_st (G := T297.setTop (mkF m 218 #[.val (.ref a), .val (.ref b), .val (.int iv220), .val (.long ((k + (1 : Int32)).toInt64 * W.toInt64)), .second, .unset] [(.int (BdW.cmpL ((2 : Int64) * (k + (1 : Int32)).toInt64) (32 : Int32).toInt64))])) (fun _ kk => XT.lcmp X298.here hx rfl (hb hby down_add_217) rfl kk) ?_
          have hk301 : ¬ ((32 : Int32).toInt64 < ((2 : Int64) * (k + (1 : Int32)).toInt64)) := (own_grow hW hk).2
          refine own_st (G := T297.setTop (mkF m 225 #[.val (.ref a), .val (.ref b), .val (.int iv220), .val (.long ((k + (1 : Int32)).toInt64 * W.toInt64)), .second, .unset] [])) (fun _ kk => XS.ifYes X298.here hx rfl (pc0 := 218) (pc' := 225) rfl (hb hby down_add_218) rfl (XT.ll_le_t hk301) (by decide) (by decide) kk) ?_
          refine own_st (G := T297.setTop (mkF m 226 #[.val (.ref a), .val (.ref b), .val (.int iv220), .val (.long ((k + (1 : Int32)).toInt64 * W.toInt64)), .second, .unset] [(.ref a)])) (fun _ kk => XS.aloadN X298.here hx rfl (hb hby down_add_225) rfl rfl kk) ?_
          obtain ⟨T302, X303, e304, st305⟩ := getF X298 hx hZ hown (host := "") (Or.inl (own_w hw 27 rfl)) Via.refl e299 (O289).2.2.2.2 (g := (mkF m 226 #[.val (.ref a), .val (.ref b), .val (.int iv220), .val (.long ((k + (1 : Int32)).toInt64 * W.toInt64)), .second, .unset] [(.ref a)])) rfl rfl (hb hby down_add_226)
          refine own_st st305 ?_
          show own_Out _ _ _ _ (T302.setTop (mkF m 229 #[.val (.ref a), .val (.ref b), .val (.int iv220), .val (.long ((k + (1 : Int32)).toInt64 * W.toInt64)), .second, .unset] [(.int (k + (1 : Int32)))]))
          refine own_st (G := T302.setTop (mkF m 230 #[.val (.ref a), .val (.ref b), .val (.int iv220), .val (.long ((k + (1 : Int32)).toInt64 * W.toInt64)), .second, .unset] [(.int (1 : Int32)), (.int (k + (1 : Int32)))])) (fun _ kk => XT.iconstV X303.here hx rfl (1 : Int32) (hb hby down_add_229) (by decide) kk) ?_
          refine own_st (G := T302.setTop (mkF m 231 #[.val (.ref a), .val (.ref b), .val (.int iv220), .val (.long ((k + (1 : Int32)).toInt64 * W.toInt64)), .second, .unset] [(.int ((k + (1 : Int32)) - (1 : Int32)))])) (fun _ kk => XS.isub X303.here hx rfl (hb hby down_add_230) rfl kk) ?_
          refine own_retI X303 hx hret hlk (hb hby down_add_231) (by decide) (by decide) ?_
          rw [e304]
          exact ⟨_, _, _, _, rfl, N290, K3, O289, F291, F292, own_put hk S b221.2.1 hk227⟩
        · skip
          refine own_st (G := T211.setTop (mkF m 40 #[.val (.ref a), .val (.ref b), .val (.int iv116), .unset, .unset, .unset] [])) (fun _ kk => XS.ifNo X213.here hx rfl (hb hby down_add_37) rfl (XT.i0_eq_f hc215) kk) ?_
          refine own_st (G := T211.setTop (mkF m 41 #[.val (.ref a), .val (.ref b), .val (.int iv116), .unset, .unset, .unset] [(.ref a)])) (fun _ kk => XS.aloadN X213.here hx rfl (hb hby down_add_40) rfl rfl kk) ?_
          obtain ⟨T306, X307, e308, st309⟩ := getF X213 hx hZ hown (host := "") (Or.inl (own_w hw 15 rfl)) Via.refl eq206 (O).2.2.2.1 (g := (mkF m 41 #[.val (.ref a), .val (.ref b), .val (.int iv116), .unset, .unset, .unset] [(.ref a)])) rfl rfl (hb hby down_add_41)
          refine own_st st309 ?_
          show own_Out _ _ _ _ (T306.setTop (mkF m 44 #[.val (.ref a), .val (.ref b), .val (.int iv116), .unset, .unset, .unset] [(.ref sa)]))
          refine own_st (G := T306.setTop (mkF m 45 #[.val (.ref a), .val (.ref b), .val (.int iv116), .unset, .unset, .unset] [(.int iv116), (.ref sa)])) (fun _ kk => XS.iloadN X307.here hx rfl (hb hby down_add_44) rfl kk) ?_
          refine own_iaload X307 hx hZ e308 Fs (j := iv116) (i := iv116.toNatClampNeg) b117.1 rfl b117.2.1 (hb hby down_add_45) ?_
          show own_Out _ _ _ _ (T306.setTop (mkF m 46 #[.val (.ref a), .val (.ref b), .val (.int iv116), .unset, .unset, .unset] [(.int (fsl iv116.toNatClampNeg))]))
          refine own_st (G := T306.setTop (mkF m 47 #[.val (.ref a), .val (.ref b), .val (.int iv116), .unset, .unset, .unset] [(.int (1 : Int32)), (.int (fsl iv116.toNatClampNeg))])) (fun _ kk => XT.iconstV X307.here hx rfl (1 : Int32) (hb hby down_add_46) (by decide) kk) ?_
          refine own_st (G := T306.setTop (mkF m 48 #[.val (.ref a), .val (.ref b), .val (.int iv116), .unset, .unset, .unset] [(.int ((fsl iv116.toNatClampNeg) - (1 : Int32)))])) (fun _ kk => XS.isub X307.here hx rfl (hb hby down_add_47) rfl kk) ?_
          refine own_retI X307 hx hret hlk (hb hby down_add_48) (by decide) (by decide) ?_
          rw [e308]
          exact ⟨_, _, _, _, rfl, N207, Keep.refl _ _, O, Fw, Fs, own_found hk S b117.2.1 hc123 (hh210 hc215)⟩
    · skip
      refine own_st (G := T107.setTop (mkF m 40 #[.val (.ref a), .val (.ref b), .val (.int iv12), .unset, .unset, .unset] [])) (fun _ kk => XS.ifNo X109.here hx rfl (hb hby down_add_37) rfl (XT.i0_eq_f hc111) kk) ?_
      refine own_st (G := T107.setTop (mkF m 41 #[.val (.ref a), .val (.ref b), .val (.int iv12), .unset, .unset, .unset] [(.ref a)])) (fun _ kk => XS.aloadN X109.here hx rfl (hb hby down_add_40) rfl rfl kk) ?_
      obtain ⟨T310, X311, e312, st313⟩ := getF X109 hx hZ hown (host := "") (Or.inl (own_w hw 15 rfl)) Via.refl eq102 (O).2.2.2.1 (g := (mkF m 41 #[.val (.ref a), .val (.ref b), .val (.int iv12), .unset, .unset, .unset] [(.ref a)])) rfl rfl (hb hby down_add_41)
      refine own_st st313 ?_
      show own_Out _ _ _ _ (T310.setTop (mkF m 44 #[.val (.ref a), .val (.ref b), .val (.int iv12), .unset, .unset, .unset] [(.ref sa)]))
      refine own_st (G := T310.setTop (mkF m 45 #[.val (.ref a), .val (.ref b), .val (.int iv12), .unset, .unset, .unset] [(.int iv12), (.ref sa)])) (fun _ kk => XS.iloadN X311.here hx rfl (hb hby down_add_44) rfl kk) ?_
      refine own_iaload X311 hx hZ e312 Fs (j := iv12) (i := iv12.toNatClampNeg) b13.1 rfl b13.2.1 (hb hby down_add_45) ?_
      show own_Out _ _ _ _ (T310.setTop (mkF m 46 #[.val (.ref a), .val (.ref b), .val (.int iv12), .unset, .unset, .unset] [(.int (fsl iv12.toNatClampNeg))]))
      refine own_st (G := T310.setTop (mkF m 47 #[.val (.ref a), .val (.ref b), .val (.int iv12), .unset, .unset, .unset] [(.int (1 : Int32)), (.int (fsl iv12.toNatClampNeg))])) (fun _ kk => XT.iconstV X311.here hx rfl (1 : Int32) (hb hby down_add_46) (by decide) kk) ?_
      refine own_st (G := T310.setTop (mkF m 48 #[.val (.ref a), .val (.ref b), .val (.int iv12), .unset, .unset, .unset] [(.int ((fsl iv12.toNatClampNeg) - (1 : Int32)))])) (fun _ kk => XS.isub X311.here hx rfl (hb hby down_add_47) rfl kk) ?_
      refine own_retI X311 hx hret hlk (hb hby down_add_48) (by decide) (by decide) ?_
      rw [e312]
      exact ⟨_, _, _, _, rfl, N103, Keep.refl _ _, O, Fw, Fs, own_found hk S b13.2.1 hc19 (hh106 hc111)⟩
theorem pn_own_law : plainFor x = true := by first | exact plainFor_of_name (by first | (simp [plainName, overriddenIn]; done) | decide +kernel) | decide +kernel
def Q_own_law (Z : State) (p0 : Int64) (p1 : Int64) (p2 : Int64) (p3 : Int64) (p4 : Int32) (p5 : Int32)  (h0 : Heap) (n0 : Nat) (v : Option Value) (h : Heap) (L : List Loc) : Prop := v = some (.int 1) ∧ Fr n0 L
set_option maxRecDepth 65536 in
set_option maxHeartbeats 40000000 in
theorem own_law (l : Launch) (Z : State) (a0 : Array Value) (hw : ∀ d ∈ tables_1, d.before a0 Z = true) (ws : List Jvm.Cond) (p0 : Int64) (p1 : Int64) (p2 : Int64) (p3 : Int64) (p4 : Int32) (p5 : Int32)  (h0 : Heap) (n0 : Nat) (Z0 : n0 ≤ h0.size) :
    MetFree l x (head1 (Jvm.Cond.code x code maxLocals ret :: ws) room_1) (fun aa U => aa = #[(.long p0), (.long p1), (.long p2), (.long p3), (.int p4), (.int p5)] ∧ Z.Warmed39 U.vm ∧ U.heap = h0) (fun _ _ _ _ _ => True) (fun _ U o U' => ∃ v L, o = .returned v ∧ Q_own_law Z p0 p1 p2 p3 p4 p5 h0 n0 v U'.heap L ∧ FrameEnd U o U' L room_1.cells room_1.slots) := by
  refine own_body (x := x) (maxL := maxLocals) (as' := #[(.long p0), (.long p1), (.long p2), (.long p3), (.int p4), (.int p5)]) (Q := Q_own_law Z p0 p1 p2 p3 p4 p5 h0 n0) pn_own_law #[.val (.long p0), .second, .val (.long p1), .second, .val (.long p2), .second, .val (.long p3), .second, .val (.int p4), .val (.int p5), .unset, .unset, .unset, .unset, .unset, .unset, .unset, .unset, .unset, .unset, .unset] (fun m => by first | (simp [entryFrame, mkF, argsToLocals, Value.category, maxLocals]; done) | rfl) ?_
  intro p e s m below meth c T0 X0 hx hby hml hret hlk hown hnm hZ e0
  replace hml : c.maxLocals = 21 := hml
  replace hown : s.vm.findClass "com/example/libbuchi/libbuchi/automata/PackedStatesGetPinLaw" = some m.cls := hown
  have N0 := Fr.nil n0
  have sz0 : h0.size ≤ h0.size := Nat.le_refl _
  refine own_st (G := T0.setTop (mkF m 2 #[.val (.long p0), .second, .val (.long p1), .second, .val (.long p2), .second, .val (.long p3), .second, .val (.int p4), .val (.int p5), .unset, .unset, .unset, .unset, .unset, .unset, .unset, .unset, .unset, .unset, .unset] [(.int p4)])) (fun _ kk => XS.iload X0.here hx rfl (hb hby at_0) rfl kk) ?_
  refine own_st (G := T0.setTop (mkF m 3 #[.val (.long p0), .second, .val (.long p1), .second, .val (.long p2), .second, .val (.long p3), .second, .val (.int p4), .val (.int p5), .unset, .unset, .unset, .unset, .unset, .unset, .unset, .unset, .unset, .unset, .unset] [(.int (3 : Int32)), (.int p4)])) (fun _ kk => XT.iconstV X0.here hx rfl (3 : Int32) (hb hby at_2) (by decide) kk) ?_
  refine own_st (G := T0.setTop (mkF m 4 #[.val (.long p0), .second, .val (.long p1), .second, .val (.long p2), .second, .val (.long p3), .second, .val (.int p4), .val (.int p5), .unset, .unset, .unset, .unset, .unset, .unset, .unset, .unset, .unset, .unset, .unset] [(.int (p4 &&& (3 : Int32)))])) (fun _ kk => XS.iand X0.here hx rfl (hb hby at_3) rfl kk) ?_
  generalize hv4 : (p4 &&& (3 : Int32)) = W
  refine own_st (G := T0.setTop (mkF m 6 #[.val (.long p0), .second, .val (.long p1), .second, .val (.long p2), .second, .val (.long p3), .second, .val (.int p4), .val (.int p5), .val (.int W), .unset, .unset, .unset, .unset, .unset, .unset, .unset, .unset, .unset, .unset] [])) (fun _ kk => XS.istore X0.here hx rfl (hb hby at_4) rfl (l' := #[.val (.long p0), .second, .val (.long p1), .second, .val (.long p2), .second, .val (.long p3), .second, .val (.int p4), .val (.int p5), .val (.int W), .unset, .unset, .unset, .unset, .unset, .unset, .unset, .unset, .unset, .unset]) rfl kk) ?_
  have hW : own_hW W := hv4 ▸ own_and3 p4
  refine own_st (G := T0.setTop (mkF m 7 #[.val (.long p0), .second, .val (.long p1), .second, .val (.long p2), .second, .val (.long p3), .second, .val (.int p4), .val (.int p5), .val (.int W), .unset, .unset, .unset, .unset, .unset, .unset, .unset, .unset, .unset, .unset] [(.int (3 : Int32))])) (fun _ kk => XT.iconstV X0.here hx rfl (3 : Int32) (hb hby at_6) (by decide) kk) ?_
  obtain ⟨T1, h2, cA3, X4, e5, E6, A7, st8⟩ := newP X0 hx hZ (own_w hw 0 rfl) e0 (g := (mkF m 7 #[.val (.long p0), .second, .val (.long p1), .second, .val (.long p2), .second, .val (.long p3), .second, .val (.int p4), .val (.int p5), .val (.int W), .unset, .unset, .unset, .unset, .unset, .unset, .unset, .unset, .unset, .unset] [(.int (3 : Int32))])) rfl (hb hby at_7) rfl (by decide) (cap := 3) (by decide) (by decide) (by decide) (by decide)
  obtain ⟨a9, g10⟩ : ∃ z, z = h0.size := ⟨_, rfl⟩
  rw [← g10] at A7 st8
  have S11 : (newA cA3 .long (3 : Int32)).slots.size = 3 := (sz_new _ _ _).trans (by decide)
  refine own_st st8 ?_
  show own_Out _ _ _ _ (T1.setTop (mkF m 9 #[.val (.long p0), .second, .val (.long p1), .second, .val (.long p2), .second, .val (.long p3), .second, .val (.int p4), .val (.int p5), .val (.int W), .unset, .unset, .unset, .unset, .unset, .unset, .unset, .unset, .unset, .unset] [(.ref a9)]))
  have F12 := own_AJ_new (n := 3) A7 (by decide) rfl
  refine own_st (G := T1.setTop (mkF m 10 #[.val (.long p0), .second, .val (.long p1), .second, .val (.long p2), .second, .val (.long p3), .second, .val (.int p4), .val (.int p5), .val (.int W), .unset, .unset, .unset, .unset, .unset, .unset, .unset, .unset, .unset, .unset] [(.ref a9), (.ref a9)])) (fun _ kk => XS.dup X4.here hx rfl (hb hby at_9) rfl rfl kk) ?_
  refine own_st (G := T1.setTop (mkF m 11 #[.val (.long p0), .second, .val (.long p1), .second, .val (.long p2), .second, .val (.long p3), .second, .val (.int p4), .val (.int p5), .val (.int W), .unset, .unset, .unset, .unset, .unset, .unset, .unset, .unset, .unset, .unset] [(.int (0 : Int32)), (.ref a9), (.ref a9)])) (fun _ kk => XT.iconstV X4.here hx rfl (0 : Int32) (hb hby at_10) (by decide) kk) ?_
  refine own_st (G := T1.setTop (mkF m 12 #[.val (.long p0), .second, .val (.long p1), .second, .val (.long p2), .second, .val (.long p3), .second, .val (.int p4), .val (.int p5), .val (.int W), .unset, .unset, .unset, .unset, .unset, .unset, .unset, .unset, .unset, .unset] [(.long p0), (.int (0 : Int32)), (.ref a9), (.ref a9)])) (fun _ kk => XS.lloadN X4.here hx rfl (hb hby at_11) rfl kk) ?_
  refine own_lastore X4 hx hZ e5 F12 (j := (0 : Int32)) (i := 0) (by decide) rfl (by decide) (hb hby at_12) ?_
  intro T13 h14 X15 e16 W17 F18
  show own_Out _ _ _ _ (T13.setTop (mkF m 13 #[.val (.long p0), .second, .val (.long p1), .second, .val (.long p2), .second, .val (.long p3), .second, .val (.int p4), .val (.int p5), .val (.int W), .unset, .unset, .unset, .unset, .unset, .unset, .unset, .unset, .unset, .unset] [(.ref a9)]))
  have E19 := own_ext_wr E6 W17 (Nat.le_of_eq g10.symm)
  have gea9 : n0 ≤ a9 := by rw [g10]; exact Nat.le_trans Z0 sz0
  have N20 := Fr.snoc X15 N0 gea9
  refine own_st (G := T13.setTop (mkF m 14 #[.val (.long p0), .second, .val (.long p1), .second, .val (.long p2), .second, .val (.long p3), .second, .val (.int p4), .val (.int p5), .val (.int W), .unset, .unset, .unset, .unset, .unset, .unset, .unset, .unset, .unset, .unset] [(.ref a9), (.ref a9)])) (fun _ kk => XS.dup X15.here hx rfl (hb hby at_13) rfl rfl kk) ?_
  refine own_st (G := T13.setTop (mkF m 15 #[.val (.long p0), .second, .val (.long p1), .second, .val (.long p2), .second, .val (.long p3), .second, .val (.int p4), .val (.int p5), .val (.int W), .unset, .unset, .unset, .unset, .unset, .unset, .unset, .unset, .unset, .unset] [(.int (1 : Int32)), (.ref a9), (.ref a9)])) (fun _ kk => XT.iconstV X15.here hx rfl (1 : Int32) (hb hby at_14) (by decide) kk) ?_
  refine own_st (G := T13.setTop (mkF m 16 #[.val (.long p0), .second, .val (.long p1), .second, .val (.long p2), .second, .val (.long p3), .second, .val (.int p4), .val (.int p5), .val (.int W), .unset, .unset, .unset, .unset, .unset, .unset, .unset, .unset, .unset, .unset] [(.long p1), (.int (1 : Int32)), (.ref a9), (.ref a9)])) (fun _ kk => XS.lloadN X15.here hx rfl (hb hby at_15) rfl kk) ?_
  refine own_lastore X15 hx hZ e16 F18 (j := (1 : Int32)) (i := 1) (by decide) rfl (by decide) (hb hby at_16) ?_
  intro T21 h22 X23 e24 W25 F26
  show own_Out _ _ _ _ (T21.setTop (mkF m 17 #[.val (.long p0), .second, .val (.long p1), .second, .val (.long p2), .second, .val (.long p3), .second, .val (.int p4), .val (.int p5), .val (.int W), .unset, .unset, .unset, .unset, .unset, .unset, .unset, .unset, .unset, .unset] [(.ref a9)]))
  have E27 := own_ext_wr E19 W25 (Nat.le_of_eq g10.symm)
  have N28 := Fr.snoc X23 N20 gea9
  refine own_st (G := T21.setTop (mkF m 18 #[.val (.long p0), .second, .val (.long p1), .second, .val (.long p2), .second, .val (.long p3), .second, .val (.int p4), .val (.int p5), .val (.int W), .unset, .unset, .unset, .unset, .unset, .unset, .unset, .unset, .unset, .unset] [(.ref a9), (.ref a9)])) (fun _ kk => XS.dup X23.here hx rfl (hb hby at_17) rfl rfl kk) ?_
  refine own_st (G := T21.setTop (mkF m 19 #[.val (.long p0), .second, .val (.long p1), .second, .val (.long p2), .second, .val (.long p3), .second, .val (.int p4), .val (.int p5), .val (.int W), .unset, .unset, .unset, .unset, .unset, .unset, .unset, .unset, .unset, .unset] [(.int (2 : Int32)), (.ref a9), (.ref a9)])) (fun _ kk => XT.iconstV X23.here hx rfl (2 : Int32) (hb hby at_18) (by decide) kk) ?_
  refine own_st (G := T21.setTop (mkF m 21 #[.val (.long p0), .second, .val (.long p1), .second, .val (.long p2), .second, .val (.long p3), .second, .val (.int p4), .val (.int p5), .val (.int W), .unset, .unset, .unset, .unset, .unset, .unset, .unset, .unset, .unset, .unset] [(.long p2), (.int (2 : Int32)), (.ref a9), (.ref a9)])) (fun _ kk => XS.lload X23.here hx rfl (hb hby at_19) rfl kk) ?_
  refine own_lastore X23 hx hZ e24 F26 (j := (2 : Int32)) (i := 2) (by decide) rfl (by decide) (hb hby at_21) ?_
  intro T29 h30 X31 e32 W33 F34
  show own_Out _ _ _ _ (T29.setTop (mkF m 22 #[.val (.long p0), .second, .val (.long p1), .second, .val (.long p2), .second, .val (.long p3), .second, .val (.int p4), .val (.int p5), .val (.int W), .unset, .unset, .unset, .unset, .unset, .unset, .unset, .unset, .unset, .unset] [(.ref a9)]))
  have E35 := own_ext_wr E27 W33 (Nat.le_of_eq g10.symm)
  have N36 := Fr.snoc X31 N28 gea9
  have F37 : own_AJ Z h30 a9 3 (own_f3 p0 p1 p2) := own_AJ_congr F34 (own_all3 (Nat.le_refl 3) rfl rfl rfl)
  have sz38 : h0.size ≤ h30.size := Nat.le_trans sz0 E35.1
  refine own_st (G := T29.setTop (mkF m 24 #[.val (.long p0), .second, .val (.long p1), .second, .val (.long p2), .second, .val (.long p3), .second, .val (.int p4), .val (.int p5), .val (.int W), .val (.ref a9), .unset, .unset, .unset, .unset, .unset, .unset, .unset, .unset, .unset] [])) (fun _ kk => XS.astore X31.here hx rfl (hb hby at_22) rfl rfl (l' := #[.val (.long p0), .second, .val (.long p1), .second, .val (.long p2), .second, .val (.long p3), .second, .val (.int p4), .val (.int p5), .val (.int W), .val (.ref a9), .unset, .unset, .unset, .unset, .unset, .unset, .unset, .unset, .unset]) rfl kk) ?_
  refine own_st (G := T29.setTop (mkF m 26 #[.val (.long p0), .second, .val (.long p1), .second, .val (.long p2), .second, .val (.long p3), .second, .val (.int p4), .val (.int p5), .val (.int W), .val (.ref a9), .unset, .unset, .unset, .unset, .unset, .unset, .unset, .unset, .unset] [(.int p5)])) (fun _ kk => XS.iload X31.here hx rfl (hb hby at_24) rfl kk) ?_
  refine own_st (G := T29.setTop (mkF m 27 #[.val (.long p0), .second, .val (.long p1), .second, .val (.long p2), .second, .val (.long p3), .second, .val (.int p4), .val (.int p5), .val (.int W), .val (.ref a9), .unset, .unset, .unset, .unset, .unset, .unset, .unset, .unset, .unset] [(.int (1 : Int32)), (.int p5)])) (fun _ kk => XT.iconstV X31.here hx rfl (1 : Int32) (hb hby at_26) (by decide) kk) ?_
  refine own_st (G := T29.setTop (mkF m 28 #[.val (.long p0), .second, .val (.long p1), .second, .val (.long p2), .second, .val (.long p3), .second, .val (.int p4), .val (.int p5), .val (.int W), .val (.ref a9), .unset, .unset, .unset, .unset, .unset, .unset, .unset, .unset, .unset] [(.int (p5 &&& (1 : Int32)))])) (fun _ kk => XS.iand X31.here hx rfl (hb hby at_27) rfl kk) ?_
  by_cases hc39 : (p5 &&& (1 : Int32)) = (0 : Int32)
  · skip
    refine own_st (G := T29.setTop (mkF m 50 #[.val (.long p0), .second, .val (.long p1), .second, .val (.long p2), .second, .val (.long p3), .second, .val (.int p4), .val (.int p5), .val (.int W), .val (.ref a9), .unset, .unset, .unset, .unset, .unset, .unset, .unset, .unset, .unset] [])) (fun _ kk => XS.ifYes X31.here hx rfl (pc0 := 28) (pc' := 50) rfl (hb hby at_28) rfl (XT.i0_eq_t hc39) (by decide) (by decide) kk) ?_
    refine own_st (G := T29.setTop (mkF m 51 #[.val (.long p0), .second, .val (.long p1), .second, .val (.long p2), .second, .val (.long p3), .second, .val (.int p4), .val (.int p5), .val (.int W), .val (.ref a9), .unset, .unset, .unset, .unset, .unset, .unset, .unset, .unset, .unset] [(.int (3 : Int32))])) (fun _ kk => XT.iconstV X31.here hx rfl (3 : Int32) (hb hby at_50) (by decide) kk) ?_
    obtain ⟨T40, h41, cA42, X43, e44, E45, A46, st47⟩ := newP X31 hx hZ (own_w hw 0 rfl) e32 (g := (mkF m 51 #[.val (.long p0), .second, .val (.long p1), .second, .val (.long p2), .second, .val (.long p3), .second, .val (.int p4), .val (.int p5), .val (.int W), .val (.ref a9), .unset, .unset, .unset, .unset, .unset, .unset, .unset, .unset, .unset] [(.int (3 : Int32))])) rfl (hb hby at_51) rfl (by decide) (cap := 3) (by decide) (by decide) (by decide) (by decide)
    obtain ⟨a48, g49⟩ : ∃ z, z = h30.size := ⟨_, rfl⟩
    rw [← g49] at A46 st47
    have S50 : (newA cA42 .long (3 : Int32)).slots.size = 3 := (sz_new _ _ _).trans (by decide)
    refine own_st st47 ?_
    show own_Out _ _ _ _ (T40.setTop (mkF m 53 #[.val (.long p0), .second, .val (.long p1), .second, .val (.long p2), .second, .val (.long p3), .second, .val (.int p4), .val (.int p5), .val (.int W), .val (.ref a9), .unset, .unset, .unset, .unset, .unset, .unset, .unset, .unset, .unset] [(.ref a48)]))
    have F51 := own_AJ_new (n := 3) A46 (by decide) rfl
    refine own_st (G := T40.setTop (mkF m 54 #[.val (.long p0), .second, .val (.long p1), .second, .val (.long p2), .second, .val (.long p3), .second, .val (.int p4), .val (.int p5), .val (.int W), .val (.ref a9), .unset, .unset, .unset, .unset, .unset, .unset, .unset, .unset, .unset] [(.ref a48), (.ref a48)])) (fun _ kk => XS.dup X43.here hx rfl (hb hby at_53) rfl rfl kk) ?_
    refine own_st (G := T40.setTop (mkF m 55 #[.val (.long p0), .second, .val (.long p1), .second, .val (.long p2), .second, .val (.long p3), .second, .val (.int p4), .val (.int p5), .val (.int W), .val (.ref a9), .unset, .unset, .unset, .unset, .unset, .unset, .unset, .unset, .unset] [(.int (0 : Int32)), (.ref a48), (.ref a48)])) (fun _ kk => XT.iconstV X43.here hx rfl (0 : Int32) (hb hby at_54) (by decide) kk) ?_
    refine own_st (G := T40.setTop (mkF m 56 #[.val (.long p0), .second, .val (.long p1), .second, .val (.long p2), .second, .val (.long p3), .second, .val (.int p4), .val (.int p5), .val (.int W), .val (.ref a9), .unset, .unset, .unset, .unset, .unset, .unset, .unset, .unset, .unset] [(.long p1), (.int (0 : Int32)), (.ref a48), (.ref a48)])) (fun _ kk => XS.lloadN X43.here hx rfl (hb hby at_55) rfl kk) ?_
    refine own_lastore X43 hx hZ e44 F51 (j := (0 : Int32)) (i := 0) (by decide) rfl (by decide) (hb hby at_56) ?_
    intro T52 h53 X54 e55 W56 F57
    show own_Out _ _ _ _ (T52.setTop (mkF m 57 #[.val (.long p0), .second, .val (.long p1), .second, .val (.long p2), .second, .val (.long p3), .second, .val (.int p4), .val (.int p5), .val (.int W), .val (.ref a9), .unset, .unset, .unset, .unset, .unset, .unset, .unset, .unset, .unset] [(.ref a48)]))
    have E58 := own_ext_wr E45 W56 (Nat.le_of_eq g49.symm)
    have gea48 : n0 ≤ a48 := by rw [g49]; exact Nat.le_trans Z0 sz38
    have N59 := Fr.snoc X54 N36 gea48
    refine own_st (G := T52.setTop (mkF m 58 #[.val (.long p0), .second, .val (.long p1), .second, .val (.long p2), .second, .val (.long p3), .second, .val (.int p4), .val (.int p5), .val (.int W), .val (.ref a9), .unset, .unset, .unset, .unset, .unset, .unset, .unset, .unset, .unset] [(.ref a48), (.ref a48)])) (fun _ kk => XS.dup X54.here hx rfl (hb hby at_57) rfl rfl kk) ?_
    refine own_st (G := T52.setTop (mkF m 59 #[.val (.long p0), .second, .val (.long p1), .second, .val (.long p2), .second, .val (.long p3), .second, .val (.int p4), .val (.int p5), .val (.int W), .val (.ref a9), .unset, .unset, .unset, .unset, .unset, .unset, .unset, .unset, .unset] [(.int (1 : Int32)), (.ref a48), (.ref a48)])) (fun _ kk => XT.iconstV X54.here hx rfl (1 : Int32) (hb hby at_58) (by decide) kk) ?_
    refine own_st (G := T52.setTop (mkF m 61 #[.val (.long p0), .second, .val (.long p1), .second, .val (.long p2), .second, .val (.long p3), .second, .val (.int p4), .val (.int p5), .val (.int W), .val (.ref a9), .unset, .unset, .unset, .unset, .unset, .unset, .unset, .unset, .unset] [(.long p2), (.int (1 : Int32)), (.ref a48), (.ref a48)])) (fun _ kk => XS.lload X54.here hx rfl (hb hby at_59) rfl kk) ?_
    refine own_lastore X54 hx hZ e55 F57 (j := (1 : Int32)) (i := 1) (by decide) rfl (by decide) (hb hby at_61) ?_
    intro T60 h61 X62 e63 W64 F65
    show own_Out _ _ _ _ (T60.setTop (mkF m 62 #[.val (.long p0), .second, .val (.long p1), .second, .val (.long p2), .second, .val (.long p3), .second, .val (.int p4), .val (.int p5), .val (.int W), .val (.ref a9), .unset, .unset, .unset, .unset, .unset, .unset, .unset, .unset, .unset] [(.ref a48)]))
    have E66 := own_ext_wr E58 W64 (Nat.le_of_eq g49.symm)
    have N67 := Fr.snoc X62 N59 gea48
    refine own_st (G := T60.setTop (mkF m 63 #[.val (.long p0), .second, .val (.long p1), .second, .val (.long p2), .second, .val (.long p3), .second, .val (.int p4), .val (.int p5), .val (.int W), .val (.ref a9), .unset, .unset, .unset, .unset, .unset, .unset, .unset, .unset, .unset] [(.ref a48), (.ref a48)])) (fun _ kk => XS.dup X62.here hx rfl (hb hby at_62) rfl rfl kk) ?_
    refine own_st (G := T60.setTop (mkF m 64 #[.val (.long p0), .second, .val (.long p1), .second, .val (.long p2), .second, .val (.long p3), .second, .val (.int p4), .val (.int p5), .val (.int W), .val (.ref a9), .unset, .unset, .unset, .unset, .unset, .unset, .unset, .unset, .unset] [(.int (2 : Int32)), (.ref a48), (.ref a48)])) (fun _ kk => XT.iconstV X62.here hx rfl (2 : Int32) (hb hby at_63) (by decide) kk) ?_
    refine own_st (G := T60.setTop (mkF m 65 #[.val (.long p0), .second, .val (.long p1), .second, .val (.long p2), .second, .val (.long p3), .second, .val (.int p4), .val (.int p5), .val (.int W), .val (.ref a9), .unset, .unset, .unset, .unset, .unset, .unset, .unset, .unset, .unset] [(.long p0), (.int (2 : Int32)), (.ref a48), (.ref a48)])) (fun _ kk => XS.lloadN X62.here hx rfl (hb hby at_64) rfl kk) ?_
    refine own_lastore X62 hx hZ e63 F65 (j := (2 : Int32)) (i := 2) (by decide) rfl (by decide) (hb hby at_65) ?_
    intro T68 h69 X70 e71 W72 F73
    show own_Out _ _ _ _ (T68.setTop (mkF m 66 #[.val (.long p0), .second, .val (.long p1), .second, .val (.long p2), .second, .val (.long p3), .second, .val (.int p4), .val (.int p5), .val (.int W), .val (.ref a9), .unset, .unset, .unset, .unset, .unset, .unset, .unset, .unset, .unset] [(.ref a48)]))
    have E74 := own_ext_wr E66 W72 (Nat.le_of_eq g49.symm)
    have N75 := Fr.snoc X70 N67 gea48
    have F76 : own_AJ Z h69 a48 3 (own_f3 p1 p2 p0) := own_AJ_congr F73 (own_all3 (Nat.le_refl 3) rfl rfl rfl)
    have lt77 : a9 < a48 := by rw [g49]; exact own_AJ_lt F37
    have F78 := own_AJ_ext F37 E74
    have sz79 : h0.size ≤ h69.size := Nat.le_trans sz38 E74.1
    refine own_st (G := T68.setTop (mkF m 68 #[.val (.long p0), .second, .val (.long p1), .second, .val (.long p2), .second, .val (.long p3), .second, .val (.int p4), .val (.int p5), .val (.int W), .val (.ref a9), .val (.ref a48), .unset, .unset, .unset, .unset, .unset, .unset, .unset, .unset] [])) (fun _ kk => XS.astore X70.here hx rfl (hb hby at_66) rfl rfl (l' := #[.val (.long p0), .second, .val (.long p1), .second, .val (.long p2), .second, .val (.long p3), .second, .val (.int p4), .val (.int p5), .val (.int W), .val (.ref a9), .val (.ref a48), .unset, .unset, .unset, .unset, .unset, .unset, .unset, .unset]) rfl kk) ?_
    refine own_st (G := T68.setTop (mkF m 70 #[.val (.long p0), .second, .val (.long p1), .second, .val (.long p2), .second, .val (.long p3), .second, .val (.int p4), .val (.int p5), .val (.int W), .val (.ref a9), .val (.ref a48), .unset, .unset, .unset, .unset, .unset, .unset, .unset, .unset] [(.int p5)])) (fun _ kk => XS.iload X70.here hx rfl (hb hby at_68) rfl kk) ?_
    refine own_st (G := T68.setTop (mkF m 71 #[.val (.long p0), .second, .val (.long p1), .second, .val (.long p2), .second, .val (.long p3), .second, .val (.int p4), .val (.int p5), .val (.int W), .val (.ref a9), .val (.ref a48), .unset, .unset, .unset, .unset, .unset, .unset, .unset, .unset] [(.int (2 : Int32)), (.int p5)])) (fun _ kk => XT.iconstV X70.here hx rfl (2 : Int32) (hb hby at_70) (by decide) kk) ?_
    refine own_st (G := T68.setTop (mkF m 72 #[.val (.long p0), .second, .val (.long p1), .second, .val (.long p2), .second, .val (.long p3), .second, .val (.int p4), .val (.int p5), .val (.int W), .val (.ref a9), .val (.ref a48), .unset, .unset, .unset, .unset, .unset, .unset, .unset, .unset] [(.int (p5 &&& (2 : Int32)))])) (fun _ kk => XS.iand X70.here hx rfl (hb hby at_71) rfl kk) ?_
    by_cases hc80 : (p5 &&& (2 : Int32)) = (0 : Int32)
    · skip
      refine own_st (G := T68.setTop (mkF m 94 #[.val (.long p0), .second, .val (.long p1), .second, .val (.long p2), .second, .val (.long p3), .second, .val (.int p4), .val (.int p5), .val (.int W), .val (.ref a9), .val (.ref a48), .unset, .unset, .unset, .unset, .unset, .unset, .unset, .unset] [])) (fun _ kk => XS.ifYes X70.here hx rfl (pc0 := 72) (pc' := 94) rfl (hb hby at_72) rfl (XT.i0_eq_t hc80) (by decide) (by decide) kk) ?_
      refine own_st (G := T68.setTop (mkF m 95 #[.val (.long p0), .second, .val (.long p1), .second, .val (.long p2), .second, .val (.long p3), .second, .val (.int p4), .val (.int p5), .val (.int W), .val (.ref a9), .val (.ref a48), .unset, .unset, .unset, .unset, .unset, .unset, .unset, .unset] [(.int (3 : Int32))])) (fun _ kk => XT.iconstV X70.here hx rfl (3 : Int32) (hb hby at_94) (by decide) kk) ?_
      obtain ⟨T81, h82, cA83, X84, e85, E86, A87, st88⟩ := newP X70 hx hZ (own_w hw 0 rfl) e71 (g := (mkF m 95 #[.val (.long p0), .second, .val (.long p1), .second, .val (.long p2), .second, .val (.long p3), .second, .val (.int p4), .val (.int p5), .val (.int W), .val (.ref a9), .val (.ref a48), .unset, .unset, .unset, .unset, .unset, .unset, .unset, .unset] [(.int (3 : Int32))])) rfl (hb hby at_95) rfl (by decide) (cap := 3) (by decide) (by decide) (by decide) (by decide)
      obtain ⟨a89, g90⟩ : ∃ z, z = h69.size := ⟨_, rfl⟩
      rw [← g90] at A87 st88
      have S91 : (newA cA83 .long (3 : Int32)).slots.size = 3 := (sz_new _ _ _).trans (by decide)
      refine own_st st88 ?_
      show own_Out _ _ _ _ (T81.setTop (mkF m 97 #[.val (.long p0), .second, .val (.long p1), .second, .val (.long p2), .second, .val (.long p3), .second, .val (.int p4), .val (.int p5), .val (.int W), .val (.ref a9), .val (.ref a48), .unset, .unset, .unset, .unset, .unset, .unset, .unset, .unset] [(.ref a89)]))
      have F92 := own_AJ_new (n := 3) A87 (by decide) rfl
      refine own_st (G := T81.setTop (mkF m 98 #[.val (.long p0), .second, .val (.long p1), .second, .val (.long p2), .second, .val (.long p3), .second, .val (.int p4), .val (.int p5), .val (.int W), .val (.ref a9), .val (.ref a48), .unset, .unset, .unset, .unset, .unset, .unset, .unset, .unset] [(.ref a89), (.ref a89)])) (fun _ kk => XS.dup X84.here hx rfl (hb hby at_97) rfl rfl kk) ?_
      refine own_st (G := T81.setTop (mkF m 99 #[.val (.long p0), .second, .val (.long p1), .second, .val (.long p2), .second, .val (.long p3), .second, .val (.int p4), .val (.int p5), .val (.int W), .val (.ref a9), .val (.ref a48), .unset, .unset, .unset, .unset, .unset, .unset, .unset, .unset] [(.int (0 : Int32)), (.ref a89), (.ref a89)])) (fun _ kk => XT.iconstV X84.here hx rfl (0 : Int32) (hb hby at_98) (by decide) kk) ?_
      refine own_st (G := T81.setTop (mkF m 101 #[.val (.long p0), .second, .val (.long p1), .second, .val (.long p2), .second, .val (.long p3), .second, .val (.int p4), .val (.int p5), .val (.int W), .val (.ref a9), .val (.ref a48), .unset, .unset, .unset, .unset, .unset, .unset, .unset, .unset] [(.long p2), (.int (0 : Int32)), (.ref a89), (.ref a89)])) (fun _ kk => XS.lload X84.here hx rfl (hb hby at_99) rfl kk) ?_
      refine own_lastore X84 hx hZ e85 F92 (j := (0 : Int32)) (i := 0) (by decide) rfl (by decide) (hb hby at_101) ?_
      intro T93 h94 X95 e96 W97 F98
      show own_Out _ _ _ _ (T93.setTop (mkF m 102 #[.val (.long p0), .second, .val (.long p1), .second, .val (.long p2), .second, .val (.long p3), .second, .val (.int p4), .val (.int p5), .val (.int W), .val (.ref a9), .val (.ref a48), .unset, .unset, .unset, .unset, .unset, .unset, .unset, .unset] [(.ref a89)]))
      have E99 := own_ext_wr E86 W97 (Nat.le_of_eq g90.symm)
      have gea89 : n0 ≤ a89 := by rw [g90]; exact Nat.le_trans Z0 sz79
      have N100 := Fr.snoc X95 N75 gea89
      refine own_st (G := T93.setTop (mkF m 103 #[.val (.long p0), .second, .val (.long p1), .second, .val (.long p2), .second, .val (.long p3), .second, .val (.int p4), .val (.int p5), .val (.int W), .val (.ref a9), .val (.ref a48), .unset, .unset, .unset, .unset, .unset, .unset, .unset, .unset] [(.ref a89), (.ref a89)])) (fun _ kk => XS.dup X95.here hx rfl (hb hby at_102) rfl rfl kk) ?_
      refine own_st (G := T93.setTop (mkF m 104 #[.val (.long p0), .second, .val (.long p1), .second, .val (.long p2), .second, .val (.long p3), .second, .val (.int p4), .val (.int p5), .val (.int W), .val (.ref a9), .val (.ref a48), .unset, .unset, .unset, .unset, .unset, .unset, .unset, .unset] [(.int (1 : Int32)), (.ref a89), (.ref a89)])) (fun _ kk => XT.iconstV X95.here hx rfl (1 : Int32) (hb hby at_103) (by decide) kk) ?_
      refine own_st (G := T93.setTop (mkF m 105 #[.val (.long p0), .second, .val (.long p1), .second, .val (.long p2), .second, .val (.long p3), .second, .val (.int p4), .val (.int p5), .val (.int W), .val (.ref a9), .val (.ref a48), .unset, .unset, .unset, .unset, .unset, .unset, .unset, .unset] [(.long p0), (.int (1 : Int32)), (.ref a89), (.ref a89)])) (fun _ kk => XS.lloadN X95.here hx rfl (hb hby at_104) rfl kk) ?_
      refine own_lastore X95 hx hZ e96 F98 (j := (1 : Int32)) (i := 1) (by decide) rfl (by decide) (hb hby at_105) ?_
      intro T101 h102 X103 e104 W105 F106
      show own_Out _ _ _ _ (T101.setTop (mkF m 106 #[.val (.long p0), .second, .val (.long p1), .second, .val (.long p2), .second, .val (.long p3), .second, .val (.int p4), .val (.int p5), .val (.int W), .val (.ref a9), .val (.ref a48), .unset, .unset, .unset, .unset, .unset, .unset, .unset, .unset] [(.ref a89)]))
      have E107 := own_ext_wr E99 W105 (Nat.le_of_eq g90.symm)
      have N108 := Fr.snoc X103 N100 gea89
      refine own_st (G := T101.setTop (mkF m 107 #[.val (.long p0), .second, .val (.long p1), .second, .val (.long p2), .second, .val (.long p3), .second, .val (.int p4), .val (.int p5), .val (.int W), .val (.ref a9), .val (.ref a48), .unset, .unset, .unset, .unset, .unset, .unset, .unset, .unset] [(.ref a89), (.ref a89)])) (fun _ kk => XS.dup X103.here hx rfl (hb hby at_106) rfl rfl kk) ?_
      refine own_st (G := T101.setTop (mkF m 108 #[.val (.long p0), .second, .val (.long p1), .second, .val (.long p2), .second, .val (.long p3), .second, .val (.int p4), .val (.int p5), .val (.int W), .val (.ref a9), .val (.ref a48), .unset, .unset, .unset, .unset, .unset, .unset, .unset, .unset] [(.int (2 : Int32)), (.ref a89), (.ref a89)])) (fun _ kk => XT.iconstV X103.here hx rfl (2 : Int32) (hb hby at_107) (by decide) kk) ?_
      refine own_st (G := T101.setTop (mkF m 109 #[.val (.long p0), .second, .val (.long p1), .second, .val (.long p2), .second, .val (.long p3), .second, .val (.int p4), .val (.int p5), .val (.int W), .val (.ref a9), .val (.ref a48), .unset, .unset, .unset, .unset, .unset, .unset, .unset, .unset] [(.long p1), (.int (2 : Int32)), (.ref a89), (.ref a89)])) (fun _ kk => XS.lloadN X103.here hx rfl (hb hby at_108) rfl kk) ?_
      refine own_lastore X103 hx hZ e104 F106 (j := (2 : Int32)) (i := 2) (by decide) rfl (by decide) (hb hby at_109) ?_
      intro T109 h110 X111 e112 W113 F114
      show own_Out _ _ _ _ (T109.setTop (mkF m 110 #[.val (.long p0), .second, .val (.long p1), .second, .val (.long p2), .second, .val (.long p3), .second, .val (.int p4), .val (.int p5), .val (.int W), .val (.ref a9), .val (.ref a48), .unset, .unset, .unset, .unset, .unset, .unset, .unset, .unset] [(.ref a89)]))
      have E115 := own_ext_wr E107 W113 (Nat.le_of_eq g90.symm)
      have N116 := Fr.snoc X111 N108 gea89
      have F117 : own_AJ Z h110 a89 3 (own_f3 p2 p0 p1) := own_AJ_congr F114 (own_all3 (Nat.le_refl 3) rfl rfl rfl)
      have lt118 : a9 < a89 := by rw [g90]; exact own_AJ_lt F78
      have F119 := own_AJ_ext F78 E115
      have lt120 : a48 < a89 := by rw [g90]; exact own_AJ_lt F76
      have F121 := own_AJ_ext F76 E115
      have sz122 : h0.size ≤ h110.size := Nat.le_trans sz79 E115.1
      refine own_st (G := T109.setTop (mkF m 112 #[.val (.long p0), .second, .val (.long p1), .second, .val (.long p2), .second, .val (.long p3), .second, .val (.int p4), .val (.int p5), .val (.int W), .val (.ref a9), .val (.ref a48), .val (.ref a89), .unset, .unset, .unset, .unset, .unset, .unset, .unset] [])) (fun _ kk => XS.astore X111.here hx rfl (hb hby at_110) rfl rfl (l' := #[.val (.long p0), .second, .val (.long p1), .second, .val (.long p2), .second, .val (.long p3), .second, .val (.int p4), .val (.int p5), .val (.int W), .val (.ref a9), .val (.ref a48), .val (.ref a89), .unset, .unset, .unset, .unset, .unset, .unset, .unset]) rfl kk) ?_
      refine own_st (G := T109.setTop (mkF m 113 #[.val (.long p0), .second, .val (.long p1), .second, .val (.long p2), .second, .val (.long p3), .second, .val (.int p4), .val (.int p5), .val (.int W), .val (.ref a9), .val (.ref a48), .val (.ref a89), .unset, .unset, .unset, .unset, .unset, .unset, .unset] [(.int (3 : Int32))])) (fun _ kk => XT.iconstV X111.here hx rfl (3 : Int32) (hb hby at_112) (by decide) kk) ?_
      obtain ⟨T123, h124, cA125, X126, e127, E128, A129, st130⟩ := newP X111 hx hZ (own_w hw 0 rfl) e112 (g := (mkF m 113 #[.val (.long p0), .second, .val (.long p1), .second, .val (.long p2), .second, .val (.long p3), .second, .val (.int p4), .val (.int p5), .val (.int W), .val (.ref a9), .val (.ref a48), .val (.ref a89), .unset, .unset, .unset, .unset, .unset, .unset, .unset] [(.int (3 : Int32))])) rfl (hb hby at_113) rfl (by decide) (cap := 3) (by decide) (by decide) (by decide) (by decide)
      obtain ⟨a131, g132⟩ : ∃ z, z = h110.size := ⟨_, rfl⟩
      rw [← g132] at A129 st130
      have S133 : (newA cA125 .long (3 : Int32)).slots.size = 3 := (sz_new _ _ _).trans (by decide)
      refine own_st st130 ?_
      show own_Out _ _ _ _ (T123.setTop (mkF m 115 #[.val (.long p0), .second, .val (.long p1), .second, .val (.long p2), .second, .val (.long p3), .second, .val (.int p4), .val (.int p5), .val (.int W), .val (.ref a9), .val (.ref a48), .val (.ref a89), .unset, .unset, .unset, .unset, .unset, .unset, .unset] [(.ref a131)]))
      have F134 := own_AJ_new (n := 3) A129 (by decide) rfl
      refine own_st (G := T123.setTop (mkF m 116 #[.val (.long p0), .second, .val (.long p1), .second, .val (.long p2), .second, .val (.long p3), .second, .val (.int p4), .val (.int p5), .val (.int W), .val (.ref a9), .val (.ref a48), .val (.ref a89), .unset, .unset, .unset, .unset, .unset, .unset, .unset] [(.ref a131), (.ref a131)])) (fun _ kk => XS.dup X126.here hx rfl (hb hby at_115) rfl rfl kk) ?_
      refine own_st (G := T123.setTop (mkF m 117 #[.val (.long p0), .second, .val (.long p1), .second, .val (.long p2), .second, .val (.long p3), .second, .val (.int p4), .val (.int p5), .val (.int W), .val (.ref a9), .val (.ref a48), .val (.ref a89), .unset, .unset, .unset, .unset, .unset, .unset, .unset] [(.int (0 : Int32)), (.ref a131), (.ref a131)])) (fun _ kk => XT.iconstV X126.here hx rfl (0 : Int32) (hb hby at_116) (by decide) kk) ?_
      refine own_st (G := T123.setTop (mkF m 119 #[.val (.long p0), .second, .val (.long p1), .second, .val (.long p2), .second, .val (.long p3), .second, .val (.int p4), .val (.int p5), .val (.int W), .val (.ref a9), .val (.ref a48), .val (.ref a89), .unset, .unset, .unset, .unset, .unset, .unset, .unset] [(.long p3), (.int (0 : Int32)), (.ref a131), (.ref a131)])) (fun _ kk => XS.lload X126.here hx rfl (hb hby at_117) rfl kk) ?_
      refine own_lastore X126 hx hZ e127 F134 (j := (0 : Int32)) (i := 0) (by decide) rfl (by decide) (hb hby at_119) ?_
      intro T135 h136 X137 e138 W139 F140
      show own_Out _ _ _ _ (T135.setTop (mkF m 120 #[.val (.long p0), .second, .val (.long p1), .second, .val (.long p2), .second, .val (.long p3), .second, .val (.int p4), .val (.int p5), .val (.int W), .val (.ref a9), .val (.ref a48), .val (.ref a89), .unset, .unset, .unset, .unset, .unset, .unset, .unset] [(.ref a131)]))
      have E141 := own_ext_wr E128 W139 (Nat.le_of_eq g132.symm)
      have gea131 : n0 ≤ a131 := by rw [g132]; exact Nat.le_trans Z0 sz122
      have N142 := Fr.snoc X137 N116 gea131
      refine own_st (G := T135.setTop (mkF m 121 #[.val (.long p0), .second, .val (.long p1), .second, .val (.long p2), .second, .val (.long p3), .second, .val (.int p4), .val (.int p5), .val (.int W), .val (.ref a9), .val (.ref a48), .val (.ref a89), .unset, .unset, .unset, .unset, .unset, .unset, .unset] [(.ref a131), (.ref a131)])) (fun _ kk => XS.dup X137.here hx rfl (hb hby at_120) rfl rfl kk) ?_
      refine own_st (G := T135.setTop (mkF m 122 #[.val (.long p0), .second, .val (.long p1), .second, .val (.long p2), .second, .val (.long p3), .second, .val (.int p4), .val (.int p5), .val (.int W), .val (.ref a9), .val (.ref a48), .val (.ref a89), .unset, .unset, .unset, .unset, .unset, .unset, .unset] [(.int (1 : Int32)), (.ref a131), (.ref a131)])) (fun _ kk => XT.iconstV X137.here hx rfl (1 : Int32) (hb hby at_121) (by decide) kk) ?_
      refine own_st (G := T135.setTop (mkF m 124 #[.val (.long p0), .second, .val (.long p1), .second, .val (.long p2), .second, .val (.long p3), .second, .val (.int p4), .val (.int p5), .val (.int W), .val (.ref a9), .val (.ref a48), .val (.ref a89), .unset, .unset, .unset, .unset, .unset, .unset, .unset] [(.long p3), (.int (1 : Int32)), (.ref a131), (.ref a131)])) (fun _ kk => XS.lload X137.here hx rfl (hb hby at_122) rfl kk) ?_
      refine own_lastore X137 hx hZ e138 F140 (j := (1 : Int32)) (i := 1) (by decide) rfl (by decide) (hb hby at_124) ?_
      intro T143 h144 X145 e146 W147 F148
      show own_Out _ _ _ _ (T143.setTop (mkF m 125 #[.val (.long p0), .second, .val (.long p1), .second, .val (.long p2), .second, .val (.long p3), .second, .val (.int p4), .val (.int p5), .val (.int W), .val (.ref a9), .val (.ref a48), .val (.ref a89), .unset, .unset, .unset, .unset, .unset, .unset, .unset] [(.ref a131)]))
      have E149 := own_ext_wr E141 W147 (Nat.le_of_eq g132.symm)
      have N150 := Fr.snoc X145 N142 gea131
      refine own_st (G := T143.setTop (mkF m 126 #[.val (.long p0), .second, .val (.long p1), .second, .val (.long p2), .second, .val (.long p3), .second, .val (.int p4), .val (.int p5), .val (.int W), .val (.ref a9), .val (.ref a48), .val (.ref a89), .unset, .unset, .unset, .unset, .unset, .unset, .unset] [(.ref a131), (.ref a131)])) (fun _ kk => XS.dup X145.here hx rfl (hb hby at_125) rfl rfl kk) ?_
      refine own_st (G := T143.setTop (mkF m 127 #[.val (.long p0), .second, .val (.long p1), .second, .val (.long p2), .second, .val (.long p3), .second, .val (.int p4), .val (.int p5), .val (.int W), .val (.ref a9), .val (.ref a48), .val (.ref a89), .unset, .unset, .unset, .unset, .unset, .unset, .unset] [(.int (2 : Int32)), (.ref a131), (.ref a131)])) (fun _ kk => XT.iconstV X145.here hx rfl (2 : Int32) (hb hby at_126) (by decide) kk) ?_
      refine own_st (G := T143.setTop (mkF m 129 #[.val (.long p0), .second, .val (.long p1), .second, .val (.long p2), .second, .val (.long p3), .second, .val (.int p4), .val (.int p5), .val (.int W), .val (.ref a9), .val (.ref a48), .val (.ref a89), .unset, .unset, .unset, .unset, .unset, .unset, .unset] [(.long p3), (.int (2 : Int32)), (.ref a131), (.ref a131)])) (fun _ kk => XS.lload X145.here hx rfl (hb hby at_127) rfl kk) ?_
      refine own_lastore X145 hx hZ e146 F148 (j := (2 : Int32)) (i := 2) (by decide) rfl (by decide) (hb hby at_129) ?_
      intro T151 h152 X153 e154 W155 F156
      show own_Out _ _ _ _ (T151.setTop (mkF m 130 #[.val (.long p0), .second, .val (.long p1), .second, .val (.long p2), .second, .val (.long p3), .second, .val (.int p4), .val (.int p5), .val (.int W), .val (.ref a9), .val (.ref a48), .val (.ref a89), .unset, .unset, .unset, .unset, .unset, .unset, .unset] [(.ref a131)]))
      have E157 := own_ext_wr E149 W155 (Nat.le_of_eq g132.symm)
      have N158 := Fr.snoc X153 N150 gea131
      have F159 : own_AJ Z h152 a131 3 (own_f3 p3 p3 p3) := own_AJ_congr F156 (own_all3 (Nat.le_refl 3) rfl rfl rfl)
      have lt160 : a9 < a131 := by rw [g132]; exact own_AJ_lt F119
      have F161 := own_AJ_ext F119 E157
      have lt162 : a48 < a131 := by rw [g132]; exact own_AJ_lt F121
      have F163 := own_AJ_ext F121 E157
      have lt164 : a89 < a131 := by rw [g132]; exact own_AJ_lt F117
      have F165 := own_AJ_ext F117 E157
      have sz166 : h0.size ≤ h152.size := Nat.le_trans sz122 E157.1
      refine own_st (G := T151.setTop (mkF m 132 #[.val (.long p0), .second, .val (.long p1), .second, .val (.long p2), .second, .val (.long p3), .second, .val (.int p4), .val (.int p5), .val (.int W), .val (.ref a9), .val (.ref a48), .val (.ref a89), .val (.ref a131), .unset, .unset, .unset, .unset, .unset, .unset] [])) (fun _ kk => XS.astore X153.here hx rfl (hb hby at_130) rfl rfl (l' := #[.val (.long p0), .second, .val (.long p1), .second, .val (.long p2), .second, .val (.long p3), .second, .val (.int p4), .val (.int p5), .val (.int W), .val (.ref a9), .val (.ref a48), .val (.ref a89), .val (.ref a131), .unset, .unset, .unset, .unset, .unset, .unset]) rfl kk) ?_
      refine own_st (G := T151.setTop (mkF m 133 #[.val (.long p0), .second, .val (.long p1), .second, .val (.long p2), .second, .val (.long p3), .second, .val (.int p4), .val (.int p5), .val (.int W), .val (.ref a9), .val (.ref a48), .val (.ref a89), .val (.ref a131), .unset, .unset, .unset, .unset, .unset, .unset] [(.int (3 : Int32))])) (fun _ kk => XT.iconstV X153.here hx rfl (3 : Int32) (hb hby at_132) (by decide) kk) ?_
      obtain ⟨T167, h168, cA169, X170, e171, E172, A173, st174⟩ := newP X153 hx hZ (own_w hw 0 rfl) e154 (g := (mkF m 133 #[.val (.long p0), .second, .val (.long p1), .second, .val (.long p2), .second, .val (.long p3), .second, .val (.int p4), .val (.int p5), .val (.int W), .val (.ref a9), .val (.ref a48), .val (.ref a89), .val (.ref a131), .unset, .unset, .unset, .unset, .unset, .unset] [(.int (3 : Int32))])) rfl (hb hby at_133) rfl (by decide) (cap := 3) (by decide) (by decide) (by decide) (by decide)
      obtain ⟨a175, g176⟩ : ∃ z, z = h152.size := ⟨_, rfl⟩
      rw [← g176] at A173 st174
      have S177 : (newA cA169 .long (3 : Int32)).slots.size = 3 := (sz_new _ _ _).trans (by decide)
      refine own_st st174 ?_
      show own_Out _ _ _ _ (T167.setTop (mkF m 135 #[.val (.long p0), .second, .val (.long p1), .second, .val (.long p2), .second, .val (.long p3), .second, .val (.int p4), .val (.int p5), .val (.int W), .val (.ref a9), .val (.ref a48), .val (.ref a89), .val (.ref a131), .unset, .unset, .unset, .unset, .unset, .unset] [(.ref a175)]))
      have F178 := own_AJ_new (n := 3) A173 (by decide) rfl
      refine own_st (G := T167.setTop (mkF m 136 #[.val (.long p0), .second, .val (.long p1), .second, .val (.long p2), .second, .val (.long p3), .second, .val (.int p4), .val (.int p5), .val (.int W), .val (.ref a9), .val (.ref a48), .val (.ref a89), .val (.ref a131), .unset, .unset, .unset, .unset, .unset, .unset] [(.ref a175), (.ref a175)])) (fun _ kk => XS.dup X170.here hx rfl (hb hby at_135) rfl rfl kk) ?_
      refine own_st (G := T167.setTop (mkF m 137 #[.val (.long p0), .second, .val (.long p1), .second, .val (.long p2), .second, .val (.long p3), .second, .val (.int p4), .val (.int p5), .val (.int W), .val (.ref a9), .val (.ref a48), .val (.ref a89), .val (.ref a131), .unset, .unset, .unset, .unset, .unset, .unset] [(.int (0 : Int32)), (.ref a175), (.ref a175)])) (fun _ kk => XT.iconstV X170.here hx rfl (0 : Int32) (hb hby at_136) (by decide) kk) ?_
      refine own_st (G := T167.setTop (mkF m 139 #[.val (.long p0), .second, .val (.long p1), .second, .val (.long p2), .second, .val (.long p3), .second, .val (.int p4), .val (.int p5), .val (.int W), .val (.ref a9), .val (.ref a48), .val (.ref a89), .val (.ref a131), .unset, .unset, .unset, .unset, .unset, .unset] [(.long p3), (.int (0 : Int32)), (.ref a175), (.ref a175)])) (fun _ kk => XS.lload X170.here hx rfl (hb hby at_137) rfl kk) ?_
      refine own_lastore X170 hx hZ e171 F178 (j := (0 : Int32)) (i := 0) (by decide) rfl (by decide) (hb hby at_139) ?_
      intro T179 h180 X181 e182 W183 F184
      show own_Out _ _ _ _ (T179.setTop (mkF m 140 #[.val (.long p0), .second, .val (.long p1), .second, .val (.long p2), .second, .val (.long p3), .second, .val (.int p4), .val (.int p5), .val (.int W), .val (.ref a9), .val (.ref a48), .val (.ref a89), .val (.ref a131), .unset, .unset, .unset, .unset, .unset, .unset] [(.ref a175)]))
      have E185 := own_ext_wr E172 W183 (Nat.le_of_eq g176.symm)
      have gea175 : n0 ≤ a175 := by rw [g176]; exact Nat.le_trans Z0 sz166
      have N186 := Fr.snoc X181 N158 gea175
      refine own_st (G := T179.setTop (mkF m 141 #[.val (.long p0), .second, .val (.long p1), .second, .val (.long p2), .second, .val (.long p3), .second, .val (.int p4), .val (.int p5), .val (.int W), .val (.ref a9), .val (.ref a48), .val (.ref a89), .val (.ref a131), .unset, .unset, .unset, .unset, .unset, .unset] [(.ref a175), (.ref a175)])) (fun _ kk => XS.dup X181.here hx rfl (hb hby at_140) rfl rfl kk) ?_
      refine own_st (G := T179.setTop (mkF m 142 #[.val (.long p0), .second, .val (.long p1), .second, .val (.long p2), .second, .val (.long p3), .second, .val (.int p4), .val (.int p5), .val (.int W), .val (.ref a9), .val (.ref a48), .val (.ref a89), .val (.ref a131), .unset, .unset, .unset, .unset, .unset, .unset] [(.int (1 : Int32)), (.ref a175), (.ref a175)])) (fun _ kk => XT.iconstV X181.here hx rfl (1 : Int32) (hb hby at_141) (by decide) kk) ?_
      refine own_st (G := T179.setTop (mkF m 144 #[.val (.long p0), .second, .val (.long p1), .second, .val (.long p2), .second, .val (.long p3), .second, .val (.int p4), .val (.int p5), .val (.int W), .val (.ref a9), .val (.ref a48), .val (.ref a89), .val (.ref a131), .unset, .unset, .unset, .unset, .unset, .unset] [(.long p3), (.int (1 : Int32)), (.ref a175), (.ref a175)])) (fun _ kk => XS.lload X181.here hx rfl (hb hby at_142) rfl kk) ?_
      refine own_lastore X181 hx hZ e182 F184 (j := (1 : Int32)) (i := 1) (by decide) rfl (by decide) (hb hby at_144) ?_
      intro T187 h188 X189 e190 W191 F192
      show own_Out _ _ _ _ (T187.setTop (mkF m 145 #[.val (.long p0), .second, .val (.long p1), .second, .val (.long p2), .second, .val (.long p3), .second, .val (.int p4), .val (.int p5), .val (.int W), .val (.ref a9), .val (.ref a48), .val (.ref a89), .val (.ref a131), .unset, .unset, .unset, .unset, .unset, .unset] [(.ref a175)]))
      have E193 := own_ext_wr E185 W191 (Nat.le_of_eq g176.symm)
      have N194 := Fr.snoc X189 N186 gea175
      refine own_st (G := T187.setTop (mkF m 146 #[.val (.long p0), .second, .val (.long p1), .second, .val (.long p2), .second, .val (.long p3), .second, .val (.int p4), .val (.int p5), .val (.int W), .val (.ref a9), .val (.ref a48), .val (.ref a89), .val (.ref a131), .unset, .unset, .unset, .unset, .unset, .unset] [(.ref a175), (.ref a175)])) (fun _ kk => XS.dup X189.here hx rfl (hb hby at_145) rfl rfl kk) ?_
      refine own_st (G := T187.setTop (mkF m 147 #[.val (.long p0), .second, .val (.long p1), .second, .val (.long p2), .second, .val (.long p3), .second, .val (.int p4), .val (.int p5), .val (.int W), .val (.ref a9), .val (.ref a48), .val (.ref a89), .val (.ref a131), .unset, .unset, .unset, .unset, .unset, .unset] [(.int (2 : Int32)), (.ref a175), (.ref a175)])) (fun _ kk => XT.iconstV X189.here hx rfl (2 : Int32) (hb hby at_146) (by decide) kk) ?_
      refine own_st (G := T187.setTop (mkF m 149 #[.val (.long p0), .second, .val (.long p1), .second, .val (.long p2), .second, .val (.long p3), .second, .val (.int p4), .val (.int p5), .val (.int W), .val (.ref a9), .val (.ref a48), .val (.ref a89), .val (.ref a131), .unset, .unset, .unset, .unset, .unset, .unset] [(.long p3), (.int (2 : Int32)), (.ref a175), (.ref a175)])) (fun _ kk => XS.lload X189.here hx rfl (hb hby at_147) rfl kk) ?_
      refine own_lastore X189 hx hZ e190 F192 (j := (2 : Int32)) (i := 2) (by decide) rfl (by decide) (hb hby at_149) ?_
      intro T195 h196 X197 e198 W199 F200
      show own_Out _ _ _ _ (T195.setTop (mkF m 150 #[.val (.long p0), .second, .val (.long p1), .second, .val (.long p2), .second, .val (.long p3), .second, .val (.int p4), .val (.int p5), .val (.int W), .val (.ref a9), .val (.ref a48), .val (.ref a89), .val (.ref a131), .unset, .unset, .unset, .unset, .unset, .unset] [(.ref a175)]))
      have E201 := own_ext_wr E193 W199 (Nat.le_of_eq g176.symm)
      have N202 := Fr.snoc X197 N194 gea175
      have F203 : own_AJ Z h196 a175 3 (own_f3 p3 p3 p3) := own_AJ_congr F200 (own_all3 (Nat.le_refl 3) rfl rfl rfl)
      have lt204 : a9 < a175 := by rw [g176]; exact own_AJ_lt F161
      have F205 := own_AJ_ext F161 E201
      have lt206 : a48 < a175 := by rw [g176]; exact own_AJ_lt F163
      have F207 := own_AJ_ext F163 E201
      have lt208 : a89 < a175 := by rw [g176]; exact own_AJ_lt F165
      have F209 := own_AJ_ext F165 E201
      have lt210 : a131 < a175 := by rw [g176]; exact own_AJ_lt F159
      have F211 := own_AJ_ext F159 E201
      have sz212 : h0.size ≤ h196.size := Nat.le_trans sz166 E201.1
      refine own_st (G := T195.setTop (mkF m 152 #[.val (.long p0), .second, .val (.long p1), .second, .val (.long p2), .second, .val (.long p3), .second, .val (.int p4), .val (.int p5), .val (.int W), .val (.ref a9), .val (.ref a48), .val (.ref a89), .val (.ref a131), .val (.ref a175), .unset, .unset, .unset, .unset, .unset] [])) (fun _ kk => XS.astore X197.here hx rfl (hb hby at_150) rfl rfl (l' := #[.val (.long p0), .second, .val (.long p1), .second, .val (.long p2), .second, .val (.long p3), .second, .val (.int p4), .val (.int p5), .val (.int W), .val (.ref a9), .val (.ref a48), .val (.ref a89), .val (.ref a131), .val (.ref a175), .unset, .unset, .unset, .unset, .unset]) rfl kk) ?_
      refine own_st (G := T195.setTop (mkF m 153 #[.val (.long p0), .second, .val (.long p1), .second, .val (.long p2), .second, .val (.long p3), .second, .val (.int p4), .val (.int p5), .val (.int W), .val (.ref a9), .val (.ref a48), .val (.ref a89), .val (.ref a131), .val (.ref a175), .unset, .unset, .unset, .unset, .unset] [(.int (3 : Int32))])) (fun _ kk => XT.iconstV X197.here hx rfl (3 : Int32) (hb hby at_152) (by decide) kk) ?_
      obtain ⟨T213, h214, cA215, X216, e217, E218, A219, st220⟩ := newP X197 hx hZ (own_w hw 0 rfl) e198 (g := (mkF m 153 #[.val (.long p0), .second, .val (.long p1), .second, .val (.long p2), .second, .val (.long p3), .second, .val (.int p4), .val (.int p5), .val (.int W), .val (.ref a9), .val (.ref a48), .val (.ref a89), .val (.ref a131), .val (.ref a175), .unset, .unset, .unset, .unset, .unset] [(.int (3 : Int32))])) rfl (hb hby at_153) rfl (by decide) (cap := 3) (by decide) (by decide) (by decide) (by decide)
      obtain ⟨a221, g222⟩ : ∃ z, z = h196.size := ⟨_, rfl⟩
      rw [← g222] at A219 st220
      have S223 : (newA cA215 .long (3 : Int32)).slots.size = 3 := (sz_new _ _ _).trans (by decide)
      refine own_st st220 ?_
      show own_Out _ _ _ _ (T213.setTop (mkF m 155 #[.val (.long p0), .second, .val (.long p1), .second, .val (.long p2), .second, .val (.long p3), .second, .val (.int p4), .val (.int p5), .val (.int W), .val (.ref a9), .val (.ref a48), .val (.ref a89), .val (.ref a131), .val (.ref a175), .unset, .unset, .unset, .unset, .unset] [(.ref a221)]))
      have F224 := own_AJ_new (n := 3) A219 (by decide) rfl
      refine own_st (G := T213.setTop (mkF m 156 #[.val (.long p0), .second, .val (.long p1), .second, .val (.long p2), .second, .val (.long p3), .second, .val (.int p4), .val (.int p5), .val (.int W), .val (.ref a9), .val (.ref a48), .val (.ref a89), .val (.ref a131), .val (.ref a175), .unset, .unset, .unset, .unset, .unset] [(.ref a221), (.ref a221)])) (fun _ kk => XS.dup X216.here hx rfl (hb hby at_155) rfl rfl kk) ?_
      refine own_st (G := T213.setTop (mkF m 157 #[.val (.long p0), .second, .val (.long p1), .second, .val (.long p2), .second, .val (.long p3), .second, .val (.int p4), .val (.int p5), .val (.int W), .val (.ref a9), .val (.ref a48), .val (.ref a89), .val (.ref a131), .val (.ref a175), .unset, .unset, .unset, .unset, .unset] [(.int (0 : Int32)), (.ref a221), (.ref a221)])) (fun _ kk => XT.iconstV X216.here hx rfl (0 : Int32) (hb hby at_156) (by decide) kk) ?_
      refine own_st (G := T213.setTop (mkF m 159 #[.val (.long p0), .second, .val (.long p1), .second, .val (.long p2), .second, .val (.long p3), .second, .val (.int p4), .val (.int p5), .val (.int W), .val (.ref a9), .val (.ref a48), .val (.ref a89), .val (.ref a131), .val (.ref a175), .unset, .unset, .unset, .unset, .unset] [(.long p3), (.int (0 : Int32)), (.ref a221), (.ref a221)])) (fun _ kk => XS.lload X216.here hx rfl (hb hby at_157) rfl kk) ?_
      refine own_lastore X216 hx hZ e217 F224 (j := (0 : Int32)) (i := 0) (by decide) rfl (by decide) (hb hby at_159) ?_
      intro T225 h226 X227 e228 W229 F230
      show own_Out _ _ _ _ (T225.setTop (mkF m 160 #[.val (.long p0), .second, .val (.long p1), .second, .val (.long p2), .second, .val (.long p3), .second, .val (.int p4), .val (.int p5), .val (.int W), .val (.ref a9), .val (.ref a48), .val (.ref a89), .val (.ref a131), .val (.ref a175), .unset, .unset, .unset, .unset, .unset] [(.ref a221)]))
      have E231 := own_ext_wr E218 W229 (Nat.le_of_eq g222.symm)
      have gea221 : n0 ≤ a221 := by rw [g222]; exact Nat.le_trans Z0 sz212
      have N232 := Fr.snoc X227 N202 gea221
      refine own_st (G := T225.setTop (mkF m 161 #[.val (.long p0), .second, .val (.long p1), .second, .val (.long p2), .second, .val (.long p3), .second, .val (.int p4), .val (.int p5), .val (.int W), .val (.ref a9), .val (.ref a48), .val (.ref a89), .val (.ref a131), .val (.ref a175), .unset, .unset, .unset, .unset, .unset] [(.ref a221), (.ref a221)])) (fun _ kk => XS.dup X227.here hx rfl (hb hby at_160) rfl rfl kk) ?_
      refine own_st (G := T225.setTop (mkF m 162 #[.val (.long p0), .second, .val (.long p1), .second, .val (.long p2), .second, .val (.long p3), .second, .val (.int p4), .val (.int p5), .val (.int W), .val (.ref a9), .val (.ref a48), .val (.ref a89), .val (.ref a131), .val (.ref a175), .unset, .unset, .unset, .unset, .unset] [(.int (1 : Int32)), (.ref a221), (.ref a221)])) (fun _ kk => XT.iconstV X227.here hx rfl (1 : Int32) (hb hby at_161) (by decide) kk) ?_
      refine own_st (G := T225.setTop (mkF m 164 #[.val (.long p0), .second, .val (.long p1), .second, .val (.long p2), .second, .val (.long p3), .second, .val (.int p4), .val (.int p5), .val (.int W), .val (.ref a9), .val (.ref a48), .val (.ref a89), .val (.ref a131), .val (.ref a175), .unset, .unset, .unset, .unset, .unset] [(.long p3), (.int (1 : Int32)), (.ref a221), (.ref a221)])) (fun _ kk => XS.lload X227.here hx rfl (hb hby at_162) rfl kk) ?_
      refine own_lastore X227 hx hZ e228 F230 (j := (1 : Int32)) (i := 1) (by decide) rfl (by decide) (hb hby at_164) ?_
      intro T233 h234 X235 e236 W237 F238
      show own_Out _ _ _ _ (T233.setTop (mkF m 165 #[.val (.long p0), .second, .val (.long p1), .second, .val (.long p2), .second, .val (.long p3), .second, .val (.int p4), .val (.int p5), .val (.int W), .val (.ref a9), .val (.ref a48), .val (.ref a89), .val (.ref a131), .val (.ref a175), .unset, .unset, .unset, .unset, .unset] [(.ref a221)]))
      have E239 := own_ext_wr E231 W237 (Nat.le_of_eq g222.symm)
      have N240 := Fr.snoc X235 N232 gea221
      refine own_st (G := T233.setTop (mkF m 166 #[.val (.long p0), .second, .val (.long p1), .second, .val (.long p2), .second, .val (.long p3), .second, .val (.int p4), .val (.int p5), .val (.int W), .val (.ref a9), .val (.ref a48), .val (.ref a89), .val (.ref a131), .val (.ref a175), .unset, .unset, .unset, .unset, .unset] [(.ref a221), (.ref a221)])) (fun _ kk => XS.dup X235.here hx rfl (hb hby at_165) rfl rfl kk) ?_
      refine own_st (G := T233.setTop (mkF m 167 #[.val (.long p0), .second, .val (.long p1), .second, .val (.long p2), .second, .val (.long p3), .second, .val (.int p4), .val (.int p5), .val (.int W), .val (.ref a9), .val (.ref a48), .val (.ref a89), .val (.ref a131), .val (.ref a175), .unset, .unset, .unset, .unset, .unset] [(.int (2 : Int32)), (.ref a221), (.ref a221)])) (fun _ kk => XT.iconstV X235.here hx rfl (2 : Int32) (hb hby at_166) (by decide) kk) ?_
      refine own_st (G := T233.setTop (mkF m 169 #[.val (.long p0), .second, .val (.long p1), .second, .val (.long p2), .second, .val (.long p3), .second, .val (.int p4), .val (.int p5), .val (.int W), .val (.ref a9), .val (.ref a48), .val (.ref a89), .val (.ref a131), .val (.ref a175), .unset, .unset, .unset, .unset, .unset] [(.long p3), (.int (2 : Int32)), (.ref a221), (.ref a221)])) (fun _ kk => XS.lload X235.here hx rfl (hb hby at_167) rfl kk) ?_
      refine own_lastore X235 hx hZ e236 F238 (j := (2 : Int32)) (i := 2) (by decide) rfl (by decide) (hb hby at_169) ?_
      intro T241 h242 X243 e244 W245 F246
      show own_Out _ _ _ _ (T241.setTop (mkF m 170 #[.val (.long p0), .second, .val (.long p1), .second, .val (.long p2), .second, .val (.long p3), .second, .val (.int p4), .val (.int p5), .val (.int W), .val (.ref a9), .val (.ref a48), .val (.ref a89), .val (.ref a131), .val (.ref a175), .unset, .unset, .unset, .unset, .unset] [(.ref a221)]))
      have E247 := own_ext_wr E239 W245 (Nat.le_of_eq g222.symm)
      have N248 := Fr.snoc X243 N240 gea221
      have F249 : own_AJ Z h242 a221 3 (own_f3 p3 p3 p3) := own_AJ_congr F246 (own_all3 (Nat.le_refl 3) rfl rfl rfl)
      have lt250 : a9 < a221 := by rw [g222]; exact own_AJ_lt F205
      have F251 := own_AJ_ext F205 E247
      have lt252 : a48 < a221 := by rw [g222]; exact own_AJ_lt F207
      have F253 := own_AJ_ext F207 E247
      have lt254 : a89 < a221 := by rw [g222]; exact own_AJ_lt F209
      have F255 := own_AJ_ext F209 E247
      have lt256 : a131 < a221 := by rw [g222]; exact own_AJ_lt F211
      have F257 := own_AJ_ext F211 E247
      have lt258 : a175 < a221 := by rw [g222]; exact own_AJ_lt F203
      have F259 := own_AJ_ext F203 E247
      have sz260 : h0.size ≤ h242.size := Nat.le_trans sz212 E247.1
      refine own_st (G := T241.setTop (mkF m 172 #[.val (.long p0), .second, .val (.long p1), .second, .val (.long p2), .second, .val (.long p3), .second, .val (.int p4), .val (.int p5), .val (.int W), .val (.ref a9), .val (.ref a48), .val (.ref a89), .val (.ref a131), .val (.ref a175), .val (.ref a221), .unset, .unset, .unset, .unset] [])) (fun _ kk => XS.astore X243.here hx rfl (hb hby at_170) rfl rfl (l' := #[.val (.long p0), .second, .val (.long p1), .second, .val (.long p2), .second, .val (.long p3), .second, .val (.int p4), .val (.int p5), .val (.int W), .val (.ref a9), .val (.ref a48), .val (.ref a89), .val (.ref a131), .val (.ref a175), .val (.ref a221), .unset, .unset, .unset, .unset]) rfl kk) ?_
      obtain ⟨T261, h262, X263, e264, E265, A266, D267, U269, st268⟩ := newO X243 hx hZ hown (own_w hw 1 rfl) (own_w hw 2 rfl) (own_w hw 3 rfl) e244 (g := (mkF m 172 #[.val (.long p0), .second, .val (.long p1), .second, .val (.long p2), .second, .val (.long p3), .second, .val (.int p4), .val (.int p5), .val (.int W), .val (.ref a9), .val (.ref a48), .val (.ref a89), .val (.ref a131), .val (.ref a175), .val (.ref a221), .unset, .unset, .unset, .unset] [])) rfl (hb hby at_172) (by decide) (by decide)
      obtain ⟨a270, g271⟩ : ∃ z, z = h242.size := ⟨_, rfl⟩
      rw [← g271] at A266 D267 U269 st268
      refine own_st st268 ?_
      show own_Out _ _ _ _ (T261.setTop (mkF m 175 #[.val (.long p0), .second, .val (.long p1), .second, .val (.long p2), .second, .val (.long p3), .second, .val (.int p4), .val (.int p5), .val (.int W), .val (.ref a9), .val (.ref a48), .val (.ref a89), .val (.ref a131), .val (.ref a175), .val (.ref a221), .unset, .unset, .unset, .unset] [(.ref a270)]))
      have O272 : own_P Z h262 a270 (0 : Int32) .null .null (0 : Int32) := ⟨A266, D267 (Or.inr (own_w hw 11 rfl)) (ty := .int) (by decide), D267 (Or.inl (own_w hw 13 rfl)) (ty := .array (.long)) (by decide), D267 (Or.inl (own_w hw 16 rfl)) (ty := .array (.int)) (by decide), D267 (Or.inl (own_w hw 28 rfl)) (ty := .int) (by decide)⟩
      have ga : n0 ≤ a270 := by rw [g271]; exact Nat.le_trans Z0 sz260
      have lt273 : a9 < a270 := by rw [g271]; exact own_AJ_lt F251
      have F274 := own_AJ_ext F251 E265
      have lt275 : a48 < a270 := by rw [g271]; exact own_AJ_lt F253
      have F276 := own_AJ_ext F253 E265
      have lt277 : a89 < a270 := by rw [g271]; exact own_AJ_lt F255
      have F278 := own_AJ_ext F255 E265
      have lt279 : a131 < a270 := by rw [g271]; exact own_AJ_lt F257
      have F280 := own_AJ_ext F257 E265
      have lt281 : a175 < a270 := by rw [g271]; exact own_AJ_lt F259
      have F282 := own_AJ_ext F259 E265
      have lt283 : a221 < a270 := by rw [g271]; exact own_AJ_lt F249
      have F284 := own_AJ_ext F249 E265
      have sz285 : h0.size ≤ h262.size := Nat.le_trans sz260 E265.1
      refine own_st (G := T261.setTop (mkF m 176 #[.val (.long p0), .second, .val (.long p1), .second, .val (.long p2), .second, .val (.long p3), .second, .val (.int p4), .val (.int p5), .val (.int W), .val (.ref a9), .val (.ref a48), .val (.ref a89), .val (.ref a131), .val (.ref a175), .val (.ref a221), .unset, .unset, .unset, .unset] [(.ref a270), (.ref a270)])) (fun _ kk => XS.dup X263.here hx rfl (hb hby at_175) rfl rfl kk) ?_
      refine own_st (G := T261.setTop (mkF m 178 #[.val (.long p0), .second, .val (.long p1), .second, .val (.long p2), .second, .val (.long p3), .second, .val (.int p4), .val (.int p5), .val (.int W), .val (.ref a9), .val (.ref a48), .val (.ref a89), .val (.ref a131), .val (.ref a175), .val (.ref a221), .unset, .unset, .unset, .unset] [(.int W), (.ref a270), (.ref a270)])) (fun _ kk => XS.iload X263.here hx rfl (hb hby at_176) rfl kk) ?_
      have la : a270 < h262.size := (O272).1.lt
      refine own_callI X263 hx hZ (y := (⟨"com/example/libbuchi/libbuchi/automata/PackedStates", "<init>", "(I)V"⟩ : MethodName)) (b := a270) (as' := [(.int W)]) rfl hown (own_w hw 4 rfl) (own_w hw 5 rfl) (own_w hw 6 rfl) (own_w hw 3 rfl) (by decide) (own_ini l Z a0 hw [] W a270 h262 n0 ga O272 hW) 1 (by decide) (by decide) (by decide) (by decide) (rest := [(.ref a270)]) (by rw [hml]; rfl) (lenOf (by decide : parseMethodDescriptor "(I)V" = some ⟨[.int], none⟩) rfl) rfl (Nat.le_of_eq rfl) (hb hby at_178) e264 ?_
      intro T295 L296 v298 X297 hQ
      obtain ⟨rfl, N286', wa288, sa289, g293, g294, K287, O290, Fw291, Fs292⟩ := hQ
      show own_Out _ _ _ _ (T295.setTop (mkF m 181 #[.val (.long p0), .second, .val (.long p1), .second, .val (.long p2), .second, .val (.long p3), .second, .val (.int p4), .val (.int p5), .val (.int W), .val (.ref a9), .val (.ref a48), .val (.ref a89), .val (.ref a131), .val (.ref a175), .val (.ref a221), .unset, .unset, .unset, .unset] [(.ref a270)]))
      have N286 := Fr.app N248 N286'
      have gwa : n0 ≤ wa288 := Nat.le_trans Z0 (Nat.le_trans sz285 g293)
      have gsa : n0 ≤ sa289 := Nat.le_trans gwa (Nat.le_of_lt g294)
      have F299 := own_AJ_keep F274 K287 (ninS (own_ne (by omega)) (nin0))
      have F300 := own_AJ_keep F276 K287 (ninS (own_ne (by omega)) (nin0))
      have F301 := own_AJ_keep F278 K287 (ninS (own_ne (by omega)) (nin0))
      have F302 := own_AJ_keep F280 K287 (ninS (own_ne (by omega)) (nin0))
      have F303 := own_AJ_keep F282 K287 (ninS (own_ne (by omega)) (nin0))
      have F304 := own_AJ_keep F284 K287 (ninS (own_ne (by omega)) (nin0))
      have hK0 : own_K (0 : Int32) 0 := ⟨by decide, by decide⟩
      have hS0 : own_SI (fun _ => 0) (0 : Int32) := ⟨fun _ _ => ⟨(by decide : (0 : Int) ≤ (0 : Int32).toInt), (by decide : (0 : Int32).toInt ≤ (0 : Int32).toInt)⟩, fun _ _ _ _ _ z => absurd rfl z⟩
      refine own_st (G := T295.setTop (mkF m 183 #[.val (.long p0), .second, .val (.long p1), .second, .val (.long p2), .second, .val (.long p3), .second, .val (.int p4), .val (.int p5), .val (.int W), .val (.ref a9), .val (.ref a48), .val (.ref a89), .val (.ref a131), .val (.ref a175), .val (.ref a221), .val (.ref a270), .unset, .unset, .unset] [])) (fun _ kk => XS.astore X297.here hx rfl (hb hby at_181) rfl rfl (l' := #[.val (.long p0), .second, .val (.long p1), .second, .val (.long p2), .second, .val (.long p3), .second, .val (.int p4), .val (.int p5), .val (.int W), .val (.ref a9), .val (.ref a48), .val (.ref a89), .val (.ref a131), .val (.ref a175), .val (.ref a221), .val (.ref a270), .unset, .unset, .unset]) rfl kk) ?_
      refine own_st (G := T295.setTop (mkF m 185 #[.val (.long p0), .second, .val (.long p1), .second, .val (.long p2), .second, .val (.long p3), .second, .val (.int p4), .val (.int p5), .val (.int W), .val (.ref a9), .val (.ref a48), .val (.ref a89), .val (.ref a131), .val (.ref a175), .val (.ref a221), .val (.ref a270), .unset, .unset, .unset] [(.ref a270)])) (fun _ kk => XS.aload X297.here hx rfl (hb hby at_183) rfl rfl kk) ?_
      refine own_st (G := T295.setTop (mkF m 187 #[.val (.long p0), .second, .val (.long p1), .second, .val (.long p2), .second, .val (.long p3), .second, .val (.int p4), .val (.int p5), .val (.int W), .val (.ref a9), .val (.ref a48), .val (.ref a89), .val (.ref a131), .val (.ref a175), .val (.ref a221), .val (.ref a270), .unset, .unset, .unset] [(.ref a9), (.ref a270)])) (fun _ kk => XS.aload X297.here hx rfl (hb hby at_185) rfl rfl kk) ?_
      refine own_callV X297 hx hZ (y := (⟨"com/example/libbuchi/libbuchi/automata/PackedStates", "add", "([J)I"⟩ : MethodName)) (b := a270) (as' := [(.ref a9)]) hown (own_w hw 17 rfl) (own_w hw 18 rfl) (own_w hw 20 rfl) (own_w hw 19 rfl) (own_w hw 21 rfl) (own_w hw 3 rfl) (by decide) (own_add l Z a0 hw [] a270 a9 wa288 sa289 W (0 : Int32) (fun _ => 0) (own_f3 p0 p1 p2) (fun _ => 0) T295.heap n0 ga gwa gsa (own_ne (by omega)) (own_ne (by omega)) (own_ne (by omega)) O290 Fw291 Fs292 F299 hW ⟨hK0.1, Int.le_trans hK0.2 (by decide)⟩ hS0) (O290).1 0 (by decide) (by decide) (by decide) (by decide) (rest := []) (by rw [hml]; rfl) (lenOf (by decide : parseMethodDescriptor "([J)I" = some ⟨[.array (.long)], some (.int)⟩) rfl) rfl (Nat.le_of_eq rfl) (hb hby at_187) rfl ?_
      intro T315 L316 v318 X317 hQ
      obtain ⟨r307, k308, fw309, fs310, rfl, N305', K306, O311, Fw312, Fs313, R314⟩ := hQ
      show own_Out _ _ _ _ (T315.setTop (mkF m 190 #[.val (.long p0), .second, .val (.long p1), .second, .val (.long p2), .second, .val (.long p3), .second, .val (.int p4), .val (.int p5), .val (.int W), .val (.ref a9), .val (.ref a48), .val (.ref a89), .val (.ref a131), .val (.ref a175), .val (.ref a221), .val (.ref a270), .unset, .unset, .unset] [(.int r307)]))
      have N305 := Fr.app N286 N305'
      have F319 := own_AJ_keep F299 K306 (ninS (own_ne (by omega)) (ninS (own_ne (by omega)) (ninS (own_ne (by omega)) (nin0))))
      have F320 := own_AJ_keep F300 K306 (ninS (own_ne (by omega)) (ninS (own_ne (by omega)) (ninS (own_ne (by omega)) (nin0))))
      have F321 := own_AJ_keep F301 K306 (ninS (own_ne (by omega)) (ninS (own_ne (by omega)) (ninS (own_ne (by omega)) (nin0))))
      have F322 := own_AJ_keep F302 K306 (ninS (own_ne (by omega)) (ninS (own_ne (by omega)) (ninS (own_ne (by omega)) (nin0))))
      have F323 := own_AJ_keep F303 K306 (ninS (own_ne (by omega)) (ninS (own_ne (by omega)) (ninS (own_ne (by omega)) (nin0))))
      have F324 := own_AJ_keep F304 K306 (ninS (own_ne (by omega)) (ninS (own_ne (by omega)) (ninS (own_ne (by omega)) (nin0))))
      have hK325 : own_K k308 1 := own_K_succ hK0 (by decide) R314.1
      have at326 := own_at_of hW R314.2.2.2.1
      refine own_st (G := T315.setTop (mkF m 192 #[.val (.long p0), .second, .val (.long p1), .second, .val (.long p2), .second, .val (.long p3), .second, .val (.int p4), .val (.int p5), .val (.int W), .val (.ref a9), .val (.ref a48), .val (.ref a89), .val (.ref a131), .val (.ref a175), .val (.ref a221), .val (.ref a270), .val (.int r307), .unset, .unset] [])) (fun _ kk => XS.istore X317.here hx rfl (hb hby at_190) rfl (l' := #[.val (.long p0), .second, .val (.long p1), .second, .val (.long p2), .second, .val (.long p3), .second, .val (.int p4), .val (.int p5), .val (.int W), .val (.ref a9), .val (.ref a48), .val (.ref a89), .val (.ref a131), .val (.ref a175), .val (.ref a221), .val (.ref a270), .val (.int r307), .unset, .unset]) rfl kk) ?_
      refine own_st (G := T315.setTop (mkF m 194 #[.val (.long p0), .second, .val (.long p1), .second, .val (.long p2), .second, .val (.long p3), .second, .val (.int p4), .val (.int p5), .val (.int W), .val (.ref a9), .val (.ref a48), .val (.ref a89), .val (.ref a131), .val (.ref a175), .val (.ref a221), .val (.ref a270), .val (.int r307), .unset, .unset] [(.ref a270)])) (fun _ kk => XS.aload X317.here hx rfl (hb hby at_192) rfl rfl kk) ?_
      refine own_st (G := T315.setTop (mkF m 196 #[.val (.long p0), .second, .val (.long p1), .second, .val (.long p2), .second, .val (.long p3), .second, .val (.int p4), .val (.int p5), .val (.int W), .val (.ref a9), .val (.ref a48), .val (.ref a89), .val (.ref a131), .val (.ref a175), .val (.ref a221), .val (.ref a270), .val (.int r307), .unset, .unset] [(.ref a48), (.ref a270)])) (fun _ kk => XS.aload X317.here hx rfl (hb hby at_194) rfl rfl kk) ?_
      refine own_callV X317 hx hZ (y := (⟨"com/example/libbuchi/libbuchi/automata/PackedStates", "add", "([J)I"⟩ : MethodName)) (b := a270) (as' := [(.ref a48)]) hown (own_w hw 17 rfl) (own_w hw 18 rfl) (own_w hw 20 rfl) (own_w hw 19 rfl) (own_w hw 21 rfl) (own_w hw 3 rfl) (by decide) (own_add l Z a0 hw [] a270 a48 wa288 sa289 W k308 fw309 (own_f3 p1 p2 p0) fs310 T315.heap n0 ga gwa gsa (own_ne (by omega)) (own_ne (by omega)) (own_ne (by omega)) O311 Fw312 Fs313 F320 hW ⟨hK325.1, Int.le_trans hK325.2 (by decide)⟩ R314.2.1) (O311).1 0 (by decide) (by decide) (by decide) (by decide) (rest := []) (by rw [hml]; rfl) (lenOf (by decide : parseMethodDescriptor "([J)I" = some ⟨[.array (.long)], some (.int)⟩) rfl) rfl (Nat.le_of_eq rfl) (hb hby at_196) rfl ?_
      intro T337 L338 v340 X339 hQ
      obtain ⟨r329, k330, fw331, fs332, rfl, N327', K328, O333, Fw334, Fs335, R336⟩ := hQ
      show own_Out _ _ _ _ (T337.setTop (mkF m 199 #[.val (.long p0), .second, .val (.long p1), .second, .val (.long p2), .second, .val (.long p3), .second, .val (.int p4), .val (.int p5), .val (.int W), .val (.ref a9), .val (.ref a48), .val (.ref a89), .val (.ref a131), .val (.ref a175), .val (.ref a221), .val (.ref a270), .val (.int r307), .unset, .unset] [(.int r329)]))
      have N327 := Fr.app N305 N327'
      have F341 := own_AJ_keep F319 K328 (ninS (own_ne (by omega)) (ninS (own_ne (by omega)) (ninS (own_ne (by omega)) (nin0))))
      have F342 := own_AJ_keep F320 K328 (ninS (own_ne (by omega)) (ninS (own_ne (by omega)) (ninS (own_ne (by omega)) (nin0))))
      have F343 := own_AJ_keep F321 K328 (ninS (own_ne (by omega)) (ninS (own_ne (by omega)) (ninS (own_ne (by omega)) (nin0))))
      have F344 := own_AJ_keep F322 K328 (ninS (own_ne (by omega)) (ninS (own_ne (by omega)) (ninS (own_ne (by omega)) (nin0))))
      have F345 := own_AJ_keep F323 K328 (ninS (own_ne (by omega)) (ninS (own_ne (by omega)) (ninS (own_ne (by omega)) (nin0))))
      have F346 := own_AJ_keep F324 K328 (ninS (own_ne (by omega)) (ninS (own_ne (by omega)) (ninS (own_ne (by omega)) (nin0))))
      have hK347 : own_K k330 2 := own_K_succ hK325 (by decide) R336.1
      have hr348 := own_chain (k' := 0) R314.2.2.2.2.2 R314.2.2.2.2.1 R336.2.2.1
      have lr349 := Nat.lt_of_lt_of_le R314.2.2.2.2.1 (own_kle hK325 (by decide) R336.1)
      have at350 := own_at_of hW R336.2.2.2.1
      refine own_st (G := T337.setTop (mkF m 201 #[.val (.long p0), .second, .val (.long p1), .second, .val (.long p2), .second, .val (.long p3), .second, .val (.int p4), .val (.int p5), .val (.int W), .val (.ref a9), .val (.ref a48), .val (.ref a89), .val (.ref a131), .val (.ref a175), .val (.ref a221), .val (.ref a270), .val (.int r307), .val (.int r329), .unset] [])) (fun _ kk => XS.istore X339.here hx rfl (hb hby at_199) rfl (l' := #[.val (.long p0), .second, .val (.long p1), .second, .val (.long p2), .second, .val (.long p3), .second, .val (.int p4), .val (.int p5), .val (.int W), .val (.ref a9), .val (.ref a48), .val (.ref a89), .val (.ref a131), .val (.ref a175), .val (.ref a221), .val (.ref a270), .val (.int r307), .val (.int r329), .unset]) rfl kk) ?_
      refine own_st (G := T337.setTop (mkF m 203 #[.val (.long p0), .second, .val (.long p1), .second, .val (.long p2), .second, .val (.long p3), .second, .val (.int p4), .val (.int p5), .val (.int W), .val (.ref a9), .val (.ref a48), .val (.ref a89), .val (.ref a131), .val (.ref a175), .val (.ref a221), .val (.ref a270), .val (.int r307), .val (.int r329), .unset] [(.ref a270)])) (fun _ kk => XS.aload X339.here hx rfl (hb hby at_201) rfl rfl kk) ?_
      refine own_st (G := T337.setTop (mkF m 205 #[.val (.long p0), .second, .val (.long p1), .second, .val (.long p2), .second, .val (.long p3), .second, .val (.int p4), .val (.int p5), .val (.int W), .val (.ref a9), .val (.ref a48), .val (.ref a89), .val (.ref a131), .val (.ref a175), .val (.ref a221), .val (.ref a270), .val (.int r307), .val (.int r329), .unset] [(.ref a89), (.ref a270)])) (fun _ kk => XS.aload X339.here hx rfl (hb hby at_203) rfl rfl kk) ?_
      refine own_callV X339 hx hZ (y := (⟨"com/example/libbuchi/libbuchi/automata/PackedStates", "add", "([J)I"⟩ : MethodName)) (b := a270) (as' := [(.ref a89)]) hown (own_w hw 17 rfl) (own_w hw 18 rfl) (own_w hw 20 rfl) (own_w hw 19 rfl) (own_w hw 21 rfl) (own_w hw 3 rfl) (by decide) (own_add l Z a0 hw [] a270 a89 wa288 sa289 W k330 fw331 (own_f3 p2 p0 p1) fs332 T337.heap n0 ga gwa gsa (own_ne (by omega)) (own_ne (by omega)) (own_ne (by omega)) O333 Fw334 Fs335 F343 hW ⟨hK347.1, Int.le_trans hK347.2 (by decide)⟩ R336.2.1) (O333).1 0 (by decide) (by decide) (by decide) (by decide) (rest := []) (by rw [hml]; rfl) (lenOf (by decide : parseMethodDescriptor "([J)I" = some ⟨[.array (.long)], some (.int)⟩) rfl) rfl (Nat.le_of_eq rfl) (hb hby at_205) rfl ?_
      intro T361 L362 v364 X363 hQ
      obtain ⟨r353, k354, fw355, fs356, rfl, N351', K352, O357, Fw358, Fs359, R360⟩ := hQ
      show own_Out _ _ _ _ (T361.setTop (mkF m 208 #[.val (.long p0), .second, .val (.long p1), .second, .val (.long p2), .second, .val (.long p3), .second, .val (.int p4), .val (.int p5), .val (.int W), .val (.ref a9), .val (.ref a48), .val (.ref a89), .val (.ref a131), .val (.ref a175), .val (.ref a221), .val (.ref a270), .val (.int r307), .val (.int r329), .unset] [(.int r353)]))
      have N351 := Fr.app N327 N351'
      have F365 := own_AJ_keep F341 K352 (ninS (own_ne (by omega)) (ninS (own_ne (by omega)) (ninS (own_ne (by omega)) (nin0))))
      have F366 := own_AJ_keep F342 K352 (ninS (own_ne (by omega)) (ninS (own_ne (by omega)) (ninS (own_ne (by omega)) (nin0))))
      have F367 := own_AJ_keep F343 K352 (ninS (own_ne (by omega)) (ninS (own_ne (by omega)) (ninS (own_ne (by omega)) (nin0))))
      have F368 := own_AJ_keep F344 K352 (ninS (own_ne (by omega)) (ninS (own_ne (by omega)) (ninS (own_ne (by omega)) (nin0))))
      have F369 := own_AJ_keep F345 K352 (ninS (own_ne (by omega)) (ninS (own_ne (by omega)) (ninS (own_ne (by omega)) (nin0))))
      have F370 := own_AJ_keep F346 K352 (ninS (own_ne (by omega)) (ninS (own_ne (by omega)) (ninS (own_ne (by omega)) (nin0))))
      have hK371 : own_K k354 3 := own_K_succ hK347 (by decide) R360.1
      have hr372 := own_chain (k' := 0) hr348 lr349 R360.2.2.1
      have lr373 := Nat.lt_of_lt_of_le lr349 (own_kle hK347 (by decide) R360.1)
      have hr374 := own_chain (k' := 0) R336.2.2.2.2.2 R336.2.2.2.2.1 R360.2.2.1
      have lr375 := Nat.lt_of_lt_of_le R336.2.2.2.2.1 (own_kle hK347 (by decide) R360.1)
      have at376 := own_at_of hW R360.2.2.2.1
      refine own_st (G := T361.setTop (mkF m 210 #[.val (.long p0), .second, .val (.long p1), .second, .val (.long p2), .second, .val (.long p3), .second, .val (.int p4), .val (.int p5), .val (.int W), .val (.ref a9), .val (.ref a48), .val (.ref a89), .val (.ref a131), .val (.ref a175), .val (.ref a221), .val (.ref a270), .val (.int r307), .val (.int r329), .val (.int r353)] [])) (fun _ kk => XS.istore X363.here hx rfl (hb hby at_208) rfl (l' := #[.val (.long p0), .second, .val (.long p1), .second, .val (.long p2), .second, .val (.long p3), .second, .val (.int p4), .val (.int p5), .val (.int W), .val (.ref a9), .val (.ref a48), .val (.ref a89), .val (.ref a131), .val (.ref a175), .val (.ref a221), .val (.ref a270), .val (.int r307), .val (.int r329), .val (.int r353)]) rfl kk) ?_
      refine own_st (G := T361.setTop (mkF m 212 #[.val (.long p0), .second, .val (.long p1), .second, .val (.long p2), .second, .val (.long p3), .second, .val (.int p4), .val (.int p5), .val (.int W), .val (.ref a9), .val (.ref a48), .val (.ref a89), .val (.ref a131), .val (.ref a175), .val (.ref a221), .val (.ref a270), .val (.int r307), .val (.int r329), .val (.int r353)] [(.int p5)])) (fun _ kk => XS.iload X363.here hx rfl (hb hby at_210) rfl kk) ?_
      refine own_st (G := T361.setTop (mkF m 213 #[.val (.long p0), .second, .val (.long p1), .second, .val (.long p2), .second, .val (.long p3), .second, .val (.int p4), .val (.int p5), .val (.int W), .val (.ref a9), .val (.ref a48), .val (.ref a89), .val (.ref a131), .val (.ref a175), .val (.ref a221), .val (.ref a270), .val (.int r307), .val (.int r329), .val (.int r353)] [(.int (4 : Int32)), (.int p5)])) (fun _ kk => XT.iconstV X363.here hx rfl (4 : Int32) (hb hby at_212) (by decide) kk) ?_
      refine own_st (G := T361.setTop (mkF m 214 #[.val (.long p0), .second, .val (.long p1), .second, .val (.long p2), .second, .val (.long p3), .second, .val (.int p4), .val (.int p5), .val (.int W), .val (.ref a9), .val (.ref a48), .val (.ref a89), .val (.ref a131), .val (.ref a175), .val (.ref a221), .val (.ref a270), .val (.int r307), .val (.int r329), .val (.int r353)] [(.int (p5 &&& (4 : Int32)))])) (fun _ kk => XS.iand X363.here hx rfl (hb hby at_213) rfl kk) ?_
      by_cases hc377 : (p5 &&& (4 : Int32)) = (0 : Int32)
      · skip
        refine own_st (G := T361.setTop (mkF m 247 #[.val (.long p0), .second, .val (.long p1), .second, .val (.long p2), .second, .val (.long p3), .second, .val (.int p4), .val (.int p5), .val (.int W), .val (.ref a9), .val (.ref a48), .val (.ref a89), .val (.ref a131), .val (.ref a175), .val (.ref a221), .val (.ref a270), .val (.int r307), .val (.int r329), .val (.int r353)] [])) (fun _ kk => XS.ifYes X363.here hx rfl (pc0 := 214) (pc' := 247) rfl (hb hby at_214) rfl (XT.i0_eq_t hc377) (by decide) (by decide) kk) ?_
        refine own_st (G := T361.setTop (mkF m 249 #[.val (.long p0), .second, .val (.long p1), .second, .val (.long p2), .second, .val (.long p3), .second, .val (.int p4), .val (.int p5), .val (.int W), .val (.ref a9), .val (.ref a48), .val (.ref a89), .val (.ref a131), .val (.ref a175), .val (.ref a221), .val (.ref a270), .val (.int r307), .val (.int r329), .val (.int r353)] [(.ref a270)])) (fun _ kk => XS.aload X363.here hx rfl (hb hby at_247) rfl rfl kk) ?_
        refine own_st (G := T361.setTop (mkF m 251 #[.val (.long p0), .second, .val (.long p1), .second, .val (.long p2), .second, .val (.long p3), .second, .val (.int p4), .val (.int p5), .val (.int W), .val (.ref a9), .val (.ref a48), .val (.ref a89), .val (.ref a131), .val (.ref a175), .val (.ref a221), .val (.ref a270), .val (.int r307), .val (.int r329), .val (.int r353)] [(.int r307), (.ref a270)])) (fun _ kk => XS.iload X363.here hx rfl (hb hby at_249) rfl kk) ?_
        refine own_st (G := T361.setTop (mkF m 253 #[.val (.long p0), .second, .val (.long p1), .second, .val (.long p2), .second, .val (.long p3), .second, .val (.int p4), .val (.int p5), .val (.int W), .val (.ref a9), .val (.ref a48), .val (.ref a89), .val (.ref a131), .val (.ref a175), .val (.ref a221), .val (.ref a270), .val (.int r307), .val (.int r329), .val (.int r353)] [(.ref a131), (.int r307), (.ref a270)])) (fun _ kk => XS.aload X363.here hx rfl (hb hby at_251) rfl rfl kk) ?_
        refine own_callV X363 hx hZ (y := (⟨"com/example/libbuchi/libbuchi/automata/PackedStates", "get", "(I[J)V"⟩ : MethodName)) (b := a270) (as' := [(.int r307), (.ref a131)]) hown (own_w hw 34 rfl) (own_w hw 35 rfl) (own_w hw 37 rfl) (own_w hw 36 rfl) (own_w hw 38 rfl) (own_w hw 3 rfl) (by decide) (own_get l Z a0 hw [] r307 a270 a131 wa288 sa289 W k354 fw355 (own_f3 p3 p3 p3) T361.heap n0 gea131 O357 Fw358 F368 hW at326) (O357).1 0 (by decide) (by decide) (by decide) (by decide) (rest := []) (by rw [hml]; rfl) (lenOf (by decide : parseMethodDescriptor "(I[J)V" = some ⟨[.int, .array (.long)], none⟩) rfl) rfl (Nat.le_of_eq rfl) (hb hby at_253) rfl ?_
        intro T381 L382 v384 X383 hQ
        obtain ⟨rfl, N378', K379, F380⟩ := hQ
        show own_Out _ _ _ _ (T381.setTop (mkF m 256 #[.val (.long p0), .second, .val (.long p1), .second, .val (.long p2), .second, .val (.long p3), .second, .val (.int p4), .val (.int p5), .val (.int W), .val (.ref a9), .val (.ref a48), .val (.ref a89), .val (.ref a131), .val (.ref a175), .val (.ref a221), .val (.ref a270), .val (.int r307), .val (.int r329), .val (.int r353)] []))
        have N378 := Fr.app N351 N378'
        have F385 := own_AJ_keep F365 K379 (ninS (own_ne (by omega)) (nin0))
        have F386 := own_AJ_keep F366 K379 (ninS (own_ne (by omega)) (nin0))
        have F387 := own_AJ_keep F367 K379 (ninS (own_ne (by omega)) (nin0))
        have F388 := own_AJ_keep F369 K379 (ninS (own_ne (by omega)) (nin0))
        have F389 := own_AJ_keep F370 K379 (ninS (own_ne (by omega)) (nin0))
        have O390 := own_P_keep K379 (ninS (own_ne (by omega)) (nin0)) O357
        have Fw391 := own_AJ_keep Fw358 K379 (ninS (own_ne (by omega)) (nin0))
        obtain ⟨gf393, gq394⟩ : ∃ z : Nat → Int64, z = (fun i => if 0 ≤ i ∧ i < 0 + W.toNatClampNeg then fw355 (r307.toNatClampNeg * W.toNatClampNeg + (i - 0)) else (own_f3 p3 p3 p3) i) := ⟨_, rfl⟩
        rw [← gq394] at F380
        have hm392 := own_fin hW hr372 (sn := p3) rfl rfl rfl gf393 gq394
        refine own_st (G := T381.setTop (mkF m 258 #[.val (.long p0), .second, .val (.long p1), .second, .val (.long p2), .second, .val (.long p3), .second, .val (.int p4), .val (.int p5), .val (.int W), .val (.ref a9), .val (.ref a48), .val (.ref a89), .val (.ref a131), .val (.ref a175), .val (.ref a221), .val (.ref a270), .val (.int r307), .val (.int r329), .val (.int r353)] [(.ref a270)])) (fun _ kk => XS.aload X383.here hx rfl (hb hby at_256) rfl rfl kk) ?_
        refine own_st (G := T381.setTop (mkF m 260 #[.val (.long p0), .second, .val (.long p1), .second, .val (.long p2), .second, .val (.long p3), .second, .val (.int p4), .val (.int p5), .val (.int W), .val (.ref a9), .val (.ref a48), .val (.ref a89), .val (.ref a131), .val (.ref a175), .val (.ref a221), .val (.ref a270), .val (.int r307), .val (.int r329), .val (.int r353)] [(.int r329), (.ref a270)])) (fun _ kk => XS.iload X383.here hx rfl (hb hby at_258) rfl kk) ?_
        refine own_st (G := T381.setTop (mkF m 262 #[.val (.long p0), .second, .val (.long p1), .second, .val (.long p2), .second, .val (.long p3), .second, .val (.int p4), .val (.int p5), .val (.int W), .val (.ref a9), .val (.ref a48), .val (.ref a89), .val (.ref a131), .val (.ref a175), .val (.ref a221), .val (.ref a270), .val (.int r307), .val (.int r329), .val (.int r353)] [(.ref a175), (.int r329), (.ref a270)])) (fun _ kk => XS.aload X383.here hx rfl (hb hby at_260) rfl rfl kk) ?_
        refine own_callV X383 hx hZ (y := (⟨"com/example/libbuchi/libbuchi/automata/PackedStates", "get", "(I[J)V"⟩ : MethodName)) (b := a270) (as' := [(.int r329), (.ref a175)]) hown (own_w hw 34 rfl) (own_w hw 35 rfl) (own_w hw 37 rfl) (own_w hw 36 rfl) (own_w hw 38 rfl) (own_w hw 3 rfl) (by decide) (own_get l Z a0 hw [] r329 a270 a175 wa288 sa289 W k354 fw355 (own_f3 p3 p3 p3) T381.heap n0 gea175 O390 Fw391 F388 hW at350) (O390).1 0 (by decide) (by decide) (by decide) (by decide) (rest := []) (by rw [hml]; rfl) (lenOf (by decide : parseMethodDescriptor "(I[J)V" = some ⟨[.int, .array (.long)], none⟩) rfl) rfl (Nat.le_of_eq rfl) (hb hby at_262) rfl ?_
        intro T398 L399 v401 X400 hQ
        obtain ⟨rfl, N395', K396, F397⟩ := hQ
        show own_Out _ _ _ _ (T398.setTop (mkF m 265 #[.val (.long p0), .second, .val (.long p1), .second, .val (.long p2), .second, .val (.long p3), .second, .val (.int p4), .val (.int p5), .val (.int W), .val (.ref a9), .val (.ref a48), .val (.ref a89), .val (.ref a131), .val (.ref a175), .val (.ref a221), .val (.ref a270), .val (.int r307), .val (.int r329), .val (.int r353)] []))
        have N395 := Fr.app N378 N395'
        have F402 := own_AJ_keep F385 K396 (ninS (own_ne (by omega)) (nin0))
        have F403 := own_AJ_keep F386 K396 (ninS (own_ne (by omega)) (nin0))
        have F404 := own_AJ_keep F387 K396 (ninS (own_ne (by omega)) (nin0))
        have F405 := own_AJ_keep F380 K396 (ninS (own_ne (by omega)) (nin0))
        have F406 := own_AJ_keep F389 K396 (ninS (own_ne (by omega)) (nin0))
        have O407 := own_P_keep K396 (ninS (own_ne (by omega)) (nin0)) O390
        have Fw408 := own_AJ_keep Fw391 K396 (ninS (own_ne (by omega)) (nin0))
        obtain ⟨gf410, gq411⟩ : ∃ z : Nat → Int64, z = (fun i => if 0 ≤ i ∧ i < 0 + W.toNatClampNeg then fw355 (r329.toNatClampNeg * W.toNatClampNeg + (i - 0)) else (own_f3 p3 p3 p3) i) := ⟨_, rfl⟩
        rw [← gq411] at F397
        have hm409 := own_fin hW hr374 (sn := p3) rfl rfl rfl gf410 gq411
        refine own_st (G := T398.setTop (mkF m 267 #[.val (.long p0), .second, .val (.long p1), .second, .val (.long p2), .second, .val (.long p3), .second, .val (.int p4), .val (.int p5), .val (.int W), .val (.ref a9), .val (.ref a48), .val (.ref a89), .val (.ref a131), .val (.ref a175), .val (.ref a221), .val (.ref a270), .val (.int r307), .val (.int r329), .val (.int r353)] [(.ref a270)])) (fun _ kk => XS.aload X400.here hx rfl (hb hby at_265) rfl rfl kk) ?_
        refine own_st (G := T398.setTop (mkF m 269 #[.val (.long p0), .second, .val (.long p1), .second, .val (.long p2), .second, .val (.long p3), .second, .val (.int p4), .val (.int p5), .val (.int W), .val (.ref a9), .val (.ref a48), .val (.ref a89), .val (.ref a131), .val (.ref a175), .val (.ref a221), .val (.ref a270), .val (.int r307), .val (.int r329), .val (.int r353)] [(.int r353), (.ref a270)])) (fun _ kk => XS.iload X400.here hx rfl (hb hby at_267) rfl kk) ?_
        refine own_st (G := T398.setTop (mkF m 271 #[.val (.long p0), .second, .val (.long p1), .second, .val (.long p2), .second, .val (.long p3), .second, .val (.int p4), .val (.int p5), .val (.int W), .val (.ref a9), .val (.ref a48), .val (.ref a89), .val (.ref a131), .val (.ref a175), .val (.ref a221), .val (.ref a270), .val (.int r307), .val (.int r329), .val (.int r353)] [(.ref a221), (.int r353), (.ref a270)])) (fun _ kk => XS.aload X400.here hx rfl (hb hby at_269) rfl rfl kk) ?_
        refine own_callV X400 hx hZ (y := (⟨"com/example/libbuchi/libbuchi/automata/PackedStates", "get", "(I[J)V"⟩ : MethodName)) (b := a270) (as' := [(.int r353), (.ref a221)]) hown (own_w hw 34 rfl) (own_w hw 35 rfl) (own_w hw 37 rfl) (own_w hw 36 rfl) (own_w hw 38 rfl) (own_w hw 3 rfl) (by decide) (own_get l Z a0 hw [] r353 a270 a221 wa288 sa289 W k354 fw355 (own_f3 p3 p3 p3) T398.heap n0 gea221 O407 Fw408 F406 hW at376) (O407).1 0 (by decide) (by decide) (by decide) (by decide) (rest := []) (by rw [hml]; rfl) (lenOf (by decide : parseMethodDescriptor "(I[J)V" = some ⟨[.int, .array (.long)], none⟩) rfl) rfl (Nat.le_of_eq rfl) (hb hby at_271) rfl ?_
        intro T415 L416 v418 X417 hQ
        obtain ⟨rfl, N412', K413, F414⟩ := hQ
        show own_Out _ _ _ _ (T415.setTop (mkF m 274 #[.val (.long p0), .second, .val (.long p1), .second, .val (.long p2), .second, .val (.long p3), .second, .val (.int p4), .val (.int p5), .val (.int W), .val (.ref a9), .val (.ref a48), .val (.ref a89), .val (.ref a131), .val (.ref a175), .val (.ref a221), .val (.ref a270), .val (.int r307), .val (.int r329), .val (.int r353)] []))
        have N412 := Fr.app N395 N412'
        have F419 := own_AJ_keep F402 K413 (ninS (own_ne (by omega)) (nin0))
        have F420 := own_AJ_keep F403 K413 (ninS (own_ne (by omega)) (nin0))
        have F421 := own_AJ_keep F404 K413 (ninS (own_ne (by omega)) (nin0))
        have F422 := own_AJ_keep F405 K413 (ninS (own_ne (by omega)) (nin0))
        have F423 := own_AJ_keep F397 K413 (ninS (own_ne (by omega)) (nin0))
        have O424 := own_P_keep K413 (ninS (own_ne (by omega)) (nin0)) O407
        have Fw425 := own_AJ_keep Fw408 K413 (ninS (own_ne (by omega)) (nin0))
        obtain ⟨gf427, gq428⟩ : ∃ z : Nat → Int64, z = (fun i => if 0 ≤ i ∧ i < 0 + W.toNatClampNeg then fw355 (r353.toNatClampNeg * W.toNatClampNeg + (i - 0)) else (own_f3 p3 p3 p3) i) := ⟨_, rfl⟩
        rw [← gq428] at F414
        have hm426 := own_fin hW R360.2.2.2.2.2 (sn := p3) rfl rfl rfl gf427 gq428
        refine own_st (G := T415.setTop (mkF m 276 #[.val (.long p0), .second, .val (.long p1), .second, .val (.long p2), .second, .val (.long p3), .second, .val (.int p4), .val (.int p5), .val (.int W), .val (.ref a9), .val (.ref a48), .val (.ref a89), .val (.ref a131), .val (.ref a175), .val (.ref a221), .val (.ref a270), .val (.int r307), .val (.int r329), .val (.int r353)] [(.ref a131)])) (fun _ kk => XS.aload X417.here hx rfl (hb hby at_274) rfl rfl kk) ?_
        refine own_st (G := T415.setTop (mkF m 278 #[.val (.long p0), .second, .val (.long p1), .second, .val (.long p2), .second, .val (.long p3), .second, .val (.int p4), .val (.int p5), .val (.int W), .val (.ref a9), .val (.ref a48), .val (.ref a89), .val (.ref a131), .val (.ref a175), .val (.ref a221), .val (.ref a270), .val (.int r307), .val (.int r329), .val (.int r353)] [(.ref a9), (.ref a131)])) (fun _ kk => XS.aload X417.here hx rfl (hb hby at_276) rfl rfl kk) ?_
        refine own_st (G := T415.setTop (mkF m 280 #[.val (.long p0), .second, .val (.long p1), .second, .val (.long p2), .second, .val (.long p3), .second, .val (.int p4), .val (.int p5), .val (.int W), .val (.ref a9), .val (.ref a48), .val (.ref a89), .val (.ref a131), .val (.ref a175), .val (.ref a221), .val (.ref a270), .val (.int r307), .val (.int r329), .val (.int r353)] [(.int W), (.ref a9), (.ref a131)])) (fun _ kk => XS.iload X417.here hx rfl (hb hby at_278) rfl kk) ?_
        refine own_st (G := T415.setTop (mkF m 282 #[.val (.long p0), .second, .val (.long p1), .second, .val (.long p2), .second, .val (.long p3), .second, .val (.int p4), .val (.int p5), .val (.int W), .val (.ref a9), .val (.ref a48), .val (.ref a89), .val (.ref a131), .val (.ref a175), .val (.ref a221), .val (.ref a270), .val (.int r307), .val (.int r329), .val (.int r353)] [(.long p3), (.int W), (.ref a9), (.ref a131)])) (fun _ kk => XS.lload X417.here hx rfl (hb hby at_280) rfl kk) ?_
        refine own_callS X417 hx hZ (y := (⟨"com/example/libbuchi/libbuchi/automata/PackedStatesGetPinLaw", "matches", "([J[JIJ)Z"⟩ : MethodName)) (as' := [(.ref a131), (.ref a9), (.int W), (.long p3)]) hown (own_w hw 39 rfl) (own_w hw 40 rfl) (own_w hw 41 rfl) (own_w hw 42 rfl) (by decide) (own_mat l Z a0 hw [] W p3 a131 a9 gf393 (own_f3 p0 p1 p2) T415.heap n0 F422 F419 hm392.1 hm392.2.1 hm392.2.2) 0 (by decide) (by decide) (by decide) (by decide) (rest := []) (by rw [hml]; rfl) (lenOf (by decide : parseMethodDescriptor "([J[JIJ)Z" = some ⟨[.array (.long), .array (.long), .int, .long], some (.boolean)⟩) rfl) rfl (Nat.le_of_eq rfl) (hb hby at_282) rfl ?_
        intro T432 L433 v435 X434 hQ
        obtain ⟨rfl, rfl, eq431⟩ := hQ
        show own_Out _ _ _ _ (T432.setTop (mkF m 285 #[.val (.long p0), .second, .val (.long p1), .second, .val (.long p2), .second, .val (.long p3), .second, .val (.int p4), .val (.int p5), .val (.int W), .val (.ref a9), .val (.ref a48), .val (.ref a89), .val (.ref a131), .val (.ref a175), .val (.ref a221), .val (.ref a270), .val (.int r307), .val (.int r329), .val (.int r353)] [(.int (1 : Int32))]))
        have N429 := Fr.app N412 (Fr.nil n0)
        refine own_st (G := T432.setTop (mkF m 288 #[.val (.long p0), .second, .val (.long p1), .second, .val (.long p2), .second, .val (.long p3), .second, .val (.int p4), .val (.int p5), .val (.int W), .val (.ref a9), .val (.ref a48), .val (.ref a89), .val (.ref a131), .val (.ref a175), .val (.ref a221), .val (.ref a270), .val (.int r307), .val (.int r329), .val (.int r353)] [])) (fun _ kk => XS.ifNo X434.here hx rfl (hb hby at_285) rfl (XT.i0_eq_f (by decide : ¬ (1 : Int32) = (0 : Int32))) kk) ?_
        refine own_st (G := T432.setTop (mkF m 290 #[.val (.long p0), .second, .val (.long p1), .second, .val (.long p2), .second, .val (.long p3), .second, .val (.int p4), .val (.int p5), .val (.int W), .val (.ref a9), .val (.ref a48), .val (.ref a89), .val (.ref a131), .val (.ref a175), .val (.ref a221), .val (.ref a270), .val (.int r307), .val (.int r329), .val (.int r353)] [(.ref a175)])) (fun _ kk => XS.aload X434.here hx rfl (hb hby at_288) rfl rfl kk) ?_
        refine own_st (G := T432.setTop (mkF m 292 #[.val (.long p0), .second, .val (.long p1), .second, .val (.long p2), .second, .val (.long p3), .second, .val (.int p4), .val (.int p5), .val (.int W), .val (.ref a9), .val (.ref a48), .val (.ref a89), .val (.ref a131), .val (.ref a175), .val (.ref a221), .val (.ref a270), .val (.int r307), .val (.int r329), .val (.int r353)] [(.ref a48), (.ref a175)])) (fun _ kk => XS.aload X434.here hx rfl (hb hby at_290) rfl rfl kk) ?_
        refine own_st (G := T432.setTop (mkF m 294 #[.val (.long p0), .second, .val (.long p1), .second, .val (.long p2), .second, .val (.long p3), .second, .val (.int p4), .val (.int p5), .val (.int W), .val (.ref a9), .val (.ref a48), .val (.ref a89), .val (.ref a131), .val (.ref a175), .val (.ref a221), .val (.ref a270), .val (.int r307), .val (.int r329), .val (.int r353)] [(.int W), (.ref a48), (.ref a175)])) (fun _ kk => XS.iload X434.here hx rfl (hb hby at_292) rfl kk) ?_
        refine own_st (G := T432.setTop (mkF m 296 #[.val (.long p0), .second, .val (.long p1), .second, .val (.long p2), .second, .val (.long p3), .second, .val (.int p4), .val (.int p5), .val (.int W), .val (.ref a9), .val (.ref a48), .val (.ref a89), .val (.ref a131), .val (.ref a175), .val (.ref a221), .val (.ref a270), .val (.int r307), .val (.int r329), .val (.int r353)] [(.long p3), (.int W), (.ref a48), (.ref a175)])) (fun _ kk => XS.lload X434.here hx rfl (hb hby at_294) rfl kk) ?_
        refine own_callS X434 hx hZ (y := (⟨"com/example/libbuchi/libbuchi/automata/PackedStatesGetPinLaw", "matches", "([J[JIJ)Z"⟩ : MethodName)) (as' := [(.ref a175), (.ref a48), (.int W), (.long p3)]) hown (own_w hw 39 rfl) (own_w hw 40 rfl) (own_w hw 41 rfl) (own_w hw 42 rfl) (by decide) (own_mat l Z a0 hw [] W p3 a175 a48 gf410 (own_f3 p1 p2 p0) T415.heap n0 F423 F420 hm409.1 hm409.2.1 hm409.2.2) 0 (by decide) (by decide) (by decide) (by decide) (rest := []) (by rw [hml]; rfl) (lenOf (by decide : parseMethodDescriptor "([J[JIJ)Z" = some ⟨[.array (.long), .array (.long), .int, .long], some (.boolean)⟩) rfl) rfl (Nat.le_of_eq rfl) (hb hby at_296) eq431 ?_
        intro T439 L440 v442 X441 hQ
        obtain ⟨rfl, rfl, eq438⟩ := hQ
        show own_Out _ _ _ _ (T439.setTop (mkF m 299 #[.val (.long p0), .second, .val (.long p1), .second, .val (.long p2), .second, .val (.long p3), .second, .val (.int p4), .val (.int p5), .val (.int W), .val (.ref a9), .val (.ref a48), .val (.ref a89), .val (.ref a131), .val (.ref a175), .val (.ref a221), .val (.ref a270), .val (.int r307), .val (.int r329), .val (.int r353)] [(.int (1 : Int32))]))
        have N436 := Fr.app N429 (Fr.nil n0)
        refine own_st (G := T439.setTop (mkF m 302 #[.val (.long p0), .second, .val (.long p1), .second, .val (.long p2), .second, .val (.long p3), .second, .val (.int p4), .val (.int p5), .val (.int W), .val (.ref a9), .val (.ref a48), .val (.ref a89), .val (.ref a131), .val (.ref a175), .val (.ref a221), .val (.ref a270), .val (.int r307), .val (.int r329), .val (.int r353)] [])) (fun _ kk => XS.ifNo X441.here hx rfl (hb hby at_299) rfl (XT.i0_eq_f (by decide : ¬ (1 : Int32) = (0 : Int32))) kk) ?_
        refine own_st (G := T439.setTop (mkF m 304 #[.val (.long p0), .second, .val (.long p1), .second, .val (.long p2), .second, .val (.long p3), .second, .val (.int p4), .val (.int p5), .val (.int W), .val (.ref a9), .val (.ref a48), .val (.ref a89), .val (.ref a131), .val (.ref a175), .val (.ref a221), .val (.ref a270), .val (.int r307), .val (.int r329), .val (.int r353)] [(.ref a221)])) (fun _ kk => XS.aload X441.here hx rfl (hb hby at_302) rfl rfl kk) ?_
        refine own_st (G := T439.setTop (mkF m 306 #[.val (.long p0), .second, .val (.long p1), .second, .val (.long p2), .second, .val (.long p3), .second, .val (.int p4), .val (.int p5), .val (.int W), .val (.ref a9), .val (.ref a48), .val (.ref a89), .val (.ref a131), .val (.ref a175), .val (.ref a221), .val (.ref a270), .val (.int r307), .val (.int r329), .val (.int r353)] [(.ref a89), (.ref a221)])) (fun _ kk => XS.aload X441.here hx rfl (hb hby at_304) rfl rfl kk) ?_
        refine own_st (G := T439.setTop (mkF m 308 #[.val (.long p0), .second, .val (.long p1), .second, .val (.long p2), .second, .val (.long p3), .second, .val (.int p4), .val (.int p5), .val (.int W), .val (.ref a9), .val (.ref a48), .val (.ref a89), .val (.ref a131), .val (.ref a175), .val (.ref a221), .val (.ref a270), .val (.int r307), .val (.int r329), .val (.int r353)] [(.int W), (.ref a89), (.ref a221)])) (fun _ kk => XS.iload X441.here hx rfl (hb hby at_306) rfl kk) ?_
        refine own_st (G := T439.setTop (mkF m 310 #[.val (.long p0), .second, .val (.long p1), .second, .val (.long p2), .second, .val (.long p3), .second, .val (.int p4), .val (.int p5), .val (.int W), .val (.ref a9), .val (.ref a48), .val (.ref a89), .val (.ref a131), .val (.ref a175), .val (.ref a221), .val (.ref a270), .val (.int r307), .val (.int r329), .val (.int r353)] [(.long p3), (.int W), (.ref a89), (.ref a221)])) (fun _ kk => XS.lload X441.here hx rfl (hb hby at_308) rfl kk) ?_
        refine own_callS X441 hx hZ (y := (⟨"com/example/libbuchi/libbuchi/automata/PackedStatesGetPinLaw", "matches", "([J[JIJ)Z"⟩ : MethodName)) (as' := [(.ref a221), (.ref a89), (.int W), (.long p3)]) hown (own_w hw 39 rfl) (own_w hw 40 rfl) (own_w hw 41 rfl) (own_w hw 42 rfl) (by decide) (own_mat l Z a0 hw [] W p3 a221 a89 gf427 (own_f3 p2 p0 p1) T415.heap n0 F414 F421 hm426.1 hm426.2.1 hm426.2.2) 0 (by decide) (by decide) (by decide) (by decide) (rest := []) (by rw [hml]; rfl) (lenOf (by decide : parseMethodDescriptor "([J[JIJ)Z" = some ⟨[.array (.long), .array (.long), .int, .long], some (.boolean)⟩) rfl) rfl (Nat.le_of_eq rfl) (hb hby at_310) eq438 ?_
        intro T446 L447 v449 X448 hQ
        obtain ⟨rfl, rfl, eq445⟩ := hQ
        show own_Out _ _ _ _ (T446.setTop (mkF m 313 #[.val (.long p0), .second, .val (.long p1), .second, .val (.long p2), .second, .val (.long p3), .second, .val (.int p4), .val (.int p5), .val (.int W), .val (.ref a9), .val (.ref a48), .val (.ref a89), .val (.ref a131), .val (.ref a175), .val (.ref a221), .val (.ref a270), .val (.int r307), .val (.int r329), .val (.int r353)] [(.int (1 : Int32))]))
        have N443 := Fr.app N436 (Fr.nil n0)
        refine own_st (G := T446.setTop (mkF m 316 #[.val (.long p0), .second, .val (.long p1), .second, .val (.long p2), .second, .val (.long p3), .second, .val (.int p4), .val (.int p5), .val (.int W), .val (.ref a9), .val (.ref a48), .val (.ref a89), .val (.ref a131), .val (.ref a175), .val (.ref a221), .val (.ref a270), .val (.int r307), .val (.int r329), .val (.int r353)] [])) (fun _ kk => XS.ifNo X448.here hx rfl (hb hby at_313) rfl (XT.i0_eq_f (by decide : ¬ (1 : Int32) = (0 : Int32))) kk) ?_
        refine own_st (G := T446.setTop (mkF m 317 #[.val (.long p0), .second, .val (.long p1), .second, .val (.long p2), .second, .val (.long p3), .second, .val (.int p4), .val (.int p5), .val (.int W), .val (.ref a9), .val (.ref a48), .val (.ref a89), .val (.ref a131), .val (.ref a175), .val (.ref a221), .val (.ref a270), .val (.int r307), .val (.int r329), .val (.int r353)] [(.int (1 : Int32))])) (fun _ kk => XT.iconstV X448.here hx rfl (1 : Int32) (hb hby at_316) (by decide) kk) ?_
        refine own_st (G := T446.setTop (mkF m 321 #[.val (.long p0), .second, .val (.long p1), .second, .val (.long p2), .second, .val (.long p3), .second, .val (.int p4), .val (.int p5), .val (.int W), .val (.ref a9), .val (.ref a48), .val (.ref a89), .val (.ref a131), .val (.ref a175), .val (.ref a221), .val (.ref a270), .val (.int r307), .val (.int r329), .val (.int r353)] [(.int (1 : Int32))])) (fun _ kk => XS.goto X448.here hx rfl (pc0 := 317) (pc' := 321) rfl (hb hby at_317) (by decide) (by decide) kk) ?_
        refine own_retB X448 hx hret (by simp) hlk (hb hby at_321) (by decide) (by decide) ?_
        exact ⟨rfl, N443⟩
      · skip
        refine own_st (G := T361.setTop (mkF m 217 #[.val (.long p0), .second, .val (.long p1), .second, .val (.long p2), .second, .val (.long p3), .second, .val (.int p4), .val (.int p5), .val (.int W), .val (.ref a9), .val (.ref a48), .val (.ref a89), .val (.ref a131), .val (.ref a175), .val (.ref a221), .val (.ref a270), .val (.int r307), .val (.int r329), .val (.int r353)] [])) (fun _ kk => XS.ifNo X363.here hx rfl (hb hby at_214) rfl (XT.i0_eq_f hc377) kk) ?_
        refine own_st (G := T361.setTop (mkF m 219 #[.val (.long p0), .second, .val (.long p1), .second, .val (.long p2), .second, .val (.long p3), .second, .val (.int p4), .val (.int p5), .val (.int W), .val (.ref a9), .val (.ref a48), .val (.ref a89), .val (.ref a131), .val (.ref a175), .val (.ref a221), .val (.ref a270), .val (.int r307), .val (.int r329), .val (.int r353)] [(.ref a270)])) (fun _ kk => XS.aload X363.here hx rfl (hb hby at_217) rfl rfl kk) ?_
        refine own_st (G := T361.setTop (mkF m 221 #[.val (.long p0), .second, .val (.long p1), .second, .val (.long p2), .second, .val (.long p3), .second, .val (.int p4), .val (.int p5), .val (.int W), .val (.ref a9), .val (.ref a48), .val (.ref a89), .val (.ref a131), .val (.ref a175), .val (.ref a221), .val (.ref a270), .val (.int r307), .val (.int r329), .val (.int r353)] [(.int r353), (.ref a270)])) (fun _ kk => XS.iload X363.here hx rfl (hb hby at_219) rfl kk) ?_
        refine own_st (G := T361.setTop (mkF m 223 #[.val (.long p0), .second, .val (.long p1), .second, .val (.long p2), .second, .val (.long p3), .second, .val (.int p4), .val (.int p5), .val (.int W), .val (.ref a9), .val (.ref a48), .val (.ref a89), .val (.ref a131), .val (.ref a175), .val (.ref a221), .val (.ref a270), .val (.int r307), .val (.int r329), .val (.int r353)] [(.ref a221), (.int r353), (.ref a270)])) (fun _ kk => XS.aload X363.here hx rfl (hb hby at_221) rfl rfl kk) ?_
        refine own_callV X363 hx hZ (y := (⟨"com/example/libbuchi/libbuchi/automata/PackedStates", "get", "(I[J)V"⟩ : MethodName)) (b := a270) (as' := [(.int r353), (.ref a221)]) hown (own_w hw 34 rfl) (own_w hw 35 rfl) (own_w hw 37 rfl) (own_w hw 36 rfl) (own_w hw 38 rfl) (own_w hw 3 rfl) (by decide) (own_get l Z a0 hw [] r353 a270 a221 wa288 sa289 W k354 fw355 (own_f3 p3 p3 p3) T361.heap n0 gea221 O357 Fw358 F370 hW at376) (O357).1 0 (by decide) (by decide) (by decide) (by decide) (rest := []) (by rw [hml]; rfl) (lenOf (by decide : parseMethodDescriptor "(I[J)V" = some ⟨[.int, .array (.long)], none⟩) rfl) rfl (Nat.le_of_eq rfl) (hb hby at_223) rfl ?_
        intro T453 L454 v456 X455 hQ
        obtain ⟨rfl, N450', K451, F452⟩ := hQ
        show own_Out _ _ _ _ (T453.setTop (mkF m 226 #[.val (.long p0), .second, .val (.long p1), .second, .val (.long p2), .second, .val (.long p3), .second, .val (.int p4), .val (.int p5), .val (.int W), .val (.ref a9), .val (.ref a48), .val (.ref a89), .val (.ref a131), .val (.ref a175), .val (.ref a221), .val (.ref a270), .val (.int r307), .val (.int r329), .val (.int r353)] []))
        have N450 := Fr.app N351 N450'
        have F457 := own_AJ_keep F365 K451 (ninS (own_ne (by omega)) (nin0))
        have F458 := own_AJ_keep F366 K451 (ninS (own_ne (by omega)) (nin0))
        have F459 := own_AJ_keep F367 K451 (ninS (own_ne (by omega)) (nin0))
        have F460 := own_AJ_keep F368 K451 (ninS (own_ne (by omega)) (nin0))
        have F461 := own_AJ_keep F369 K451 (ninS (own_ne (by omega)) (nin0))
        have O462 := own_P_keep K451 (ninS (own_ne (by omega)) (nin0)) O357
        have Fw463 := own_AJ_keep Fw358 K451 (ninS (own_ne (by omega)) (nin0))
        obtain ⟨gf465, gq466⟩ : ∃ z : Nat → Int64, z = (fun i => if 0 ≤ i ∧ i < 0 + W.toNatClampNeg then fw355 (r353.toNatClampNeg * W.toNatClampNeg + (i - 0)) else (own_f3 p3 p3 p3) i) := ⟨_, rfl⟩
        rw [← gq466] at F452
        have hm464 := own_fin hW R360.2.2.2.2.2 (sn := p3) rfl rfl rfl gf465 gq466
        refine own_st (G := T453.setTop (mkF m 228 #[.val (.long p0), .second, .val (.long p1), .second, .val (.long p2), .second, .val (.long p3), .second, .val (.int p4), .val (.int p5), .val (.int W), .val (.ref a9), .val (.ref a48), .val (.ref a89), .val (.ref a131), .val (.ref a175), .val (.ref a221), .val (.ref a270), .val (.int r307), .val (.int r329), .val (.int r353)] [(.ref a270)])) (fun _ kk => XS.aload X455.here hx rfl (hb hby at_226) rfl rfl kk) ?_
        refine own_st (G := T453.setTop (mkF m 230 #[.val (.long p0), .second, .val (.long p1), .second, .val (.long p2), .second, .val (.long p3), .second, .val (.int p4), .val (.int p5), .val (.int W), .val (.ref a9), .val (.ref a48), .val (.ref a89), .val (.ref a131), .val (.ref a175), .val (.ref a221), .val (.ref a270), .val (.int r307), .val (.int r329), .val (.int r353)] [(.int r329), (.ref a270)])) (fun _ kk => XS.iload X455.here hx rfl (hb hby at_228) rfl kk) ?_
        refine own_st (G := T453.setTop (mkF m 232 #[.val (.long p0), .second, .val (.long p1), .second, .val (.long p2), .second, .val (.long p3), .second, .val (.int p4), .val (.int p5), .val (.int W), .val (.ref a9), .val (.ref a48), .val (.ref a89), .val (.ref a131), .val (.ref a175), .val (.ref a221), .val (.ref a270), .val (.int r307), .val (.int r329), .val (.int r353)] [(.ref a175), (.int r329), (.ref a270)])) (fun _ kk => XS.aload X455.here hx rfl (hb hby at_230) rfl rfl kk) ?_
        refine own_callV X455 hx hZ (y := (⟨"com/example/libbuchi/libbuchi/automata/PackedStates", "get", "(I[J)V"⟩ : MethodName)) (b := a270) (as' := [(.int r329), (.ref a175)]) hown (own_w hw 34 rfl) (own_w hw 35 rfl) (own_w hw 37 rfl) (own_w hw 36 rfl) (own_w hw 38 rfl) (own_w hw 3 rfl) (by decide) (own_get l Z a0 hw [] r329 a270 a175 wa288 sa289 W k354 fw355 (own_f3 p3 p3 p3) T453.heap n0 gea175 O462 Fw463 F461 hW at350) (O462).1 0 (by decide) (by decide) (by decide) (by decide) (rest := []) (by rw [hml]; rfl) (lenOf (by decide : parseMethodDescriptor "(I[J)V" = some ⟨[.int, .array (.long)], none⟩) rfl) rfl (Nat.le_of_eq rfl) (hb hby at_232) rfl ?_
        intro T470 L471 v473 X472 hQ
        obtain ⟨rfl, N467', K468, F469⟩ := hQ
        show own_Out _ _ _ _ (T470.setTop (mkF m 235 #[.val (.long p0), .second, .val (.long p1), .second, .val (.long p2), .second, .val (.long p3), .second, .val (.int p4), .val (.int p5), .val (.int W), .val (.ref a9), .val (.ref a48), .val (.ref a89), .val (.ref a131), .val (.ref a175), .val (.ref a221), .val (.ref a270), .val (.int r307), .val (.int r329), .val (.int r353)] []))
        have N467 := Fr.app N450 N467'
        have F474 := own_AJ_keep F457 K468 (ninS (own_ne (by omega)) (nin0))
        have F475 := own_AJ_keep F458 K468 (ninS (own_ne (by omega)) (nin0))
        have F476 := own_AJ_keep F459 K468 (ninS (own_ne (by omega)) (nin0))
        have F477 := own_AJ_keep F460 K468 (ninS (own_ne (by omega)) (nin0))
        have F478 := own_AJ_keep F452 K468 (ninS (own_ne (by omega)) (nin0))
        have O479 := own_P_keep K468 (ninS (own_ne (by omega)) (nin0)) O462
        have Fw480 := own_AJ_keep Fw463 K468 (ninS (own_ne (by omega)) (nin0))
        obtain ⟨gf482, gq483⟩ : ∃ z : Nat → Int64, z = (fun i => if 0 ≤ i ∧ i < 0 + W.toNatClampNeg then fw355 (r329.toNatClampNeg * W.toNatClampNeg + (i - 0)) else (own_f3 p3 p3 p3) i) := ⟨_, rfl⟩
        rw [← gq483] at F469
        have hm481 := own_fin hW hr374 (sn := p3) rfl rfl rfl gf482 gq483
        refine own_st (G := T470.setTop (mkF m 237 #[.val (.long p0), .second, .val (.long p1), .second, .val (.long p2), .second, .val (.long p3), .second, .val (.int p4), .val (.int p5), .val (.int W), .val (.ref a9), .val (.ref a48), .val (.ref a89), .val (.ref a131), .val (.ref a175), .val (.ref a221), .val (.ref a270), .val (.int r307), .val (.int r329), .val (.int r353)] [(.ref a270)])) (fun _ kk => XS.aload X472.here hx rfl (hb hby at_235) rfl rfl kk) ?_
        refine own_st (G := T470.setTop (mkF m 239 #[.val (.long p0), .second, .val (.long p1), .second, .val (.long p2), .second, .val (.long p3), .second, .val (.int p4), .val (.int p5), .val (.int W), .val (.ref a9), .val (.ref a48), .val (.ref a89), .val (.ref a131), .val (.ref a175), .val (.ref a221), .val (.ref a270), .val (.int r307), .val (.int r329), .val (.int r353)] [(.int r307), (.ref a270)])) (fun _ kk => XS.iload X472.here hx rfl (hb hby at_237) rfl kk) ?_
        refine own_st (G := T470.setTop (mkF m 241 #[.val (.long p0), .second, .val (.long p1), .second, .val (.long p2), .second, .val (.long p3), .second, .val (.int p4), .val (.int p5), .val (.int W), .val (.ref a9), .val (.ref a48), .val (.ref a89), .val (.ref a131), .val (.ref a175), .val (.ref a221), .val (.ref a270), .val (.int r307), .val (.int r329), .val (.int r353)] [(.ref a131), (.int r307), (.ref a270)])) (fun _ kk => XS.aload X472.here hx rfl (hb hby at_239) rfl rfl kk) ?_
        refine own_callV X472 hx hZ (y := (⟨"com/example/libbuchi/libbuchi/automata/PackedStates", "get", "(I[J)V"⟩ : MethodName)) (b := a270) (as' := [(.int r307), (.ref a131)]) hown (own_w hw 34 rfl) (own_w hw 35 rfl) (own_w hw 37 rfl) (own_w hw 36 rfl) (own_w hw 38 rfl) (own_w hw 3 rfl) (by decide) (own_get l Z a0 hw [] r307 a270 a131 wa288 sa289 W k354 fw355 (own_f3 p3 p3 p3) T470.heap n0 gea131 O479 Fw480 F477 hW at326) (O479).1 0 (by decide) (by decide) (by decide) (by decide) (rest := []) (by rw [hml]; rfl) (lenOf (by decide : parseMethodDescriptor "(I[J)V" = some ⟨[.int, .array (.long)], none⟩) rfl) rfl (Nat.le_of_eq rfl) (hb hby at_241) rfl ?_
        intro T487 L488 v490 X489 hQ
        obtain ⟨rfl, N484', K485, F486⟩ := hQ
        show own_Out _ _ _ _ (T487.setTop (mkF m 244 #[.val (.long p0), .second, .val (.long p1), .second, .val (.long p2), .second, .val (.long p3), .second, .val (.int p4), .val (.int p5), .val (.int W), .val (.ref a9), .val (.ref a48), .val (.ref a89), .val (.ref a131), .val (.ref a175), .val (.ref a221), .val (.ref a270), .val (.int r307), .val (.int r329), .val (.int r353)] []))
        have N484 := Fr.app N467 N484'
        have F491 := own_AJ_keep F474 K485 (ninS (own_ne (by omega)) (nin0))
        have F492 := own_AJ_keep F475 K485 (ninS (own_ne (by omega)) (nin0))
        have F493 := own_AJ_keep F476 K485 (ninS (own_ne (by omega)) (nin0))
        have F494 := own_AJ_keep F469 K485 (ninS (own_ne (by omega)) (nin0))
        have F495 := own_AJ_keep F478 K485 (ninS (own_ne (by omega)) (nin0))
        have O496 := own_P_keep K485 (ninS (own_ne (by omega)) (nin0)) O479
        have Fw497 := own_AJ_keep Fw480 K485 (ninS (own_ne (by omega)) (nin0))
        obtain ⟨gf499, gq500⟩ : ∃ z : Nat → Int64, z = (fun i => if 0 ≤ i ∧ i < 0 + W.toNatClampNeg then fw355 (r307.toNatClampNeg * W.toNatClampNeg + (i - 0)) else (own_f3 p3 p3 p3) i) := ⟨_, rfl⟩
        rw [← gq500] at F486
        have hm498 := own_fin hW hr372 (sn := p3) rfl rfl rfl gf499 gq500
        refine own_st (G := T487.setTop (mkF m 274 #[.val (.long p0), .second, .val (.long p1), .second, .val (.long p2), .second, .val (.long p3), .second, .val (.int p4), .val (.int p5), .val (.int W), .val (.ref a9), .val (.ref a48), .val (.ref a89), .val (.ref a131), .val (.ref a175), .val (.ref a221), .val (.ref a270), .val (.int r307), .val (.int r329), .val (.int r353)] [])) (fun _ kk => XS.goto X489.here hx rfl (pc0 := 244) (pc' := 274) rfl (hb hby at_244) (by decide) (by decide) kk) ?_
        refine own_st (G := T487.setTop (mkF m 276 #[.val (.long p0), .second, .val (.long p1), .second, .val (.long p2), .second, .val (.long p3), .second, .val (.int p4), .val (.int p5), .val (.int W), .val (.ref a9), .val (.ref a48), .val (.ref a89), .val (.ref a131), .val (.ref a175), .val (.ref a221), .val (.ref a270), .val (.int r307), .val (.int r329), .val (.int r353)] [(.ref a131)])) (fun _ kk => XS.aload X489.here hx rfl (hb hby at_274) rfl rfl kk) ?_
        refine own_st (G := T487.setTop (mkF m 278 #[.val (.long p0), .second, .val (.long p1), .second, .val (.long p2), .second, .val (.long p3), .second, .val (.int p4), .val (.int p5), .val (.int W), .val (.ref a9), .val (.ref a48), .val (.ref a89), .val (.ref a131), .val (.ref a175), .val (.ref a221), .val (.ref a270), .val (.int r307), .val (.int r329), .val (.int r353)] [(.ref a9), (.ref a131)])) (fun _ kk => XS.aload X489.here hx rfl (hb hby at_276) rfl rfl kk) ?_
        refine own_st (G := T487.setTop (mkF m 280 #[.val (.long p0), .second, .val (.long p1), .second, .val (.long p2), .second, .val (.long p3), .second, .val (.int p4), .val (.int p5), .val (.int W), .val (.ref a9), .val (.ref a48), .val (.ref a89), .val (.ref a131), .val (.ref a175), .val (.ref a221), .val (.ref a270), .val (.int r307), .val (.int r329), .val (.int r353)] [(.int W), (.ref a9), (.ref a131)])) (fun _ kk => XS.iload X489.here hx rfl (hb hby at_278) rfl kk) ?_
        refine own_st (G := T487.setTop (mkF m 282 #[.val (.long p0), .second, .val (.long p1), .second, .val (.long p2), .second, .val (.long p3), .second, .val (.int p4), .val (.int p5), .val (.int W), .val (.ref a9), .val (.ref a48), .val (.ref a89), .val (.ref a131), .val (.ref a175), .val (.ref a221), .val (.ref a270), .val (.int r307), .val (.int r329), .val (.int r353)] [(.long p3), (.int W), (.ref a9), (.ref a131)])) (fun _ kk => XS.lload X489.here hx rfl (hb hby at_280) rfl kk) ?_
        refine own_callS X489 hx hZ (y := (⟨"com/example/libbuchi/libbuchi/automata/PackedStatesGetPinLaw", "matches", "([J[JIJ)Z"⟩ : MethodName)) (as' := [(.ref a131), (.ref a9), (.int W), (.long p3)]) hown (own_w hw 39 rfl) (own_w hw 40 rfl) (own_w hw 41 rfl) (own_w hw 42 rfl) (by decide) (own_mat l Z a0 hw [] W p3 a131 a9 gf499 (own_f3 p0 p1 p2) T487.heap n0 F486 F491 hm498.1 hm498.2.1 hm498.2.2) 0 (by decide) (by decide) (by decide) (by decide) (rest := []) (by rw [hml]; rfl) (lenOf (by decide : parseMethodDescriptor "([J[JIJ)Z" = some ⟨[.array (.long), .array (.long), .int, .long], some (.boolean)⟩) rfl) rfl (Nat.le_of_eq rfl) (hb hby at_282) rfl ?_
        intro T504 L505 v507 X506 hQ
        obtain ⟨rfl, rfl, eq503⟩ := hQ
        show own_Out _ _ _ _ (T504.setTop (mkF m 285 #[.val (.long p0), .second, .val (.long p1), .second, .val (.long p2), .second, .val (.long p3), .second, .val (.int p4), .val (.int p5), .val (.int W), .val (.ref a9), .val (.ref a48), .val (.ref a89), .val (.ref a131), .val (.ref a175), .val (.ref a221), .val (.ref a270), .val (.int r307), .val (.int r329), .val (.int r353)] [(.int (1 : Int32))]))
        have N501 := Fr.app N484 (Fr.nil n0)
        refine own_st (G := T504.setTop (mkF m 288 #[.val (.long p0), .second, .val (.long p1), .second, .val (.long p2), .second, .val (.long p3), .second, .val (.int p4), .val (.int p5), .val (.int W), .val (.ref a9), .val (.ref a48), .val (.ref a89), .val (.ref a131), .val (.ref a175), .val (.ref a221), .val (.ref a270), .val (.int r307), .val (.int r329), .val (.int r353)] [])) (fun _ kk => XS.ifNo X506.here hx rfl (hb hby at_285) rfl (XT.i0_eq_f (by decide : ¬ (1 : Int32) = (0 : Int32))) kk) ?_
        refine own_st (G := T504.setTop (mkF m 290 #[.val (.long p0), .second, .val (.long p1), .second, .val (.long p2), .second, .val (.long p3), .second, .val (.int p4), .val (.int p5), .val (.int W), .val (.ref a9), .val (.ref a48), .val (.ref a89), .val (.ref a131), .val (.ref a175), .val (.ref a221), .val (.ref a270), .val (.int r307), .val (.int r329), .val (.int r353)] [(.ref a175)])) (fun _ kk => XS.aload X506.here hx rfl (hb hby at_288) rfl rfl kk) ?_
        refine own_st (G := T504.setTop (mkF m 292 #[.val (.long p0), .second, .val (.long p1), .second, .val (.long p2), .second, .val (.long p3), .second, .val (.int p4), .val (.int p5), .val (.int W), .val (.ref a9), .val (.ref a48), .val (.ref a89), .val (.ref a131), .val (.ref a175), .val (.ref a221), .val (.ref a270), .val (.int r307), .val (.int r329), .val (.int r353)] [(.ref a48), (.ref a175)])) (fun _ kk => XS.aload X506.here hx rfl (hb hby at_290) rfl rfl kk) ?_
        refine own_st (G := T504.setTop (mkF m 294 #[.val (.long p0), .second, .val (.long p1), .second, .val (.long p2), .second, .val (.long p3), .second, .val (.int p4), .val (.int p5), .val (.int W), .val (.ref a9), .val (.ref a48), .val (.ref a89), .val (.ref a131), .val (.ref a175), .val (.ref a221), .val (.ref a270), .val (.int r307), .val (.int r329), .val (.int r353)] [(.int W), (.ref a48), (.ref a175)])) (fun _ kk => XS.iload X506.here hx rfl (hb hby at_292) rfl kk) ?_
        refine own_st (G := T504.setTop (mkF m 296 #[.val (.long p0), .second, .val (.long p1), .second, .val (.long p2), .second, .val (.long p3), .second, .val (.int p4), .val (.int p5), .val (.int W), .val (.ref a9), .val (.ref a48), .val (.ref a89), .val (.ref a131), .val (.ref a175), .val (.ref a221), .val (.ref a270), .val (.int r307), .val (.int r329), .val (.int r353)] [(.long p3), (.int W), (.ref a48), (.ref a175)])) (fun _ kk => XS.lload X506.here hx rfl (hb hby at_294) rfl kk) ?_
        refine own_callS X506 hx hZ (y := (⟨"com/example/libbuchi/libbuchi/automata/PackedStatesGetPinLaw", "matches", "([J[JIJ)Z"⟩ : MethodName)) (as' := [(.ref a175), (.ref a48), (.int W), (.long p3)]) hown (own_w hw 39 rfl) (own_w hw 40 rfl) (own_w hw 41 rfl) (own_w hw 42 rfl) (by decide) (own_mat l Z a0 hw [] W p3 a175 a48 gf482 (own_f3 p1 p2 p0) T487.heap n0 F494 F492 hm481.1 hm481.2.1 hm481.2.2) 0 (by decide) (by decide) (by decide) (by decide) (rest := []) (by rw [hml]; rfl) (lenOf (by decide : parseMethodDescriptor "([J[JIJ)Z" = some ⟨[.array (.long), .array (.long), .int, .long], some (.boolean)⟩) rfl) rfl (Nat.le_of_eq rfl) (hb hby at_296) eq503 ?_
        intro T511 L512 v514 X513 hQ
        obtain ⟨rfl, rfl, eq510⟩ := hQ
        show own_Out _ _ _ _ (T511.setTop (mkF m 299 #[.val (.long p0), .second, .val (.long p1), .second, .val (.long p2), .second, .val (.long p3), .second, .val (.int p4), .val (.int p5), .val (.int W), .val (.ref a9), .val (.ref a48), .val (.ref a89), .val (.ref a131), .val (.ref a175), .val (.ref a221), .val (.ref a270), .val (.int r307), .val (.int r329), .val (.int r353)] [(.int (1 : Int32))]))
        have N508 := Fr.app N501 (Fr.nil n0)
        refine own_st (G := T511.setTop (mkF m 302 #[.val (.long p0), .second, .val (.long p1), .second, .val (.long p2), .second, .val (.long p3), .second, .val (.int p4), .val (.int p5), .val (.int W), .val (.ref a9), .val (.ref a48), .val (.ref a89), .val (.ref a131), .val (.ref a175), .val (.ref a221), .val (.ref a270), .val (.int r307), .val (.int r329), .val (.int r353)] [])) (fun _ kk => XS.ifNo X513.here hx rfl (hb hby at_299) rfl (XT.i0_eq_f (by decide : ¬ (1 : Int32) = (0 : Int32))) kk) ?_
        refine own_st (G := T511.setTop (mkF m 304 #[.val (.long p0), .second, .val (.long p1), .second, .val (.long p2), .second, .val (.long p3), .second, .val (.int p4), .val (.int p5), .val (.int W), .val (.ref a9), .val (.ref a48), .val (.ref a89), .val (.ref a131), .val (.ref a175), .val (.ref a221), .val (.ref a270), .val (.int r307), .val (.int r329), .val (.int r353)] [(.ref a221)])) (fun _ kk => XS.aload X513.here hx rfl (hb hby at_302) rfl rfl kk) ?_
        refine own_st (G := T511.setTop (mkF m 306 #[.val (.long p0), .second, .val (.long p1), .second, .val (.long p2), .second, .val (.long p3), .second, .val (.int p4), .val (.int p5), .val (.int W), .val (.ref a9), .val (.ref a48), .val (.ref a89), .val (.ref a131), .val (.ref a175), .val (.ref a221), .val (.ref a270), .val (.int r307), .val (.int r329), .val (.int r353)] [(.ref a89), (.ref a221)])) (fun _ kk => XS.aload X513.here hx rfl (hb hby at_304) rfl rfl kk) ?_
        refine own_st (G := T511.setTop (mkF m 308 #[.val (.long p0), .second, .val (.long p1), .second, .val (.long p2), .second, .val (.long p3), .second, .val (.int p4), .val (.int p5), .val (.int W), .val (.ref a9), .val (.ref a48), .val (.ref a89), .val (.ref a131), .val (.ref a175), .val (.ref a221), .val (.ref a270), .val (.int r307), .val (.int r329), .val (.int r353)] [(.int W), (.ref a89), (.ref a221)])) (fun _ kk => XS.iload X513.here hx rfl (hb hby at_306) rfl kk) ?_
        refine own_st (G := T511.setTop (mkF m 310 #[.val (.long p0), .second, .val (.long p1), .second, .val (.long p2), .second, .val (.long p3), .second, .val (.int p4), .val (.int p5), .val (.int W), .val (.ref a9), .val (.ref a48), .val (.ref a89), .val (.ref a131), .val (.ref a175), .val (.ref a221), .val (.ref a270), .val (.int r307), .val (.int r329), .val (.int r353)] [(.long p3), (.int W), (.ref a89), (.ref a221)])) (fun _ kk => XS.lload X513.here hx rfl (hb hby at_308) rfl kk) ?_
        refine own_callS X513 hx hZ (y := (⟨"com/example/libbuchi/libbuchi/automata/PackedStatesGetPinLaw", "matches", "([J[JIJ)Z"⟩ : MethodName)) (as' := [(.ref a221), (.ref a89), (.int W), (.long p3)]) hown (own_w hw 39 rfl) (own_w hw 40 rfl) (own_w hw 41 rfl) (own_w hw 42 rfl) (by decide) (own_mat l Z a0 hw [] W p3 a221 a89 gf465 (own_f3 p2 p0 p1) T487.heap n0 F495 F493 hm464.1 hm464.2.1 hm464.2.2) 0 (by decide) (by decide) (by decide) (by decide) (rest := []) (by rw [hml]; rfl) (lenOf (by decide : parseMethodDescriptor "([J[JIJ)Z" = some ⟨[.array (.long), .array (.long), .int, .long], some (.boolean)⟩) rfl) rfl (Nat.le_of_eq rfl) (hb hby at_310) eq510 ?_
        intro T518 L519 v521 X520 hQ
        obtain ⟨rfl, rfl, eq517⟩ := hQ
        show own_Out _ _ _ _ (T518.setTop (mkF m 313 #[.val (.long p0), .second, .val (.long p1), .second, .val (.long p2), .second, .val (.long p3), .second, .val (.int p4), .val (.int p5), .val (.int W), .val (.ref a9), .val (.ref a48), .val (.ref a89), .val (.ref a131), .val (.ref a175), .val (.ref a221), .val (.ref a270), .val (.int r307), .val (.int r329), .val (.int r353)] [(.int (1 : Int32))]))
        have N515 := Fr.app N508 (Fr.nil n0)
        refine own_st (G := T518.setTop (mkF m 316 #[.val (.long p0), .second, .val (.long p1), .second, .val (.long p2), .second, .val (.long p3), .second, .val (.int p4), .val (.int p5), .val (.int W), .val (.ref a9), .val (.ref a48), .val (.ref a89), .val (.ref a131), .val (.ref a175), .val (.ref a221), .val (.ref a270), .val (.int r307), .val (.int r329), .val (.int r353)] [])) (fun _ kk => XS.ifNo X520.here hx rfl (hb hby at_313) rfl (XT.i0_eq_f (by decide : ¬ (1 : Int32) = (0 : Int32))) kk) ?_
        refine own_st (G := T518.setTop (mkF m 317 #[.val (.long p0), .second, .val (.long p1), .second, .val (.long p2), .second, .val (.long p3), .second, .val (.int p4), .val (.int p5), .val (.int W), .val (.ref a9), .val (.ref a48), .val (.ref a89), .val (.ref a131), .val (.ref a175), .val (.ref a221), .val (.ref a270), .val (.int r307), .val (.int r329), .val (.int r353)] [(.int (1 : Int32))])) (fun _ kk => XT.iconstV X520.here hx rfl (1 : Int32) (hb hby at_316) (by decide) kk) ?_
        refine own_st (G := T518.setTop (mkF m 321 #[.val (.long p0), .second, .val (.long p1), .second, .val (.long p2), .second, .val (.long p3), .second, .val (.int p4), .val (.int p5), .val (.int W), .val (.ref a9), .val (.ref a48), .val (.ref a89), .val (.ref a131), .val (.ref a175), .val (.ref a221), .val (.ref a270), .val (.int r307), .val (.int r329), .val (.int r353)] [(.int (1 : Int32))])) (fun _ kk => XS.goto X520.here hx rfl (pc0 := 317) (pc' := 321) rfl (hb hby at_317) (by decide) (by decide) kk) ?_
        refine own_retB X520 hx hret (by simp) hlk (hb hby at_321) (by decide) (by decide) ?_
        exact ⟨rfl, N515⟩
    · skip
      refine own_st (G := T68.setTop (mkF m 75 #[.val (.long p0), .second, .val (.long p1), .second, .val (.long p2), .second, .val (.long p3), .second, .val (.int p4), .val (.int p5), .val (.int W), .val (.ref a9), .val (.ref a48), .unset, .unset, .unset, .unset, .unset, .unset, .unset, .unset] [])) (fun _ kk => XS.ifNo X70.here hx rfl (hb hby at_72) rfl (XT.i0_eq_f hc80) kk) ?_
      refine own_st (G := T68.setTop (mkF m 76 #[.val (.long p0), .second, .val (.long p1), .second, .val (.long p2), .second, .val (.long p3), .second, .val (.int p4), .val (.int p5), .val (.int W), .val (.ref a9), .val (.ref a48), .unset, .unset, .unset, .unset, .unset, .unset, .unset, .unset] [(.int (3 : Int32))])) (fun _ kk => XT.iconstV X70.here hx rfl (3 : Int32) (hb hby at_75) (by decide) kk) ?_
      obtain ⟨T522, h523, cA524, X525, e526, E527, A528, st529⟩ := newP X70 hx hZ (own_w hw 0 rfl) e71 (g := (mkF m 76 #[.val (.long p0), .second, .val (.long p1), .second, .val (.long p2), .second, .val (.long p3), .second, .val (.int p4), .val (.int p5), .val (.int W), .val (.ref a9), .val (.ref a48), .unset, .unset, .unset, .unset, .unset, .unset, .unset, .unset] [(.int (3 : Int32))])) rfl (hb hby at_76) rfl (by decide) (cap := 3) (by decide) (by decide) (by decide) (by decide)
      obtain ⟨a530, g531⟩ : ∃ z, z = h69.size := ⟨_, rfl⟩
      rw [← g531] at A528 st529
      have S532 : (newA cA524 .long (3 : Int32)).slots.size = 3 := (sz_new _ _ _).trans (by decide)
      refine own_st st529 ?_
      show own_Out _ _ _ _ (T522.setTop (mkF m 78 #[.val (.long p0), .second, .val (.long p1), .second, .val (.long p2), .second, .val (.long p3), .second, .val (.int p4), .val (.int p5), .val (.int W), .val (.ref a9), .val (.ref a48), .unset, .unset, .unset, .unset, .unset, .unset, .unset, .unset] [(.ref a530)]))
      have F533 := own_AJ_new (n := 3) A528 (by decide) rfl
      refine own_st (G := T522.setTop (mkF m 79 #[.val (.long p0), .second, .val (.long p1), .second, .val (.long p2), .second, .val (.long p3), .second, .val (.int p4), .val (.int p5), .val (.int W), .val (.ref a9), .val (.ref a48), .unset, .unset, .unset, .unset, .unset, .unset, .unset, .unset] [(.ref a530), (.ref a530)])) (fun _ kk => XS.dup X525.here hx rfl (hb hby at_78) rfl rfl kk) ?_
      refine own_st (G := T522.setTop (mkF m 80 #[.val (.long p0), .second, .val (.long p1), .second, .val (.long p2), .second, .val (.long p3), .second, .val (.int p4), .val (.int p5), .val (.int W), .val (.ref a9), .val (.ref a48), .unset, .unset, .unset, .unset, .unset, .unset, .unset, .unset] [(.int (0 : Int32)), (.ref a530), (.ref a530)])) (fun _ kk => XT.iconstV X525.here hx rfl (0 : Int32) (hb hby at_79) (by decide) kk) ?_
      refine own_st (G := T522.setTop (mkF m 81 #[.val (.long p0), .second, .val (.long p1), .second, .val (.long p2), .second, .val (.long p3), .second, .val (.int p4), .val (.int p5), .val (.int W), .val (.ref a9), .val (.ref a48), .unset, .unset, .unset, .unset, .unset, .unset, .unset, .unset] [(.long p0), (.int (0 : Int32)), (.ref a530), (.ref a530)])) (fun _ kk => XS.lloadN X525.here hx rfl (hb hby at_80) rfl kk) ?_
      refine own_lastore X525 hx hZ e526 F533 (j := (0 : Int32)) (i := 0) (by decide) rfl (by decide) (hb hby at_81) ?_
      intro T534 h535 X536 e537 W538 F539
      show own_Out _ _ _ _ (T534.setTop (mkF m 82 #[.val (.long p0), .second, .val (.long p1), .second, .val (.long p2), .second, .val (.long p3), .second, .val (.int p4), .val (.int p5), .val (.int W), .val (.ref a9), .val (.ref a48), .unset, .unset, .unset, .unset, .unset, .unset, .unset, .unset] [(.ref a530)]))
      have E540 := own_ext_wr E527 W538 (Nat.le_of_eq g531.symm)
      have gea530 : n0 ≤ a530 := by rw [g531]; exact Nat.le_trans Z0 sz79
      have N541 := Fr.snoc X536 N75 gea530
      refine own_st (G := T534.setTop (mkF m 83 #[.val (.long p0), .second, .val (.long p1), .second, .val (.long p2), .second, .val (.long p3), .second, .val (.int p4), .val (.int p5), .val (.int W), .val (.ref a9), .val (.ref a48), .unset, .unset, .unset, .unset, .unset, .unset, .unset, .unset] [(.ref a530), (.ref a530)])) (fun _ kk => XS.dup X536.here hx rfl (hb hby at_82) rfl rfl kk) ?_
      refine own_st (G := T534.setTop (mkF m 84 #[.val (.long p0), .second, .val (.long p1), .second, .val (.long p2), .second, .val (.long p3), .second, .val (.int p4), .val (.int p5), .val (.int W), .val (.ref a9), .val (.ref a48), .unset, .unset, .unset, .unset, .unset, .unset, .unset, .unset] [(.int (1 : Int32)), (.ref a530), (.ref a530)])) (fun _ kk => XT.iconstV X536.here hx rfl (1 : Int32) (hb hby at_83) (by decide) kk) ?_
      refine own_st (G := T534.setTop (mkF m 85 #[.val (.long p0), .second, .val (.long p1), .second, .val (.long p2), .second, .val (.long p3), .second, .val (.int p4), .val (.int p5), .val (.int W), .val (.ref a9), .val (.ref a48), .unset, .unset, .unset, .unset, .unset, .unset, .unset, .unset] [(.long p1), (.int (1 : Int32)), (.ref a530), (.ref a530)])) (fun _ kk => XS.lloadN X536.here hx rfl (hb hby at_84) rfl kk) ?_
      refine own_lastore X536 hx hZ e537 F539 (j := (1 : Int32)) (i := 1) (by decide) rfl (by decide) (hb hby at_85) ?_
      intro T542 h543 X544 e545 W546 F547
      show own_Out _ _ _ _ (T542.setTop (mkF m 86 #[.val (.long p0), .second, .val (.long p1), .second, .val (.long p2), .second, .val (.long p3), .second, .val (.int p4), .val (.int p5), .val (.int W), .val (.ref a9), .val (.ref a48), .unset, .unset, .unset, .unset, .unset, .unset, .unset, .unset] [(.ref a530)]))
      have E548 := own_ext_wr E540 W546 (Nat.le_of_eq g531.symm)
      have N549 := Fr.snoc X544 N541 gea530
      refine own_st (G := T542.setTop (mkF m 87 #[.val (.long p0), .second, .val (.long p1), .second, .val (.long p2), .second, .val (.long p3), .second, .val (.int p4), .val (.int p5), .val (.int W), .val (.ref a9), .val (.ref a48), .unset, .unset, .unset, .unset, .unset, .unset, .unset, .unset] [(.ref a530), (.ref a530)])) (fun _ kk => XS.dup X544.here hx rfl (hb hby at_86) rfl rfl kk) ?_
      refine own_st (G := T542.setTop (mkF m 88 #[.val (.long p0), .second, .val (.long p1), .second, .val (.long p2), .second, .val (.long p3), .second, .val (.int p4), .val (.int p5), .val (.int W), .val (.ref a9), .val (.ref a48), .unset, .unset, .unset, .unset, .unset, .unset, .unset, .unset] [(.int (2 : Int32)), (.ref a530), (.ref a530)])) (fun _ kk => XT.iconstV X544.here hx rfl (2 : Int32) (hb hby at_87) (by decide) kk) ?_
      refine own_st (G := T542.setTop (mkF m 90 #[.val (.long p0), .second, .val (.long p1), .second, .val (.long p2), .second, .val (.long p3), .second, .val (.int p4), .val (.int p5), .val (.int W), .val (.ref a9), .val (.ref a48), .unset, .unset, .unset, .unset, .unset, .unset, .unset, .unset] [(.long p2), (.int (2 : Int32)), (.ref a530), (.ref a530)])) (fun _ kk => XS.lload X544.here hx rfl (hb hby at_88) rfl kk) ?_
      refine own_lastore X544 hx hZ e545 F547 (j := (2 : Int32)) (i := 2) (by decide) rfl (by decide) (hb hby at_90) ?_
      intro T550 h551 X552 e553 W554 F555
      show own_Out _ _ _ _ (T550.setTop (mkF m 91 #[.val (.long p0), .second, .val (.long p1), .second, .val (.long p2), .second, .val (.long p3), .second, .val (.int p4), .val (.int p5), .val (.int W), .val (.ref a9), .val (.ref a48), .unset, .unset, .unset, .unset, .unset, .unset, .unset, .unset] [(.ref a530)]))
      have E556 := own_ext_wr E548 W554 (Nat.le_of_eq g531.symm)
      have N557 := Fr.snoc X552 N549 gea530
      have F558 : own_AJ Z h551 a530 3 (own_f3 p0 p1 p2) := own_AJ_congr F555 (own_all3 (Nat.le_refl 3) rfl rfl rfl)
      have lt559 : a9 < a530 := by rw [g531]; exact own_AJ_lt F78
      have F560 := own_AJ_ext F78 E556
      have lt561 : a48 < a530 := by rw [g531]; exact own_AJ_lt F76
      have F562 := own_AJ_ext F76 E556
      have sz563 : h0.size ≤ h551.size := Nat.le_trans sz79 E556.1
      refine own_st (G := T550.setTop (mkF m 110 #[.val (.long p0), .second, .val (.long p1), .second, .val (.long p2), .second, .val (.long p3), .second, .val (.int p4), .val (.int p5), .val (.int W), .val (.ref a9), .val (.ref a48), .unset, .unset, .unset, .unset, .unset, .unset, .unset, .unset] [(.ref a530)])) (fun _ kk => XS.goto X552.here hx rfl (pc0 := 91) (pc' := 110) rfl (hb hby at_91) (by decide) (by decide) kk) ?_
      refine own_st (G := T550.setTop (mkF m 112 #[.val (.long p0), .second, .val (.long p1), .second, .val (.long p2), .second, .val (.long p3), .second, .val (.int p4), .val (.int p5), .val (.int W), .val (.ref a9), .val (.ref a48), .val (.ref a530), .unset, .unset, .unset, .unset, .unset, .unset, .unset] [])) (fun _ kk => XS.astore X552.here hx rfl (hb hby at_110) rfl rfl (l' := #[.val (.long p0), .second, .val (.long p1), .second, .val (.long p2), .second, .val (.long p3), .second, .val (.int p4), .val (.int p5), .val (.int W), .val (.ref a9), .val (.ref a48), .val (.ref a530), .unset, .unset, .unset, .unset, .unset, .unset, .unset]) rfl kk) ?_
      refine own_st (G := T550.setTop (mkF m 113 #[.val (.long p0), .second, .val (.long p1), .second, .val (.long p2), .second, .val (.long p3), .second, .val (.int p4), .val (.int p5), .val (.int W), .val (.ref a9), .val (.ref a48), .val (.ref a530), .unset, .unset, .unset, .unset, .unset, .unset, .unset] [(.int (3 : Int32))])) (fun _ kk => XT.iconstV X552.here hx rfl (3 : Int32) (hb hby at_112) (by decide) kk) ?_
      obtain ⟨T564, h565, cA566, X567, e568, E569, A570, st571⟩ := newP X552 hx hZ (own_w hw 0 rfl) e553 (g := (mkF m 113 #[.val (.long p0), .second, .val (.long p1), .second, .val (.long p2), .second, .val (.long p3), .second, .val (.int p4), .val (.int p5), .val (.int W), .val (.ref a9), .val (.ref a48), .val (.ref a530), .unset, .unset, .unset, .unset, .unset, .unset, .unset] [(.int (3 : Int32))])) rfl (hb hby at_113) rfl (by decide) (cap := 3) (by decide) (by decide) (by decide) (by decide)
      obtain ⟨a572, g573⟩ : ∃ z, z = h551.size := ⟨_, rfl⟩
      rw [← g573] at A570 st571
      have S574 : (newA cA566 .long (3 : Int32)).slots.size = 3 := (sz_new _ _ _).trans (by decide)
      refine own_st st571 ?_
      show own_Out _ _ _ _ (T564.setTop (mkF m 115 #[.val (.long p0), .second, .val (.long p1), .second, .val (.long p2), .second, .val (.long p3), .second, .val (.int p4), .val (.int p5), .val (.int W), .val (.ref a9), .val (.ref a48), .val (.ref a530), .unset, .unset, .unset, .unset, .unset, .unset, .unset] [(.ref a572)]))
      have F575 := own_AJ_new (n := 3) A570 (by decide) rfl
      refine own_st (G := T564.setTop (mkF m 116 #[.val (.long p0), .second, .val (.long p1), .second, .val (.long p2), .second, .val (.long p3), .second, .val (.int p4), .val (.int p5), .val (.int W), .val (.ref a9), .val (.ref a48), .val (.ref a530), .unset, .unset, .unset, .unset, .unset, .unset, .unset] [(.ref a572), (.ref a572)])) (fun _ kk => XS.dup X567.here hx rfl (hb hby at_115) rfl rfl kk) ?_
      refine own_st (G := T564.setTop (mkF m 117 #[.val (.long p0), .second, .val (.long p1), .second, .val (.long p2), .second, .val (.long p3), .second, .val (.int p4), .val (.int p5), .val (.int W), .val (.ref a9), .val (.ref a48), .val (.ref a530), .unset, .unset, .unset, .unset, .unset, .unset, .unset] [(.int (0 : Int32)), (.ref a572), (.ref a572)])) (fun _ kk => XT.iconstV X567.here hx rfl (0 : Int32) (hb hby at_116) (by decide) kk) ?_
      refine own_st (G := T564.setTop (mkF m 119 #[.val (.long p0), .second, .val (.long p1), .second, .val (.long p2), .second, .val (.long p3), .second, .val (.int p4), .val (.int p5), .val (.int W), .val (.ref a9), .val (.ref a48), .val (.ref a530), .unset, .unset, .unset, .unset, .unset, .unset, .unset] [(.long p3), (.int (0 : Int32)), (.ref a572), (.ref a572)])) (fun _ kk => XS.lload X567.here hx rfl (hb hby at_117) rfl kk) ?_
      refine own_lastore X567 hx hZ e568 F575 (j := (0 : Int32)) (i := 0) (by decide) rfl (by decide) (hb hby at_119) ?_
      intro T576 h577 X578 e579 W580 F581
      show own_Out _ _ _ _ (T576.setTop (mkF m 120 #[.val (.long p0), .second, .val (.long p1), .second, .val (.long p2), .second, .val (.long p3), .second, .val (.int p4), .val (.int p5), .val (.int W), .val (.ref a9), .val (.ref a48), .val (.ref a530), .unset, .unset, .unset, .unset, .unset, .unset, .unset] [(.ref a572)]))
      have E582 := own_ext_wr E569 W580 (Nat.le_of_eq g573.symm)
      have gea572 : n0 ≤ a572 := by rw [g573]; exact Nat.le_trans Z0 sz563
      have N583 := Fr.snoc X578 N557 gea572
      refine own_st (G := T576.setTop (mkF m 121 #[.val (.long p0), .second, .val (.long p1), .second, .val (.long p2), .second, .val (.long p3), .second, .val (.int p4), .val (.int p5), .val (.int W), .val (.ref a9), .val (.ref a48), .val (.ref a530), .unset, .unset, .unset, .unset, .unset, .unset, .unset] [(.ref a572), (.ref a572)])) (fun _ kk => XS.dup X578.here hx rfl (hb hby at_120) rfl rfl kk) ?_
      refine own_st (G := T576.setTop (mkF m 122 #[.val (.long p0), .second, .val (.long p1), .second, .val (.long p2), .second, .val (.long p3), .second, .val (.int p4), .val (.int p5), .val (.int W), .val (.ref a9), .val (.ref a48), .val (.ref a530), .unset, .unset, .unset, .unset, .unset, .unset, .unset] [(.int (1 : Int32)), (.ref a572), (.ref a572)])) (fun _ kk => XT.iconstV X578.here hx rfl (1 : Int32) (hb hby at_121) (by decide) kk) ?_
      refine own_st (G := T576.setTop (mkF m 124 #[.val (.long p0), .second, .val (.long p1), .second, .val (.long p2), .second, .val (.long p3), .second, .val (.int p4), .val (.int p5), .val (.int W), .val (.ref a9), .val (.ref a48), .val (.ref a530), .unset, .unset, .unset, .unset, .unset, .unset, .unset] [(.long p3), (.int (1 : Int32)), (.ref a572), (.ref a572)])) (fun _ kk => XS.lload X578.here hx rfl (hb hby at_122) rfl kk) ?_
      refine own_lastore X578 hx hZ e579 F581 (j := (1 : Int32)) (i := 1) (by decide) rfl (by decide) (hb hby at_124) ?_
      intro T584 h585 X586 e587 W588 F589
      show own_Out _ _ _ _ (T584.setTop (mkF m 125 #[.val (.long p0), .second, .val (.long p1), .second, .val (.long p2), .second, .val (.long p3), .second, .val (.int p4), .val (.int p5), .val (.int W), .val (.ref a9), .val (.ref a48), .val (.ref a530), .unset, .unset, .unset, .unset, .unset, .unset, .unset] [(.ref a572)]))
      have E590 := own_ext_wr E582 W588 (Nat.le_of_eq g573.symm)
      have N591 := Fr.snoc X586 N583 gea572
      refine own_st (G := T584.setTop (mkF m 126 #[.val (.long p0), .second, .val (.long p1), .second, .val (.long p2), .second, .val (.long p3), .second, .val (.int p4), .val (.int p5), .val (.int W), .val (.ref a9), .val (.ref a48), .val (.ref a530), .unset, .unset, .unset, .unset, .unset, .unset, .unset] [(.ref a572), (.ref a572)])) (fun _ kk => XS.dup X586.here hx rfl (hb hby at_125) rfl rfl kk) ?_
      refine own_st (G := T584.setTop (mkF m 127 #[.val (.long p0), .second, .val (.long p1), .second, .val (.long p2), .second, .val (.long p3), .second, .val (.int p4), .val (.int p5), .val (.int W), .val (.ref a9), .val (.ref a48), .val (.ref a530), .unset, .unset, .unset, .unset, .unset, .unset, .unset] [(.int (2 : Int32)), (.ref a572), (.ref a572)])) (fun _ kk => XT.iconstV X586.here hx rfl (2 : Int32) (hb hby at_126) (by decide) kk) ?_
      refine own_st (G := T584.setTop (mkF m 129 #[.val (.long p0), .second, .val (.long p1), .second, .val (.long p2), .second, .val (.long p3), .second, .val (.int p4), .val (.int p5), .val (.int W), .val (.ref a9), .val (.ref a48), .val (.ref a530), .unset, .unset, .unset, .unset, .unset, .unset, .unset] [(.long p3), (.int (2 : Int32)), (.ref a572), (.ref a572)])) (fun _ kk => XS.lload X586.here hx rfl (hb hby at_127) rfl kk) ?_
      refine own_lastore X586 hx hZ e587 F589 (j := (2 : Int32)) (i := 2) (by decide) rfl (by decide) (hb hby at_129) ?_
      intro T592 h593 X594 e595 W596 F597
      show own_Out _ _ _ _ (T592.setTop (mkF m 130 #[.val (.long p0), .second, .val (.long p1), .second, .val (.long p2), .second, .val (.long p3), .second, .val (.int p4), .val (.int p5), .val (.int W), .val (.ref a9), .val (.ref a48), .val (.ref a530), .unset, .unset, .unset, .unset, .unset, .unset, .unset] [(.ref a572)]))
      have E598 := own_ext_wr E590 W596 (Nat.le_of_eq g573.symm)
      have N599 := Fr.snoc X594 N591 gea572
      have F600 : own_AJ Z h593 a572 3 (own_f3 p3 p3 p3) := own_AJ_congr F597 (own_all3 (Nat.le_refl 3) rfl rfl rfl)
      have lt601 : a9 < a572 := by rw [g573]; exact own_AJ_lt F560
      have F602 := own_AJ_ext F560 E598
      have lt603 : a48 < a572 := by rw [g573]; exact own_AJ_lt F562
      have F604 := own_AJ_ext F562 E598
      have lt605 : a530 < a572 := by rw [g573]; exact own_AJ_lt F558
      have F606 := own_AJ_ext F558 E598
      have sz607 : h0.size ≤ h593.size := Nat.le_trans sz563 E598.1
      refine own_st (G := T592.setTop (mkF m 132 #[.val (.long p0), .second, .val (.long p1), .second, .val (.long p2), .second, .val (.long p3), .second, .val (.int p4), .val (.int p5), .val (.int W), .val (.ref a9), .val (.ref a48), .val (.ref a530), .val (.ref a572), .unset, .unset, .unset, .unset, .unset, .unset] [])) (fun _ kk => XS.astore X594.here hx rfl (hb hby at_130) rfl rfl (l' := #[.val (.long p0), .second, .val (.long p1), .second, .val (.long p2), .second, .val (.long p3), .second, .val (.int p4), .val (.int p5), .val (.int W), .val (.ref a9), .val (.ref a48), .val (.ref a530), .val (.ref a572), .unset, .unset, .unset, .unset, .unset, .unset]) rfl kk) ?_
      refine own_st (G := T592.setTop (mkF m 133 #[.val (.long p0), .second, .val (.long p1), .second, .val (.long p2), .second, .val (.long p3), .second, .val (.int p4), .val (.int p5), .val (.int W), .val (.ref a9), .val (.ref a48), .val (.ref a530), .val (.ref a572), .unset, .unset, .unset, .unset, .unset, .unset] [(.int (3 : Int32))])) (fun _ kk => XT.iconstV X594.here hx rfl (3 : Int32) (hb hby at_132) (by decide) kk) ?_
      obtain ⟨T608, h609, cA610, X611, e612, E613, A614, st615⟩ := newP X594 hx hZ (own_w hw 0 rfl) e595 (g := (mkF m 133 #[.val (.long p0), .second, .val (.long p1), .second, .val (.long p2), .second, .val (.long p3), .second, .val (.int p4), .val (.int p5), .val (.int W), .val (.ref a9), .val (.ref a48), .val (.ref a530), .val (.ref a572), .unset, .unset, .unset, .unset, .unset, .unset] [(.int (3 : Int32))])) rfl (hb hby at_133) rfl (by decide) (cap := 3) (by decide) (by decide) (by decide) (by decide)
      obtain ⟨a616, g617⟩ : ∃ z, z = h593.size := ⟨_, rfl⟩
      rw [← g617] at A614 st615
      have S618 : (newA cA610 .long (3 : Int32)).slots.size = 3 := (sz_new _ _ _).trans (by decide)
      refine own_st st615 ?_
      show own_Out _ _ _ _ (T608.setTop (mkF m 135 #[.val (.long p0), .second, .val (.long p1), .second, .val (.long p2), .second, .val (.long p3), .second, .val (.int p4), .val (.int p5), .val (.int W), .val (.ref a9), .val (.ref a48), .val (.ref a530), .val (.ref a572), .unset, .unset, .unset, .unset, .unset, .unset] [(.ref a616)]))
      have F619 := own_AJ_new (n := 3) A614 (by decide) rfl
      refine own_st (G := T608.setTop (mkF m 136 #[.val (.long p0), .second, .val (.long p1), .second, .val (.long p2), .second, .val (.long p3), .second, .val (.int p4), .val (.int p5), .val (.int W), .val (.ref a9), .val (.ref a48), .val (.ref a530), .val (.ref a572), .unset, .unset, .unset, .unset, .unset, .unset] [(.ref a616), (.ref a616)])) (fun _ kk => XS.dup X611.here hx rfl (hb hby at_135) rfl rfl kk) ?_
      refine own_st (G := T608.setTop (mkF m 137 #[.val (.long p0), .second, .val (.long p1), .second, .val (.long p2), .second, .val (.long p3), .second, .val (.int p4), .val (.int p5), .val (.int W), .val (.ref a9), .val (.ref a48), .val (.ref a530), .val (.ref a572), .unset, .unset, .unset, .unset, .unset, .unset] [(.int (0 : Int32)), (.ref a616), (.ref a616)])) (fun _ kk => XT.iconstV X611.here hx rfl (0 : Int32) (hb hby at_136) (by decide) kk) ?_
      refine own_st (G := T608.setTop (mkF m 139 #[.val (.long p0), .second, .val (.long p1), .second, .val (.long p2), .second, .val (.long p3), .second, .val (.int p4), .val (.int p5), .val (.int W), .val (.ref a9), .val (.ref a48), .val (.ref a530), .val (.ref a572), .unset, .unset, .unset, .unset, .unset, .unset] [(.long p3), (.int (0 : Int32)), (.ref a616), (.ref a616)])) (fun _ kk => XS.lload X611.here hx rfl (hb hby at_137) rfl kk) ?_
      refine own_lastore X611 hx hZ e612 F619 (j := (0 : Int32)) (i := 0) (by decide) rfl (by decide) (hb hby at_139) ?_
      intro T620 h621 X622 e623 W624 F625
      show own_Out _ _ _ _ (T620.setTop (mkF m 140 #[.val (.long p0), .second, .val (.long p1), .second, .val (.long p2), .second, .val (.long p3), .second, .val (.int p4), .val (.int p5), .val (.int W), .val (.ref a9), .val (.ref a48), .val (.ref a530), .val (.ref a572), .unset, .unset, .unset, .unset, .unset, .unset] [(.ref a616)]))
      have E626 := own_ext_wr E613 W624 (Nat.le_of_eq g617.symm)
      have gea616 : n0 ≤ a616 := by rw [g617]; exact Nat.le_trans Z0 sz607
      have N627 := Fr.snoc X622 N599 gea616
      refine own_st (G := T620.setTop (mkF m 141 #[.val (.long p0), .second, .val (.long p1), .second, .val (.long p2), .second, .val (.long p3), .second, .val (.int p4), .val (.int p5), .val (.int W), .val (.ref a9), .val (.ref a48), .val (.ref a530), .val (.ref a572), .unset, .unset, .unset, .unset, .unset, .unset] [(.ref a616), (.ref a616)])) (fun _ kk => XS.dup X622.here hx rfl (hb hby at_140) rfl rfl kk) ?_
      refine own_st (G := T620.setTop (mkF m 142 #[.val (.long p0), .second, .val (.long p1), .second, .val (.long p2), .second, .val (.long p3), .second, .val (.int p4), .val (.int p5), .val (.int W), .val (.ref a9), .val (.ref a48), .val (.ref a530), .val (.ref a572), .unset, .unset, .unset, .unset, .unset, .unset] [(.int (1 : Int32)), (.ref a616), (.ref a616)])) (fun _ kk => XT.iconstV X622.here hx rfl (1 : Int32) (hb hby at_141) (by decide) kk) ?_
      refine own_st (G := T620.setTop (mkF m 144 #[.val (.long p0), .second, .val (.long p1), .second, .val (.long p2), .second, .val (.long p3), .second, .val (.int p4), .val (.int p5), .val (.int W), .val (.ref a9), .val (.ref a48), .val (.ref a530), .val (.ref a572), .unset, .unset, .unset, .unset, .unset, .unset] [(.long p3), (.int (1 : Int32)), (.ref a616), (.ref a616)])) (fun _ kk => XS.lload X622.here hx rfl (hb hby at_142) rfl kk) ?_
      refine own_lastore X622 hx hZ e623 F625 (j := (1 : Int32)) (i := 1) (by decide) rfl (by decide) (hb hby at_144) ?_
      intro T628 h629 X630 e631 W632 F633
      show own_Out _ _ _ _ (T628.setTop (mkF m 145 #[.val (.long p0), .second, .val (.long p1), .second, .val (.long p2), .second, .val (.long p3), .second, .val (.int p4), .val (.int p5), .val (.int W), .val (.ref a9), .val (.ref a48), .val (.ref a530), .val (.ref a572), .unset, .unset, .unset, .unset, .unset, .unset] [(.ref a616)]))
      have E634 := own_ext_wr E626 W632 (Nat.le_of_eq g617.symm)
      have N635 := Fr.snoc X630 N627 gea616
      refine own_st (G := T628.setTop (mkF m 146 #[.val (.long p0), .second, .val (.long p1), .second, .val (.long p2), .second, .val (.long p3), .second, .val (.int p4), .val (.int p5), .val (.int W), .val (.ref a9), .val (.ref a48), .val (.ref a530), .val (.ref a572), .unset, .unset, .unset, .unset, .unset, .unset] [(.ref a616), (.ref a616)])) (fun _ kk => XS.dup X630.here hx rfl (hb hby at_145) rfl rfl kk) ?_
      refine own_st (G := T628.setTop (mkF m 147 #[.val (.long p0), .second, .val (.long p1), .second, .val (.long p2), .second, .val (.long p3), .second, .val (.int p4), .val (.int p5), .val (.int W), .val (.ref a9), .val (.ref a48), .val (.ref a530), .val (.ref a572), .unset, .unset, .unset, .unset, .unset, .unset] [(.int (2 : Int32)), (.ref a616), (.ref a616)])) (fun _ kk => XT.iconstV X630.here hx rfl (2 : Int32) (hb hby at_146) (by decide) kk) ?_
      refine own_st (G := T628.setTop (mkF m 149 #[.val (.long p0), .second, .val (.long p1), .second, .val (.long p2), .second, .val (.long p3), .second, .val (.int p4), .val (.int p5), .val (.int W), .val (.ref a9), .val (.ref a48), .val (.ref a530), .val (.ref a572), .unset, .unset, .unset, .unset, .unset, .unset] [(.long p3), (.int (2 : Int32)), (.ref a616), (.ref a616)])) (fun _ kk => XS.lload X630.here hx rfl (hb hby at_147) rfl kk) ?_
      refine own_lastore X630 hx hZ e631 F633 (j := (2 : Int32)) (i := 2) (by decide) rfl (by decide) (hb hby at_149) ?_
      intro T636 h637 X638 e639 W640 F641
      show own_Out _ _ _ _ (T636.setTop (mkF m 150 #[.val (.long p0), .second, .val (.long p1), .second, .val (.long p2), .second, .val (.long p3), .second, .val (.int p4), .val (.int p5), .val (.int W), .val (.ref a9), .val (.ref a48), .val (.ref a530), .val (.ref a572), .unset, .unset, .unset, .unset, .unset, .unset] [(.ref a616)]))
      have E642 := own_ext_wr E634 W640 (Nat.le_of_eq g617.symm)
      have N643 := Fr.snoc X638 N635 gea616
      have F644 : own_AJ Z h637 a616 3 (own_f3 p3 p3 p3) := own_AJ_congr F641 (own_all3 (Nat.le_refl 3) rfl rfl rfl)
      have lt645 : a9 < a616 := by rw [g617]; exact own_AJ_lt F602
      have F646 := own_AJ_ext F602 E642
      have lt647 : a48 < a616 := by rw [g617]; exact own_AJ_lt F604
      have F648 := own_AJ_ext F604 E642
      have lt649 : a530 < a616 := by rw [g617]; exact own_AJ_lt F606
      have F650 := own_AJ_ext F606 E642
      have lt651 : a572 < a616 := by rw [g617]; exact own_AJ_lt F600
      have F652 := own_AJ_ext F600 E642
      have sz653 : h0.size ≤ h637.size := Nat.le_trans sz607 E642.1
      refine own_st (G := T636.setTop (mkF m 152 #[.val (.long p0), .second, .val (.long p1), .second, .val (.long p2), .second, .val (.long p3), .second, .val (.int p4), .val (.int p5), .val (.int W), .val (.ref a9), .val (.ref a48), .val (.ref a530), .val (.ref a572), .val (.ref a616), .unset, .unset, .unset, .unset, .unset] [])) (fun _ kk => XS.astore X638.here hx rfl (hb hby at_150) rfl rfl (l' := #[.val (.long p0), .second, .val (.long p1), .second, .val (.long p2), .second, .val (.long p3), .second, .val (.int p4), .val (.int p5), .val (.int W), .val (.ref a9), .val (.ref a48), .val (.ref a530), .val (.ref a572), .val (.ref a616), .unset, .unset, .unset, .unset, .unset]) rfl kk) ?_
      refine own_st (G := T636.setTop (mkF m 153 #[.val (.long p0), .second, .val (.long p1), .second, .val (.long p2), .second, .val (.long p3), .second, .val (.int p4), .val (.int p5), .val (.int W), .val (.ref a9), .val (.ref a48), .val (.ref a530), .val (.ref a572), .val (.ref a616), .unset, .unset, .unset, .unset, .unset] [(.int (3 : Int32))])) (fun _ kk => XT.iconstV X638.here hx rfl (3 : Int32) (hb hby at_152) (by decide) kk) ?_
      obtain ⟨T654, h655, cA656, X657, e658, E659, A660, st661⟩ := newP X638 hx hZ (own_w hw 0 rfl) e639 (g := (mkF m 153 #[.val (.long p0), .second, .val (.long p1), .second, .val (.long p2), .second, .val (.long p3), .second, .val (.int p4), .val (.int p5), .val (.int W), .val (.ref a9), .val (.ref a48), .val (.ref a530), .val (.ref a572), .val (.ref a616), .unset, .unset, .unset, .unset, .unset] [(.int (3 : Int32))])) rfl (hb hby at_153) rfl (by decide) (cap := 3) (by decide) (by decide) (by decide) (by decide)
      obtain ⟨a662, g663⟩ : ∃ z, z = h637.size := ⟨_, rfl⟩
      rw [← g663] at A660 st661
      have S664 : (newA cA656 .long (3 : Int32)).slots.size = 3 := (sz_new _ _ _).trans (by decide)
      refine own_st st661 ?_
      show own_Out _ _ _ _ (T654.setTop (mkF m 155 #[.val (.long p0), .second, .val (.long p1), .second, .val (.long p2), .second, .val (.long p3), .second, .val (.int p4), .val (.int p5), .val (.int W), .val (.ref a9), .val (.ref a48), .val (.ref a530), .val (.ref a572), .val (.ref a616), .unset, .unset, .unset, .unset, .unset] [(.ref a662)]))
      have F665 := own_AJ_new (n := 3) A660 (by decide) rfl
      refine own_st (G := T654.setTop (mkF m 156 #[.val (.long p0), .second, .val (.long p1), .second, .val (.long p2), .second, .val (.long p3), .second, .val (.int p4), .val (.int p5), .val (.int W), .val (.ref a9), .val (.ref a48), .val (.ref a530), .val (.ref a572), .val (.ref a616), .unset, .unset, .unset, .unset, .unset] [(.ref a662), (.ref a662)])) (fun _ kk => XS.dup X657.here hx rfl (hb hby at_155) rfl rfl kk) ?_
      refine own_st (G := T654.setTop (mkF m 157 #[.val (.long p0), .second, .val (.long p1), .second, .val (.long p2), .second, .val (.long p3), .second, .val (.int p4), .val (.int p5), .val (.int W), .val (.ref a9), .val (.ref a48), .val (.ref a530), .val (.ref a572), .val (.ref a616), .unset, .unset, .unset, .unset, .unset] [(.int (0 : Int32)), (.ref a662), (.ref a662)])) (fun _ kk => XT.iconstV X657.here hx rfl (0 : Int32) (hb hby at_156) (by decide) kk) ?_
      refine own_st (G := T654.setTop (mkF m 159 #[.val (.long p0), .second, .val (.long p1), .second, .val (.long p2), .second, .val (.long p3), .second, .val (.int p4), .val (.int p5), .val (.int W), .val (.ref a9), .val (.ref a48), .val (.ref a530), .val (.ref a572), .val (.ref a616), .unset, .unset, .unset, .unset, .unset] [(.long p3), (.int (0 : Int32)), (.ref a662), (.ref a662)])) (fun _ kk => XS.lload X657.here hx rfl (hb hby at_157) rfl kk) ?_
      refine own_lastore X657 hx hZ e658 F665 (j := (0 : Int32)) (i := 0) (by decide) rfl (by decide) (hb hby at_159) ?_
      intro T666 h667 X668 e669 W670 F671
      show own_Out _ _ _ _ (T666.setTop (mkF m 160 #[.val (.long p0), .second, .val (.long p1), .second, .val (.long p2), .second, .val (.long p3), .second, .val (.int p4), .val (.int p5), .val (.int W), .val (.ref a9), .val (.ref a48), .val (.ref a530), .val (.ref a572), .val (.ref a616), .unset, .unset, .unset, .unset, .unset] [(.ref a662)]))
      have E672 := own_ext_wr E659 W670 (Nat.le_of_eq g663.symm)
      have gea662 : n0 ≤ a662 := by rw [g663]; exact Nat.le_trans Z0 sz653
      have N673 := Fr.snoc X668 N643 gea662
      refine own_st (G := T666.setTop (mkF m 161 #[.val (.long p0), .second, .val (.long p1), .second, .val (.long p2), .second, .val (.long p3), .second, .val (.int p4), .val (.int p5), .val (.int W), .val (.ref a9), .val (.ref a48), .val (.ref a530), .val (.ref a572), .val (.ref a616), .unset, .unset, .unset, .unset, .unset] [(.ref a662), (.ref a662)])) (fun _ kk => XS.dup X668.here hx rfl (hb hby at_160) rfl rfl kk) ?_
      refine own_st (G := T666.setTop (mkF m 162 #[.val (.long p0), .second, .val (.long p1), .second, .val (.long p2), .second, .val (.long p3), .second, .val (.int p4), .val (.int p5), .val (.int W), .val (.ref a9), .val (.ref a48), .val (.ref a530), .val (.ref a572), .val (.ref a616), .unset, .unset, .unset, .unset, .unset] [(.int (1 : Int32)), (.ref a662), (.ref a662)])) (fun _ kk => XT.iconstV X668.here hx rfl (1 : Int32) (hb hby at_161) (by decide) kk) ?_
      refine own_st (G := T666.setTop (mkF m 164 #[.val (.long p0), .second, .val (.long p1), .second, .val (.long p2), .second, .val (.long p3), .second, .val (.int p4), .val (.int p5), .val (.int W), .val (.ref a9), .val (.ref a48), .val (.ref a530), .val (.ref a572), .val (.ref a616), .unset, .unset, .unset, .unset, .unset] [(.long p3), (.int (1 : Int32)), (.ref a662), (.ref a662)])) (fun _ kk => XS.lload X668.here hx rfl (hb hby at_162) rfl kk) ?_
      refine own_lastore X668 hx hZ e669 F671 (j := (1 : Int32)) (i := 1) (by decide) rfl (by decide) (hb hby at_164) ?_
      intro T674 h675 X676 e677 W678 F679
      show own_Out _ _ _ _ (T674.setTop (mkF m 165 #[.val (.long p0), .second, .val (.long p1), .second, .val (.long p2), .second, .val (.long p3), .second, .val (.int p4), .val (.int p5), .val (.int W), .val (.ref a9), .val (.ref a48), .val (.ref a530), .val (.ref a572), .val (.ref a616), .unset, .unset, .unset, .unset, .unset] [(.ref a662)]))
      have E680 := own_ext_wr E672 W678 (Nat.le_of_eq g663.symm)
      have N681 := Fr.snoc X676 N673 gea662
      refine own_st (G := T674.setTop (mkF m 166 #[.val (.long p0), .second, .val (.long p1), .second, .val (.long p2), .second, .val (.long p3), .second, .val (.int p4), .val (.int p5), .val (.int W), .val (.ref a9), .val (.ref a48), .val (.ref a530), .val (.ref a572), .val (.ref a616), .unset, .unset, .unset, .unset, .unset] [(.ref a662), (.ref a662)])) (fun _ kk => XS.dup X676.here hx rfl (hb hby at_165) rfl rfl kk) ?_
      refine own_st (G := T674.setTop (mkF m 167 #[.val (.long p0), .second, .val (.long p1), .second, .val (.long p2), .second, .val (.long p3), .second, .val (.int p4), .val (.int p5), .val (.int W), .val (.ref a9), .val (.ref a48), .val (.ref a530), .val (.ref a572), .val (.ref a616), .unset, .unset, .unset, .unset, .unset] [(.int (2 : Int32)), (.ref a662), (.ref a662)])) (fun _ kk => XT.iconstV X676.here hx rfl (2 : Int32) (hb hby at_166) (by decide) kk) ?_
      refine own_st (G := T674.setTop (mkF m 169 #[.val (.long p0), .second, .val (.long p1), .second, .val (.long p2), .second, .val (.long p3), .second, .val (.int p4), .val (.int p5), .val (.int W), .val (.ref a9), .val (.ref a48), .val (.ref a530), .val (.ref a572), .val (.ref a616), .unset, .unset, .unset, .unset, .unset] [(.long p3), (.int (2 : Int32)), (.ref a662), (.ref a662)])) (fun _ kk => XS.lload X676.here hx rfl (hb hby at_167) rfl kk) ?_
      refine own_lastore X676 hx hZ e677 F679 (j := (2 : Int32)) (i := 2) (by decide) rfl (by decide) (hb hby at_169) ?_
      intro T682 h683 X684 e685 W686 F687
      show own_Out _ _ _ _ (T682.setTop (mkF m 170 #[.val (.long p0), .second, .val (.long p1), .second, .val (.long p2), .second, .val (.long p3), .second, .val (.int p4), .val (.int p5), .val (.int W), .val (.ref a9), .val (.ref a48), .val (.ref a530), .val (.ref a572), .val (.ref a616), .unset, .unset, .unset, .unset, .unset] [(.ref a662)]))
      have E688 := own_ext_wr E680 W686 (Nat.le_of_eq g663.symm)
      have N689 := Fr.snoc X684 N681 gea662
      have F690 : own_AJ Z h683 a662 3 (own_f3 p3 p3 p3) := own_AJ_congr F687 (own_all3 (Nat.le_refl 3) rfl rfl rfl)
      have lt691 : a9 < a662 := by rw [g663]; exact own_AJ_lt F646
      have F692 := own_AJ_ext F646 E688
      have lt693 : a48 < a662 := by rw [g663]; exact own_AJ_lt F648
      have F694 := own_AJ_ext F648 E688
      have lt695 : a530 < a662 := by rw [g663]; exact own_AJ_lt F650
      have F696 := own_AJ_ext F650 E688
      have lt697 : a572 < a662 := by rw [g663]; exact own_AJ_lt F652
      have F698 := own_AJ_ext F652 E688
      have lt699 : a616 < a662 := by rw [g663]; exact own_AJ_lt F644
      have F700 := own_AJ_ext F644 E688
      have sz701 : h0.size ≤ h683.size := Nat.le_trans sz653 E688.1
      refine own_st (G := T682.setTop (mkF m 172 #[.val (.long p0), .second, .val (.long p1), .second, .val (.long p2), .second, .val (.long p3), .second, .val (.int p4), .val (.int p5), .val (.int W), .val (.ref a9), .val (.ref a48), .val (.ref a530), .val (.ref a572), .val (.ref a616), .val (.ref a662), .unset, .unset, .unset, .unset] [])) (fun _ kk => XS.astore X684.here hx rfl (hb hby at_170) rfl rfl (l' := #[.val (.long p0), .second, .val (.long p1), .second, .val (.long p2), .second, .val (.long p3), .second, .val (.int p4), .val (.int p5), .val (.int W), .val (.ref a9), .val (.ref a48), .val (.ref a530), .val (.ref a572), .val (.ref a616), .val (.ref a662), .unset, .unset, .unset, .unset]) rfl kk) ?_
      obtain ⟨T702, h703, X704, e705, E706, A707, D708, U710, st709⟩ := newO X684 hx hZ hown (own_w hw 1 rfl) (own_w hw 2 rfl) (own_w hw 3 rfl) e685 (g := (mkF m 172 #[.val (.long p0), .second, .val (.long p1), .second, .val (.long p2), .second, .val (.long p3), .second, .val (.int p4), .val (.int p5), .val (.int W), .val (.ref a9), .val (.ref a48), .val (.ref a530), .val (.ref a572), .val (.ref a616), .val (.ref a662), .unset, .unset, .unset, .unset] [])) rfl (hb hby at_172) (by decide) (by decide)
      obtain ⟨a711, g712⟩ : ∃ z, z = h683.size := ⟨_, rfl⟩
      rw [← g712] at A707 D708 U710 st709
      refine own_st st709 ?_
      show own_Out _ _ _ _ (T702.setTop (mkF m 175 #[.val (.long p0), .second, .val (.long p1), .second, .val (.long p2), .second, .val (.long p3), .second, .val (.int p4), .val (.int p5), .val (.int W), .val (.ref a9), .val (.ref a48), .val (.ref a530), .val (.ref a572), .val (.ref a616), .val (.ref a662), .unset, .unset, .unset, .unset] [(.ref a711)]))
      have O713 : own_P Z h703 a711 (0 : Int32) .null .null (0 : Int32) := ⟨A707, D708 (Or.inr (own_w hw 11 rfl)) (ty := .int) (by decide), D708 (Or.inl (own_w hw 13 rfl)) (ty := .array (.long)) (by decide), D708 (Or.inl (own_w hw 16 rfl)) (ty := .array (.int)) (by decide), D708 (Or.inl (own_w hw 28 rfl)) (ty := .int) (by decide)⟩
      have ga : n0 ≤ a711 := by rw [g712]; exact Nat.le_trans Z0 sz701
      have lt714 : a9 < a711 := by rw [g712]; exact own_AJ_lt F692
      have F715 := own_AJ_ext F692 E706
      have lt716 : a48 < a711 := by rw [g712]; exact own_AJ_lt F694
      have F717 := own_AJ_ext F694 E706
      have lt718 : a530 < a711 := by rw [g712]; exact own_AJ_lt F696
      have F719 := own_AJ_ext F696 E706
      have lt720 : a572 < a711 := by rw [g712]; exact own_AJ_lt F698
      have F721 := own_AJ_ext F698 E706
      have lt722 : a616 < a711 := by rw [g712]; exact own_AJ_lt F700
      have F723 := own_AJ_ext F700 E706
      have lt724 : a662 < a711 := by rw [g712]; exact own_AJ_lt F690
      have F725 := own_AJ_ext F690 E706
      have sz726 : h0.size ≤ h703.size := Nat.le_trans sz701 E706.1
      refine own_st (G := T702.setTop (mkF m 176 #[.val (.long p0), .second, .val (.long p1), .second, .val (.long p2), .second, .val (.long p3), .second, .val (.int p4), .val (.int p5), .val (.int W), .val (.ref a9), .val (.ref a48), .val (.ref a530), .val (.ref a572), .val (.ref a616), .val (.ref a662), .unset, .unset, .unset, .unset] [(.ref a711), (.ref a711)])) (fun _ kk => XS.dup X704.here hx rfl (hb hby at_175) rfl rfl kk) ?_
      refine own_st (G := T702.setTop (mkF m 178 #[.val (.long p0), .second, .val (.long p1), .second, .val (.long p2), .second, .val (.long p3), .second, .val (.int p4), .val (.int p5), .val (.int W), .val (.ref a9), .val (.ref a48), .val (.ref a530), .val (.ref a572), .val (.ref a616), .val (.ref a662), .unset, .unset, .unset, .unset] [(.int W), (.ref a711), (.ref a711)])) (fun _ kk => XS.iload X704.here hx rfl (hb hby at_176) rfl kk) ?_
      have la : a711 < h703.size := (O713).1.lt
      refine own_callI X704 hx hZ (y := (⟨"com/example/libbuchi/libbuchi/automata/PackedStates", "<init>", "(I)V"⟩ : MethodName)) (b := a711) (as' := [(.int W)]) rfl hown (own_w hw 4 rfl) (own_w hw 5 rfl) (own_w hw 6 rfl) (own_w hw 3 rfl) (by decide) (own_ini l Z a0 hw [] W a711 h703 n0 ga O713 hW) 1 (by decide) (by decide) (by decide) (by decide) (rest := [(.ref a711)]) (by rw [hml]; rfl) (lenOf (by decide : parseMethodDescriptor "(I)V" = some ⟨[.int], none⟩) rfl) rfl (Nat.le_of_eq rfl) (hb hby at_178) e705 ?_
      intro T736 L737 v739 X738 hQ
      obtain ⟨rfl, N727', wa729, sa730, g734, g735, K728, O731, Fw732, Fs733⟩ := hQ
      show own_Out _ _ _ _ (T736.setTop (mkF m 181 #[.val (.long p0), .second, .val (.long p1), .second, .val (.long p2), .second, .val (.long p3), .second, .val (.int p4), .val (.int p5), .val (.int W), .val (.ref a9), .val (.ref a48), .val (.ref a530), .val (.ref a572), .val (.ref a616), .val (.ref a662), .unset, .unset, .unset, .unset] [(.ref a711)]))
      have N727 := Fr.app N689 N727'
      have gwa : n0 ≤ wa729 := Nat.le_trans Z0 (Nat.le_trans sz726 g734)
      have gsa : n0 ≤ sa730 := Nat.le_trans gwa (Nat.le_of_lt g735)
      have F740 := own_AJ_keep F715 K728 (ninS (own_ne (by omega)) (nin0))
      have F741 := own_AJ_keep F717 K728 (ninS (own_ne (by omega)) (nin0))
      have F742 := own_AJ_keep F719 K728 (ninS (own_ne (by omega)) (nin0))
      have F743 := own_AJ_keep F721 K728 (ninS (own_ne (by omega)) (nin0))
      have F744 := own_AJ_keep F723 K728 (ninS (own_ne (by omega)) (nin0))
      have F745 := own_AJ_keep F725 K728 (ninS (own_ne (by omega)) (nin0))
      have hK0 : own_K (0 : Int32) 0 := ⟨by decide, by decide⟩
      have hS0 : own_SI (fun _ => 0) (0 : Int32) := ⟨fun _ _ => ⟨(by decide : (0 : Int) ≤ (0 : Int32).toInt), (by decide : (0 : Int32).toInt ≤ (0 : Int32).toInt)⟩, fun _ _ _ _ _ z => absurd rfl z⟩
      refine own_st (G := T736.setTop (mkF m 183 #[.val (.long p0), .second, .val (.long p1), .second, .val (.long p2), .second, .val (.long p3), .second, .val (.int p4), .val (.int p5), .val (.int W), .val (.ref a9), .val (.ref a48), .val (.ref a530), .val (.ref a572), .val (.ref a616), .val (.ref a662), .val (.ref a711), .unset, .unset, .unset] [])) (fun _ kk => XS.astore X738.here hx rfl (hb hby at_181) rfl rfl (l' := #[.val (.long p0), .second, .val (.long p1), .second, .val (.long p2), .second, .val (.long p3), .second, .val (.int p4), .val (.int p5), .val (.int W), .val (.ref a9), .val (.ref a48), .val (.ref a530), .val (.ref a572), .val (.ref a616), .val (.ref a662), .val (.ref a711), .unset, .unset, .unset]) rfl kk) ?_
      refine own_st (G := T736.setTop (mkF m 185 #[.val (.long p0), .second, .val (.long p1), .second, .val (.long p2), .second, .val (.long p3), .second, .val (.int p4), .val (.int p5), .val (.int W), .val (.ref a9), .val (.ref a48), .val (.ref a530), .val (.ref a572), .val (.ref a616), .val (.ref a662), .val (.ref a711), .unset, .unset, .unset] [(.ref a711)])) (fun _ kk => XS.aload X738.here hx rfl (hb hby at_183) rfl rfl kk) ?_
      refine own_st (G := T736.setTop (mkF m 187 #[.val (.long p0), .second, .val (.long p1), .second, .val (.long p2), .second, .val (.long p3), .second, .val (.int p4), .val (.int p5), .val (.int W), .val (.ref a9), .val (.ref a48), .val (.ref a530), .val (.ref a572), .val (.ref a616), .val (.ref a662), .val (.ref a711), .unset, .unset, .unset] [(.ref a9), (.ref a711)])) (fun _ kk => XS.aload X738.here hx rfl (hb hby at_185) rfl rfl kk) ?_
      refine own_callV X738 hx hZ (y := (⟨"com/example/libbuchi/libbuchi/automata/PackedStates", "add", "([J)I"⟩ : MethodName)) (b := a711) (as' := [(.ref a9)]) hown (own_w hw 17 rfl) (own_w hw 18 rfl) (own_w hw 20 rfl) (own_w hw 19 rfl) (own_w hw 21 rfl) (own_w hw 3 rfl) (by decide) (own_add l Z a0 hw [] a711 a9 wa729 sa730 W (0 : Int32) (fun _ => 0) (own_f3 p0 p1 p2) (fun _ => 0) T736.heap n0 ga gwa gsa (own_ne (by omega)) (own_ne (by omega)) (own_ne (by omega)) O731 Fw732 Fs733 F740 hW ⟨hK0.1, Int.le_trans hK0.2 (by decide)⟩ hS0) (O731).1 0 (by decide) (by decide) (by decide) (by decide) (rest := []) (by rw [hml]; rfl) (lenOf (by decide : parseMethodDescriptor "([J)I" = some ⟨[.array (.long)], some (.int)⟩) rfl) rfl (Nat.le_of_eq rfl) (hb hby at_187) rfl ?_
      intro T756 L757 v759 X758 hQ
      obtain ⟨r748, k749, fw750, fs751, rfl, N746', K747, O752, Fw753, Fs754, R755⟩ := hQ
      show own_Out _ _ _ _ (T756.setTop (mkF m 190 #[.val (.long p0), .second, .val (.long p1), .second, .val (.long p2), .second, .val (.long p3), .second, .val (.int p4), .val (.int p5), .val (.int W), .val (.ref a9), .val (.ref a48), .val (.ref a530), .val (.ref a572), .val (.ref a616), .val (.ref a662), .val (.ref a711), .unset, .unset, .unset] [(.int r748)]))
      have N746 := Fr.app N727 N746'
      have F760 := own_AJ_keep F740 K747 (ninS (own_ne (by omega)) (ninS (own_ne (by omega)) (ninS (own_ne (by omega)) (nin0))))
      have F761 := own_AJ_keep F741 K747 (ninS (own_ne (by omega)) (ninS (own_ne (by omega)) (ninS (own_ne (by omega)) (nin0))))
      have F762 := own_AJ_keep F742 K747 (ninS (own_ne (by omega)) (ninS (own_ne (by omega)) (ninS (own_ne (by omega)) (nin0))))
      have F763 := own_AJ_keep F743 K747 (ninS (own_ne (by omega)) (ninS (own_ne (by omega)) (ninS (own_ne (by omega)) (nin0))))
      have F764 := own_AJ_keep F744 K747 (ninS (own_ne (by omega)) (ninS (own_ne (by omega)) (ninS (own_ne (by omega)) (nin0))))
      have F765 := own_AJ_keep F745 K747 (ninS (own_ne (by omega)) (ninS (own_ne (by omega)) (ninS (own_ne (by omega)) (nin0))))
      have hK766 : own_K k749 1 := own_K_succ hK0 (by decide) R755.1
      have at767 := own_at_of hW R755.2.2.2.1
      refine own_st (G := T756.setTop (mkF m 192 #[.val (.long p0), .second, .val (.long p1), .second, .val (.long p2), .second, .val (.long p3), .second, .val (.int p4), .val (.int p5), .val (.int W), .val (.ref a9), .val (.ref a48), .val (.ref a530), .val (.ref a572), .val (.ref a616), .val (.ref a662), .val (.ref a711), .val (.int r748), .unset, .unset] [])) (fun _ kk => XS.istore X758.here hx rfl (hb hby at_190) rfl (l' := #[.val (.long p0), .second, .val (.long p1), .second, .val (.long p2), .second, .val (.long p3), .second, .val (.int p4), .val (.int p5), .val (.int W), .val (.ref a9), .val (.ref a48), .val (.ref a530), .val (.ref a572), .val (.ref a616), .val (.ref a662), .val (.ref a711), .val (.int r748), .unset, .unset]) rfl kk) ?_
      refine own_st (G := T756.setTop (mkF m 194 #[.val (.long p0), .second, .val (.long p1), .second, .val (.long p2), .second, .val (.long p3), .second, .val (.int p4), .val (.int p5), .val (.int W), .val (.ref a9), .val (.ref a48), .val (.ref a530), .val (.ref a572), .val (.ref a616), .val (.ref a662), .val (.ref a711), .val (.int r748), .unset, .unset] [(.ref a711)])) (fun _ kk => XS.aload X758.here hx rfl (hb hby at_192) rfl rfl kk) ?_
      refine own_st (G := T756.setTop (mkF m 196 #[.val (.long p0), .second, .val (.long p1), .second, .val (.long p2), .second, .val (.long p3), .second, .val (.int p4), .val (.int p5), .val (.int W), .val (.ref a9), .val (.ref a48), .val (.ref a530), .val (.ref a572), .val (.ref a616), .val (.ref a662), .val (.ref a711), .val (.int r748), .unset, .unset] [(.ref a48), (.ref a711)])) (fun _ kk => XS.aload X758.here hx rfl (hb hby at_194) rfl rfl kk) ?_
      refine own_callV X758 hx hZ (y := (⟨"com/example/libbuchi/libbuchi/automata/PackedStates", "add", "([J)I"⟩ : MethodName)) (b := a711) (as' := [(.ref a48)]) hown (own_w hw 17 rfl) (own_w hw 18 rfl) (own_w hw 20 rfl) (own_w hw 19 rfl) (own_w hw 21 rfl) (own_w hw 3 rfl) (by decide) (own_add l Z a0 hw [] a711 a48 wa729 sa730 W k749 fw750 (own_f3 p1 p2 p0) fs751 T756.heap n0 ga gwa gsa (own_ne (by omega)) (own_ne (by omega)) (own_ne (by omega)) O752 Fw753 Fs754 F761 hW ⟨hK766.1, Int.le_trans hK766.2 (by decide)⟩ R755.2.1) (O752).1 0 (by decide) (by decide) (by decide) (by decide) (rest := []) (by rw [hml]; rfl) (lenOf (by decide : parseMethodDescriptor "([J)I" = some ⟨[.array (.long)], some (.int)⟩) rfl) rfl (Nat.le_of_eq rfl) (hb hby at_196) rfl ?_
      intro T778 L779 v781 X780 hQ
      obtain ⟨r770, k771, fw772, fs773, rfl, N768', K769, O774, Fw775, Fs776, R777⟩ := hQ
      show own_Out _ _ _ _ (T778.setTop (mkF m 199 #[.val (.long p0), .second, .val (.long p1), .second, .val (.long p2), .second, .val (.long p3), .second, .val (.int p4), .val (.int p5), .val (.int W), .val (.ref a9), .val (.ref a48), .val (.ref a530), .val (.ref a572), .val (.ref a616), .val (.ref a662), .val (.ref a711), .val (.int r748), .unset, .unset] [(.int r770)]))
      have N768 := Fr.app N746 N768'
      have F782 := own_AJ_keep F760 K769 (ninS (own_ne (by omega)) (ninS (own_ne (by omega)) (ninS (own_ne (by omega)) (nin0))))
      have F783 := own_AJ_keep F761 K769 (ninS (own_ne (by omega)) (ninS (own_ne (by omega)) (ninS (own_ne (by omega)) (nin0))))
      have F784 := own_AJ_keep F762 K769 (ninS (own_ne (by omega)) (ninS (own_ne (by omega)) (ninS (own_ne (by omega)) (nin0))))
      have F785 := own_AJ_keep F763 K769 (ninS (own_ne (by omega)) (ninS (own_ne (by omega)) (ninS (own_ne (by omega)) (nin0))))
      have F786 := own_AJ_keep F764 K769 (ninS (own_ne (by omega)) (ninS (own_ne (by omega)) (ninS (own_ne (by omega)) (nin0))))
      have F787 := own_AJ_keep F765 K769 (ninS (own_ne (by omega)) (ninS (own_ne (by omega)) (ninS (own_ne (by omega)) (nin0))))
      have hK788 : own_K k771 2 := own_K_succ hK766 (by decide) R777.1
      have hr789 := own_chain (k' := 0) R755.2.2.2.2.2 R755.2.2.2.2.1 R777.2.2.1
      have lr790 := Nat.lt_of_lt_of_le R755.2.2.2.2.1 (own_kle hK766 (by decide) R777.1)
      have at791 := own_at_of hW R777.2.2.2.1
      refine own_st (G := T778.setTop (mkF m 201 #[.val (.long p0), .second, .val (.long p1), .second, .val (.long p2), .second, .val (.long p3), .second, .val (.int p4), .val (.int p5), .val (.int W), .val (.ref a9), .val (.ref a48), .val (.ref a530), .val (.ref a572), .val (.ref a616), .val (.ref a662), .val (.ref a711), .val (.int r748), .val (.int r770), .unset] [])) (fun _ kk => XS.istore X780.here hx rfl (hb hby at_199) rfl (l' := #[.val (.long p0), .second, .val (.long p1), .second, .val (.long p2), .second, .val (.long p3), .second, .val (.int p4), .val (.int p5), .val (.int W), .val (.ref a9), .val (.ref a48), .val (.ref a530), .val (.ref a572), .val (.ref a616), .val (.ref a662), .val (.ref a711), .val (.int r748), .val (.int r770), .unset]) rfl kk) ?_
      refine own_st (G := T778.setTop (mkF m 203 #[.val (.long p0), .second, .val (.long p1), .second, .val (.long p2), .second, .val (.long p3), .second, .val (.int p4), .val (.int p5), .val (.int W), .val (.ref a9), .val (.ref a48), .val (.ref a530), .val (.ref a572), .val (.ref a616), .val (.ref a662), .val (.ref a711), .val (.int r748), .val (.int r770), .unset] [(.ref a711)])) (fun _ kk => XS.aload X780.here hx rfl (hb hby at_201) rfl rfl kk) ?_
      refine own_st (G := T778.setTop (mkF m 205 #[.val (.long p0), .second, .val (.long p1), .second, .val (.long p2), .second, .val (.long p3), .second, .val (.int p4), .val (.int p5), .val (.int W), .val (.ref a9), .val (.ref a48), .val (.ref a530), .val (.ref a572), .val (.ref a616), .val (.ref a662), .val (.ref a711), .val (.int r748), .val (.int r770), .unset] [(.ref a530), (.ref a711)])) (fun _ kk => XS.aload X780.here hx rfl (hb hby at_203) rfl rfl kk) ?_
      refine own_callV X780 hx hZ (y := (⟨"com/example/libbuchi/libbuchi/automata/PackedStates", "add", "([J)I"⟩ : MethodName)) (b := a711) (as' := [(.ref a530)]) hown (own_w hw 17 rfl) (own_w hw 18 rfl) (own_w hw 20 rfl) (own_w hw 19 rfl) (own_w hw 21 rfl) (own_w hw 3 rfl) (by decide) (own_add l Z a0 hw [] a711 a530 wa729 sa730 W k771 fw772 (own_f3 p0 p1 p2) fs773 T778.heap n0 ga gwa gsa (own_ne (by omega)) (own_ne (by omega)) (own_ne (by omega)) O774 Fw775 Fs776 F784 hW ⟨hK788.1, Int.le_trans hK788.2 (by decide)⟩ R777.2.1) (O774).1 0 (by decide) (by decide) (by decide) (by decide) (rest := []) (by rw [hml]; rfl) (lenOf (by decide : parseMethodDescriptor "([J)I" = some ⟨[.array (.long)], some (.int)⟩) rfl) rfl (Nat.le_of_eq rfl) (hb hby at_205) rfl ?_
      intro T802 L803 v805 X804 hQ
      obtain ⟨r794, k795, fw796, fs797, rfl, N792', K793, O798, Fw799, Fs800, R801⟩ := hQ
      show own_Out _ _ _ _ (T802.setTop (mkF m 208 #[.val (.long p0), .second, .val (.long p1), .second, .val (.long p2), .second, .val (.long p3), .second, .val (.int p4), .val (.int p5), .val (.int W), .val (.ref a9), .val (.ref a48), .val (.ref a530), .val (.ref a572), .val (.ref a616), .val (.ref a662), .val (.ref a711), .val (.int r748), .val (.int r770), .unset] [(.int r794)]))
      have N792 := Fr.app N768 N792'
      have F806 := own_AJ_keep F782 K793 (ninS (own_ne (by omega)) (ninS (own_ne (by omega)) (ninS (own_ne (by omega)) (nin0))))
      have F807 := own_AJ_keep F783 K793 (ninS (own_ne (by omega)) (ninS (own_ne (by omega)) (ninS (own_ne (by omega)) (nin0))))
      have F808 := own_AJ_keep F784 K793 (ninS (own_ne (by omega)) (ninS (own_ne (by omega)) (ninS (own_ne (by omega)) (nin0))))
      have F809 := own_AJ_keep F785 K793 (ninS (own_ne (by omega)) (ninS (own_ne (by omega)) (ninS (own_ne (by omega)) (nin0))))
      have F810 := own_AJ_keep F786 K793 (ninS (own_ne (by omega)) (ninS (own_ne (by omega)) (ninS (own_ne (by omega)) (nin0))))
      have F811 := own_AJ_keep F787 K793 (ninS (own_ne (by omega)) (ninS (own_ne (by omega)) (ninS (own_ne (by omega)) (nin0))))
      have hK812 : own_K k795 3 := own_K_succ hK788 (by decide) R801.1
      have hr813 := own_chain (k' := 0) hr789 lr790 R801.2.2.1
      have lr814 := Nat.lt_of_lt_of_le lr790 (own_kle hK788 (by decide) R801.1)
      have hr815 := own_chain (k' := 0) R777.2.2.2.2.2 R777.2.2.2.2.1 R801.2.2.1
      have lr816 := Nat.lt_of_lt_of_le R777.2.2.2.2.1 (own_kle hK788 (by decide) R801.1)
      have at817 := own_at_of hW R801.2.2.2.1
      refine own_st (G := T802.setTop (mkF m 210 #[.val (.long p0), .second, .val (.long p1), .second, .val (.long p2), .second, .val (.long p3), .second, .val (.int p4), .val (.int p5), .val (.int W), .val (.ref a9), .val (.ref a48), .val (.ref a530), .val (.ref a572), .val (.ref a616), .val (.ref a662), .val (.ref a711), .val (.int r748), .val (.int r770), .val (.int r794)] [])) (fun _ kk => XS.istore X804.here hx rfl (hb hby at_208) rfl (l' := #[.val (.long p0), .second, .val (.long p1), .second, .val (.long p2), .second, .val (.long p3), .second, .val (.int p4), .val (.int p5), .val (.int W), .val (.ref a9), .val (.ref a48), .val (.ref a530), .val (.ref a572), .val (.ref a616), .val (.ref a662), .val (.ref a711), .val (.int r748), .val (.int r770), .val (.int r794)]) rfl kk) ?_
      refine own_st (G := T802.setTop (mkF m 212 #[.val (.long p0), .second, .val (.long p1), .second, .val (.long p2), .second, .val (.long p3), .second, .val (.int p4), .val (.int p5), .val (.int W), .val (.ref a9), .val (.ref a48), .val (.ref a530), .val (.ref a572), .val (.ref a616), .val (.ref a662), .val (.ref a711), .val (.int r748), .val (.int r770), .val (.int r794)] [(.int p5)])) (fun _ kk => XS.iload X804.here hx rfl (hb hby at_210) rfl kk) ?_
      refine own_st (G := T802.setTop (mkF m 213 #[.val (.long p0), .second, .val (.long p1), .second, .val (.long p2), .second, .val (.long p3), .second, .val (.int p4), .val (.int p5), .val (.int W), .val (.ref a9), .val (.ref a48), .val (.ref a530), .val (.ref a572), .val (.ref a616), .val (.ref a662), .val (.ref a711), .val (.int r748), .val (.int r770), .val (.int r794)] [(.int (4 : Int32)), (.int p5)])) (fun _ kk => XT.iconstV X804.here hx rfl (4 : Int32) (hb hby at_212) (by decide) kk) ?_
      refine own_st (G := T802.setTop (mkF m 214 #[.val (.long p0), .second, .val (.long p1), .second, .val (.long p2), .second, .val (.long p3), .second, .val (.int p4), .val (.int p5), .val (.int W), .val (.ref a9), .val (.ref a48), .val (.ref a530), .val (.ref a572), .val (.ref a616), .val (.ref a662), .val (.ref a711), .val (.int r748), .val (.int r770), .val (.int r794)] [(.int (p5 &&& (4 : Int32)))])) (fun _ kk => XS.iand X804.here hx rfl (hb hby at_213) rfl kk) ?_
      by_cases hc818 : (p5 &&& (4 : Int32)) = (0 : Int32)
      · skip
        refine own_st (G := T802.setTop (mkF m 247 #[.val (.long p0), .second, .val (.long p1), .second, .val (.long p2), .second, .val (.long p3), .second, .val (.int p4), .val (.int p5), .val (.int W), .val (.ref a9), .val (.ref a48), .val (.ref a530), .val (.ref a572), .val (.ref a616), .val (.ref a662), .val (.ref a711), .val (.int r748), .val (.int r770), .val (.int r794)] [])) (fun _ kk => XS.ifYes X804.here hx rfl (pc0 := 214) (pc' := 247) rfl (hb hby at_214) rfl (XT.i0_eq_t hc818) (by decide) (by decide) kk) ?_
        refine own_st (G := T802.setTop (mkF m 249 #[.val (.long p0), .second, .val (.long p1), .second, .val (.long p2), .second, .val (.long p3), .second, .val (.int p4), .val (.int p5), .val (.int W), .val (.ref a9), .val (.ref a48), .val (.ref a530), .val (.ref a572), .val (.ref a616), .val (.ref a662), .val (.ref a711), .val (.int r748), .val (.int r770), .val (.int r794)] [(.ref a711)])) (fun _ kk => XS.aload X804.here hx rfl (hb hby at_247) rfl rfl kk) ?_
        refine own_st (G := T802.setTop (mkF m 251 #[.val (.long p0), .second, .val (.long p1), .second, .val (.long p2), .second, .val (.long p3), .second, .val (.int p4), .val (.int p5), .val (.int W), .val (.ref a9), .val (.ref a48), .val (.ref a530), .val (.ref a572), .val (.ref a616), .val (.ref a662), .val (.ref a711), .val (.int r748), .val (.int r770), .val (.int r794)] [(.int r748), (.ref a711)])) (fun _ kk => XS.iload X804.here hx rfl (hb hby at_249) rfl kk) ?_
        refine own_st (G := T802.setTop (mkF m 253 #[.val (.long p0), .second, .val (.long p1), .second, .val (.long p2), .second, .val (.long p3), .second, .val (.int p4), .val (.int p5), .val (.int W), .val (.ref a9), .val (.ref a48), .val (.ref a530), .val (.ref a572), .val (.ref a616), .val (.ref a662), .val (.ref a711), .val (.int r748), .val (.int r770), .val (.int r794)] [(.ref a572), (.int r748), (.ref a711)])) (fun _ kk => XS.aload X804.here hx rfl (hb hby at_251) rfl rfl kk) ?_
        refine own_callV X804 hx hZ (y := (⟨"com/example/libbuchi/libbuchi/automata/PackedStates", "get", "(I[J)V"⟩ : MethodName)) (b := a711) (as' := [(.int r748), (.ref a572)]) hown (own_w hw 34 rfl) (own_w hw 35 rfl) (own_w hw 37 rfl) (own_w hw 36 rfl) (own_w hw 38 rfl) (own_w hw 3 rfl) (by decide) (own_get l Z a0 hw [] r748 a711 a572 wa729 sa730 W k795 fw796 (own_f3 p3 p3 p3) T802.heap n0 gea572 O798 Fw799 F809 hW at767) (O798).1 0 (by decide) (by decide) (by decide) (by decide) (rest := []) (by rw [hml]; rfl) (lenOf (by decide : parseMethodDescriptor "(I[J)V" = some ⟨[.int, .array (.long)], none⟩) rfl) rfl (Nat.le_of_eq rfl) (hb hby at_253) rfl ?_
        intro T822 L823 v825 X824 hQ
        obtain ⟨rfl, N819', K820, F821⟩ := hQ
        show own_Out _ _ _ _ (T822.setTop (mkF m 256 #[.val (.long p0), .second, .val (.long p1), .second, .val (.long p2), .second, .val (.long p3), .second, .val (.int p4), .val (.int p5), .val (.int W), .val (.ref a9), .val (.ref a48), .val (.ref a530), .val (.ref a572), .val (.ref a616), .val (.ref a662), .val (.ref a711), .val (.int r748), .val (.int r770), .val (.int r794)] []))
        have N819 := Fr.app N792 N819'
        have F826 := own_AJ_keep F806 K820 (ninS (own_ne (by omega)) (nin0))
        have F827 := own_AJ_keep F807 K820 (ninS (own_ne (by omega)) (nin0))
        have F828 := own_AJ_keep F808 K820 (ninS (own_ne (by omega)) (nin0))
        have F829 := own_AJ_keep F810 K820 (ninS (own_ne (by omega)) (nin0))
        have F830 := own_AJ_keep F811 K820 (ninS (own_ne (by omega)) (nin0))
        have O831 := own_P_keep K820 (ninS (own_ne (by omega)) (nin0)) O798
        have Fw832 := own_AJ_keep Fw799 K820 (ninS (own_ne (by omega)) (nin0))
        obtain ⟨gf834, gq835⟩ : ∃ z : Nat → Int64, z = (fun i => if 0 ≤ i ∧ i < 0 + W.toNatClampNeg then fw796 (r748.toNatClampNeg * W.toNatClampNeg + (i - 0)) else (own_f3 p3 p3 p3) i) := ⟨_, rfl⟩
        rw [← gq835] at F821
        have hm833 := own_fin hW hr813 (sn := p3) rfl rfl rfl gf834 gq835
        refine own_st (G := T822.setTop (mkF m 258 #[.val (.long p0), .second, .val (.long p1), .second, .val (.long p2), .second, .val (.long p3), .second, .val (.int p4), .val (.int p5), .val (.int W), .val (.ref a9), .val (.ref a48), .val (.ref a530), .val (.ref a572), .val (.ref a616), .val (.ref a662), .val (.ref a711), .val (.int r748), .val (.int r770), .val (.int r794)] [(.ref a711)])) (fun _ kk => XS.aload X824.here hx rfl (hb hby at_256) rfl rfl kk) ?_
        refine own_st (G := T822.setTop (mkF m 260 #[.val (.long p0), .second, .val (.long p1), .second, .val (.long p2), .second, .val (.long p3), .second, .val (.int p4), .val (.int p5), .val (.int W), .val (.ref a9), .val (.ref a48), .val (.ref a530), .val (.ref a572), .val (.ref a616), .val (.ref a662), .val (.ref a711), .val (.int r748), .val (.int r770), .val (.int r794)] [(.int r770), (.ref a711)])) (fun _ kk => XS.iload X824.here hx rfl (hb hby at_258) rfl kk) ?_
        refine own_st (G := T822.setTop (mkF m 262 #[.val (.long p0), .second, .val (.long p1), .second, .val (.long p2), .second, .val (.long p3), .second, .val (.int p4), .val (.int p5), .val (.int W), .val (.ref a9), .val (.ref a48), .val (.ref a530), .val (.ref a572), .val (.ref a616), .val (.ref a662), .val (.ref a711), .val (.int r748), .val (.int r770), .val (.int r794)] [(.ref a616), (.int r770), (.ref a711)])) (fun _ kk => XS.aload X824.here hx rfl (hb hby at_260) rfl rfl kk) ?_
        refine own_callV X824 hx hZ (y := (⟨"com/example/libbuchi/libbuchi/automata/PackedStates", "get", "(I[J)V"⟩ : MethodName)) (b := a711) (as' := [(.int r770), (.ref a616)]) hown (own_w hw 34 rfl) (own_w hw 35 rfl) (own_w hw 37 rfl) (own_w hw 36 rfl) (own_w hw 38 rfl) (own_w hw 3 rfl) (by decide) (own_get l Z a0 hw [] r770 a711 a616 wa729 sa730 W k795 fw796 (own_f3 p3 p3 p3) T822.heap n0 gea616 O831 Fw832 F829 hW at791) (O831).1 0 (by decide) (by decide) (by decide) (by decide) (rest := []) (by rw [hml]; rfl) (lenOf (by decide : parseMethodDescriptor "(I[J)V" = some ⟨[.int, .array (.long)], none⟩) rfl) rfl (Nat.le_of_eq rfl) (hb hby at_262) rfl ?_
        intro T839 L840 v842 X841 hQ
        obtain ⟨rfl, N836', K837, F838⟩ := hQ
        show own_Out _ _ _ _ (T839.setTop (mkF m 265 #[.val (.long p0), .second, .val (.long p1), .second, .val (.long p2), .second, .val (.long p3), .second, .val (.int p4), .val (.int p5), .val (.int W), .val (.ref a9), .val (.ref a48), .val (.ref a530), .val (.ref a572), .val (.ref a616), .val (.ref a662), .val (.ref a711), .val (.int r748), .val (.int r770), .val (.int r794)] []))
        have N836 := Fr.app N819 N836'
        have F843 := own_AJ_keep F826 K837 (ninS (own_ne (by omega)) (nin0))
        have F844 := own_AJ_keep F827 K837 (ninS (own_ne (by omega)) (nin0))
        have F845 := own_AJ_keep F828 K837 (ninS (own_ne (by omega)) (nin0))
        have F846 := own_AJ_keep F821 K837 (ninS (own_ne (by omega)) (nin0))
        have F847 := own_AJ_keep F830 K837 (ninS (own_ne (by omega)) (nin0))
        have O848 := own_P_keep K837 (ninS (own_ne (by omega)) (nin0)) O831
        have Fw849 := own_AJ_keep Fw832 K837 (ninS (own_ne (by omega)) (nin0))
        obtain ⟨gf851, gq852⟩ : ∃ z : Nat → Int64, z = (fun i => if 0 ≤ i ∧ i < 0 + W.toNatClampNeg then fw796 (r770.toNatClampNeg * W.toNatClampNeg + (i - 0)) else (own_f3 p3 p3 p3) i) := ⟨_, rfl⟩
        rw [← gq852] at F838
        have hm850 := own_fin hW hr815 (sn := p3) rfl rfl rfl gf851 gq852
        refine own_st (G := T839.setTop (mkF m 267 #[.val (.long p0), .second, .val (.long p1), .second, .val (.long p2), .second, .val (.long p3), .second, .val (.int p4), .val (.int p5), .val (.int W), .val (.ref a9), .val (.ref a48), .val (.ref a530), .val (.ref a572), .val (.ref a616), .val (.ref a662), .val (.ref a711), .val (.int r748), .val (.int r770), .val (.int r794)] [(.ref a711)])) (fun _ kk => XS.aload X841.here hx rfl (hb hby at_265) rfl rfl kk) ?_
        refine own_st (G := T839.setTop (mkF m 269 #[.val (.long p0), .second, .val (.long p1), .second, .val (.long p2), .second, .val (.long p3), .second, .val (.int p4), .val (.int p5), .val (.int W), .val (.ref a9), .val (.ref a48), .val (.ref a530), .val (.ref a572), .val (.ref a616), .val (.ref a662), .val (.ref a711), .val (.int r748), .val (.int r770), .val (.int r794)] [(.int r794), (.ref a711)])) (fun _ kk => XS.iload X841.here hx rfl (hb hby at_267) rfl kk) ?_
        refine own_st (G := T839.setTop (mkF m 271 #[.val (.long p0), .second, .val (.long p1), .second, .val (.long p2), .second, .val (.long p3), .second, .val (.int p4), .val (.int p5), .val (.int W), .val (.ref a9), .val (.ref a48), .val (.ref a530), .val (.ref a572), .val (.ref a616), .val (.ref a662), .val (.ref a711), .val (.int r748), .val (.int r770), .val (.int r794)] [(.ref a662), (.int r794), (.ref a711)])) (fun _ kk => XS.aload X841.here hx rfl (hb hby at_269) rfl rfl kk) ?_
        refine own_callV X841 hx hZ (y := (⟨"com/example/libbuchi/libbuchi/automata/PackedStates", "get", "(I[J)V"⟩ : MethodName)) (b := a711) (as' := [(.int r794), (.ref a662)]) hown (own_w hw 34 rfl) (own_w hw 35 rfl) (own_w hw 37 rfl) (own_w hw 36 rfl) (own_w hw 38 rfl) (own_w hw 3 rfl) (by decide) (own_get l Z a0 hw [] r794 a711 a662 wa729 sa730 W k795 fw796 (own_f3 p3 p3 p3) T839.heap n0 gea662 O848 Fw849 F847 hW at817) (O848).1 0 (by decide) (by decide) (by decide) (by decide) (rest := []) (by rw [hml]; rfl) (lenOf (by decide : parseMethodDescriptor "(I[J)V" = some ⟨[.int, .array (.long)], none⟩) rfl) rfl (Nat.le_of_eq rfl) (hb hby at_271) rfl ?_
        intro T856 L857 v859 X858 hQ
        obtain ⟨rfl, N853', K854, F855⟩ := hQ
        show own_Out _ _ _ _ (T856.setTop (mkF m 274 #[.val (.long p0), .second, .val (.long p1), .second, .val (.long p2), .second, .val (.long p3), .second, .val (.int p4), .val (.int p5), .val (.int W), .val (.ref a9), .val (.ref a48), .val (.ref a530), .val (.ref a572), .val (.ref a616), .val (.ref a662), .val (.ref a711), .val (.int r748), .val (.int r770), .val (.int r794)] []))
        have N853 := Fr.app N836 N853'
        have F860 := own_AJ_keep F843 K854 (ninS (own_ne (by omega)) (nin0))
        have F861 := own_AJ_keep F844 K854 (ninS (own_ne (by omega)) (nin0))
        have F862 := own_AJ_keep F845 K854 (ninS (own_ne (by omega)) (nin0))
        have F863 := own_AJ_keep F846 K854 (ninS (own_ne (by omega)) (nin0))
        have F864 := own_AJ_keep F838 K854 (ninS (own_ne (by omega)) (nin0))
        have O865 := own_P_keep K854 (ninS (own_ne (by omega)) (nin0)) O848
        have Fw866 := own_AJ_keep Fw849 K854 (ninS (own_ne (by omega)) (nin0))
        obtain ⟨gf868, gq869⟩ : ∃ z : Nat → Int64, z = (fun i => if 0 ≤ i ∧ i < 0 + W.toNatClampNeg then fw796 (r794.toNatClampNeg * W.toNatClampNeg + (i - 0)) else (own_f3 p3 p3 p3) i) := ⟨_, rfl⟩
        rw [← gq869] at F855
        have hm867 := own_fin hW R801.2.2.2.2.2 (sn := p3) rfl rfl rfl gf868 gq869
        refine own_st (G := T856.setTop (mkF m 276 #[.val (.long p0), .second, .val (.long p1), .second, .val (.long p2), .second, .val (.long p3), .second, .val (.int p4), .val (.int p5), .val (.int W), .val (.ref a9), .val (.ref a48), .val (.ref a530), .val (.ref a572), .val (.ref a616), .val (.ref a662), .val (.ref a711), .val (.int r748), .val (.int r770), .val (.int r794)] [(.ref a572)])) (fun _ kk => XS.aload X858.here hx rfl (hb hby at_274) rfl rfl kk) ?_
        refine own_st (G := T856.setTop (mkF m 278 #[.val (.long p0), .second, .val (.long p1), .second, .val (.long p2), .second, .val (.long p3), .second, .val (.int p4), .val (.int p5), .val (.int W), .val (.ref a9), .val (.ref a48), .val (.ref a530), .val (.ref a572), .val (.ref a616), .val (.ref a662), .val (.ref a711), .val (.int r748), .val (.int r770), .val (.int r794)] [(.ref a9), (.ref a572)])) (fun _ kk => XS.aload X858.here hx rfl (hb hby at_276) rfl rfl kk) ?_
        refine own_st (G := T856.setTop (mkF m 280 #[.val (.long p0), .second, .val (.long p1), .second, .val (.long p2), .second, .val (.long p3), .second, .val (.int p4), .val (.int p5), .val (.int W), .val (.ref a9), .val (.ref a48), .val (.ref a530), .val (.ref a572), .val (.ref a616), .val (.ref a662), .val (.ref a711), .val (.int r748), .val (.int r770), .val (.int r794)] [(.int W), (.ref a9), (.ref a572)])) (fun _ kk => XS.iload X858.here hx rfl (hb hby at_278) rfl kk) ?_
        refine own_st (G := T856.setTop (mkF m 282 #[.val (.long p0), .second, .val (.long p1), .second, .val (.long p2), .second, .val (.long p3), .second, .val (.int p4), .val (.int p5), .val (.int W), .val (.ref a9), .val (.ref a48), .val (.ref a530), .val (.ref a572), .val (.ref a616), .val (.ref a662), .val (.ref a711), .val (.int r748), .val (.int r770), .val (.int r794)] [(.long p3), (.int W), (.ref a9), (.ref a572)])) (fun _ kk => XS.lload X858.here hx rfl (hb hby at_280) rfl kk) ?_
        refine own_callS X858 hx hZ (y := (⟨"com/example/libbuchi/libbuchi/automata/PackedStatesGetPinLaw", "matches", "([J[JIJ)Z"⟩ : MethodName)) (as' := [(.ref a572), (.ref a9), (.int W), (.long p3)]) hown (own_w hw 39 rfl) (own_w hw 40 rfl) (own_w hw 41 rfl) (own_w hw 42 rfl) (by decide) (own_mat l Z a0 hw [] W p3 a572 a9 gf834 (own_f3 p0 p1 p2) T856.heap n0 F863 F860 hm833.1 hm833.2.1 hm833.2.2) 0 (by decide) (by decide) (by decide) (by decide) (rest := []) (by rw [hml]; rfl) (lenOf (by decide : parseMethodDescriptor "([J[JIJ)Z" = some ⟨[.array (.long), .array (.long), .int, .long], some (.boolean)⟩) rfl) rfl (Nat.le_of_eq rfl) (hb hby at_282) rfl ?_
        intro T873 L874 v876 X875 hQ
        obtain ⟨rfl, rfl, eq872⟩ := hQ
        show own_Out _ _ _ _ (T873.setTop (mkF m 285 #[.val (.long p0), .second, .val (.long p1), .second, .val (.long p2), .second, .val (.long p3), .second, .val (.int p4), .val (.int p5), .val (.int W), .val (.ref a9), .val (.ref a48), .val (.ref a530), .val (.ref a572), .val (.ref a616), .val (.ref a662), .val (.ref a711), .val (.int r748), .val (.int r770), .val (.int r794)] [(.int (1 : Int32))]))
        have N870 := Fr.app N853 (Fr.nil n0)
        refine own_st (G := T873.setTop (mkF m 288 #[.val (.long p0), .second, .val (.long p1), .second, .val (.long p2), .second, .val (.long p3), .second, .val (.int p4), .val (.int p5), .val (.int W), .val (.ref a9), .val (.ref a48), .val (.ref a530), .val (.ref a572), .val (.ref a616), .val (.ref a662), .val (.ref a711), .val (.int r748), .val (.int r770), .val (.int r794)] [])) (fun _ kk => XS.ifNo X875.here hx rfl (hb hby at_285) rfl (XT.i0_eq_f (by decide : ¬ (1 : Int32) = (0 : Int32))) kk) ?_
        refine own_st (G := T873.setTop (mkF m 290 #[.val (.long p0), .second, .val (.long p1), .second, .val (.long p2), .second, .val (.long p3), .second, .val (.int p4), .val (.int p5), .val (.int W), .val (.ref a9), .val (.ref a48), .val (.ref a530), .val (.ref a572), .val (.ref a616), .val (.ref a662), .val (.ref a711), .val (.int r748), .val (.int r770), .val (.int r794)] [(.ref a616)])) (fun _ kk => XS.aload X875.here hx rfl (hb hby at_288) rfl rfl kk) ?_
        refine own_st (G := T873.setTop (mkF m 292 #[.val (.long p0), .second, .val (.long p1), .second, .val (.long p2), .second, .val (.long p3), .second, .val (.int p4), .val (.int p5), .val (.int W), .val (.ref a9), .val (.ref a48), .val (.ref a530), .val (.ref a572), .val (.ref a616), .val (.ref a662), .val (.ref a711), .val (.int r748), .val (.int r770), .val (.int r794)] [(.ref a48), (.ref a616)])) (fun _ kk => XS.aload X875.here hx rfl (hb hby at_290) rfl rfl kk) ?_
        refine own_st (G := T873.setTop (mkF m 294 #[.val (.long p0), .second, .val (.long p1), .second, .val (.long p2), .second, .val (.long p3), .second, .val (.int p4), .val (.int p5), .val (.int W), .val (.ref a9), .val (.ref a48), .val (.ref a530), .val (.ref a572), .val (.ref a616), .val (.ref a662), .val (.ref a711), .val (.int r748), .val (.int r770), .val (.int r794)] [(.int W), (.ref a48), (.ref a616)])) (fun _ kk => XS.iload X875.here hx rfl (hb hby at_292) rfl kk) ?_
        refine own_st (G := T873.setTop (mkF m 296 #[.val (.long p0), .second, .val (.long p1), .second, .val (.long p2), .second, .val (.long p3), .second, .val (.int p4), .val (.int p5), .val (.int W), .val (.ref a9), .val (.ref a48), .val (.ref a530), .val (.ref a572), .val (.ref a616), .val (.ref a662), .val (.ref a711), .val (.int r748), .val (.int r770), .val (.int r794)] [(.long p3), (.int W), (.ref a48), (.ref a616)])) (fun _ kk => XS.lload X875.here hx rfl (hb hby at_294) rfl kk) ?_
        refine own_callS X875 hx hZ (y := (⟨"com/example/libbuchi/libbuchi/automata/PackedStatesGetPinLaw", "matches", "([J[JIJ)Z"⟩ : MethodName)) (as' := [(.ref a616), (.ref a48), (.int W), (.long p3)]) hown (own_w hw 39 rfl) (own_w hw 40 rfl) (own_w hw 41 rfl) (own_w hw 42 rfl) (by decide) (own_mat l Z a0 hw [] W p3 a616 a48 gf851 (own_f3 p1 p2 p0) T856.heap n0 F864 F861 hm850.1 hm850.2.1 hm850.2.2) 0 (by decide) (by decide) (by decide) (by decide) (rest := []) (by rw [hml]; rfl) (lenOf (by decide : parseMethodDescriptor "([J[JIJ)Z" = some ⟨[.array (.long), .array (.long), .int, .long], some (.boolean)⟩) rfl) rfl (Nat.le_of_eq rfl) (hb hby at_296) eq872 ?_
        intro T880 L881 v883 X882 hQ
        obtain ⟨rfl, rfl, eq879⟩ := hQ
        show own_Out _ _ _ _ (T880.setTop (mkF m 299 #[.val (.long p0), .second, .val (.long p1), .second, .val (.long p2), .second, .val (.long p3), .second, .val (.int p4), .val (.int p5), .val (.int W), .val (.ref a9), .val (.ref a48), .val (.ref a530), .val (.ref a572), .val (.ref a616), .val (.ref a662), .val (.ref a711), .val (.int r748), .val (.int r770), .val (.int r794)] [(.int (1 : Int32))]))
        have N877 := Fr.app N870 (Fr.nil n0)
        refine own_st (G := T880.setTop (mkF m 302 #[.val (.long p0), .second, .val (.long p1), .second, .val (.long p2), .second, .val (.long p3), .second, .val (.int p4), .val (.int p5), .val (.int W), .val (.ref a9), .val (.ref a48), .val (.ref a530), .val (.ref a572), .val (.ref a616), .val (.ref a662), .val (.ref a711), .val (.int r748), .val (.int r770), .val (.int r794)] [])) (fun _ kk => XS.ifNo X882.here hx rfl (hb hby at_299) rfl (XT.i0_eq_f (by decide : ¬ (1 : Int32) = (0 : Int32))) kk) ?_
        refine own_st (G := T880.setTop (mkF m 304 #[.val (.long p0), .second, .val (.long p1), .second, .val (.long p2), .second, .val (.long p3), .second, .val (.int p4), .val (.int p5), .val (.int W), .val (.ref a9), .val (.ref a48), .val (.ref a530), .val (.ref a572), .val (.ref a616), .val (.ref a662), .val (.ref a711), .val (.int r748), .val (.int r770), .val (.int r794)] [(.ref a662)])) (fun _ kk => XS.aload X882.here hx rfl (hb hby at_302) rfl rfl kk) ?_
        refine own_st (G := T880.setTop (mkF m 306 #[.val (.long p0), .second, .val (.long p1), .second, .val (.long p2), .second, .val (.long p3), .second, .val (.int p4), .val (.int p5), .val (.int W), .val (.ref a9), .val (.ref a48), .val (.ref a530), .val (.ref a572), .val (.ref a616), .val (.ref a662), .val (.ref a711), .val (.int r748), .val (.int r770), .val (.int r794)] [(.ref a530), (.ref a662)])) (fun _ kk => XS.aload X882.here hx rfl (hb hby at_304) rfl rfl kk) ?_
        refine own_st (G := T880.setTop (mkF m 308 #[.val (.long p0), .second, .val (.long p1), .second, .val (.long p2), .second, .val (.long p3), .second, .val (.int p4), .val (.int p5), .val (.int W), .val (.ref a9), .val (.ref a48), .val (.ref a530), .val (.ref a572), .val (.ref a616), .val (.ref a662), .val (.ref a711), .val (.int r748), .val (.int r770), .val (.int r794)] [(.int W), (.ref a530), (.ref a662)])) (fun _ kk => XS.iload X882.here hx rfl (hb hby at_306) rfl kk) ?_
        refine own_st (G := T880.setTop (mkF m 310 #[.val (.long p0), .second, .val (.long p1), .second, .val (.long p2), .second, .val (.long p3), .second, .val (.int p4), .val (.int p5), .val (.int W), .val (.ref a9), .val (.ref a48), .val (.ref a530), .val (.ref a572), .val (.ref a616), .val (.ref a662), .val (.ref a711), .val (.int r748), .val (.int r770), .val (.int r794)] [(.long p3), (.int W), (.ref a530), (.ref a662)])) (fun _ kk => XS.lload X882.here hx rfl (hb hby at_308) rfl kk) ?_
        refine own_callS X882 hx hZ (y := (⟨"com/example/libbuchi/libbuchi/automata/PackedStatesGetPinLaw", "matches", "([J[JIJ)Z"⟩ : MethodName)) (as' := [(.ref a662), (.ref a530), (.int W), (.long p3)]) hown (own_w hw 39 rfl) (own_w hw 40 rfl) (own_w hw 41 rfl) (own_w hw 42 rfl) (by decide) (own_mat l Z a0 hw [] W p3 a662 a530 gf868 (own_f3 p0 p1 p2) T856.heap n0 F855 F862 hm867.1 hm867.2.1 hm867.2.2) 0 (by decide) (by decide) (by decide) (by decide) (rest := []) (by rw [hml]; rfl) (lenOf (by decide : parseMethodDescriptor "([J[JIJ)Z" = some ⟨[.array (.long), .array (.long), .int, .long], some (.boolean)⟩) rfl) rfl (Nat.le_of_eq rfl) (hb hby at_310) eq879 ?_
        intro T887 L888 v890 X889 hQ
        obtain ⟨rfl, rfl, eq886⟩ := hQ
        show own_Out _ _ _ _ (T887.setTop (mkF m 313 #[.val (.long p0), .second, .val (.long p1), .second, .val (.long p2), .second, .val (.long p3), .second, .val (.int p4), .val (.int p5), .val (.int W), .val (.ref a9), .val (.ref a48), .val (.ref a530), .val (.ref a572), .val (.ref a616), .val (.ref a662), .val (.ref a711), .val (.int r748), .val (.int r770), .val (.int r794)] [(.int (1 : Int32))]))
        have N884 := Fr.app N877 (Fr.nil n0)
        refine own_st (G := T887.setTop (mkF m 316 #[.val (.long p0), .second, .val (.long p1), .second, .val (.long p2), .second, .val (.long p3), .second, .val (.int p4), .val (.int p5), .val (.int W), .val (.ref a9), .val (.ref a48), .val (.ref a530), .val (.ref a572), .val (.ref a616), .val (.ref a662), .val (.ref a711), .val (.int r748), .val (.int r770), .val (.int r794)] [])) (fun _ kk => XS.ifNo X889.here hx rfl (hb hby at_313) rfl (XT.i0_eq_f (by decide : ¬ (1 : Int32) = (0 : Int32))) kk) ?_
        refine own_st (G := T887.setTop (mkF m 317 #[.val (.long p0), .second, .val (.long p1), .second, .val (.long p2), .second, .val (.long p3), .second, .val (.int p4), .val (.int p5), .val (.int W), .val (.ref a9), .val (.ref a48), .val (.ref a530), .val (.ref a572), .val (.ref a616), .val (.ref a662), .val (.ref a711), .val (.int r748), .val (.int r770), .val (.int r794)] [(.int (1 : Int32))])) (fun _ kk => XT.iconstV X889.here hx rfl (1 : Int32) (hb hby at_316) (by decide) kk) ?_
        refine own_st (G := T887.setTop (mkF m 321 #[.val (.long p0), .second, .val (.long p1), .second, .val (.long p2), .second, .val (.long p3), .second, .val (.int p4), .val (.int p5), .val (.int W), .val (.ref a9), .val (.ref a48), .val (.ref a530), .val (.ref a572), .val (.ref a616), .val (.ref a662), .val (.ref a711), .val (.int r748), .val (.int r770), .val (.int r794)] [(.int (1 : Int32))])) (fun _ kk => XS.goto X889.here hx rfl (pc0 := 317) (pc' := 321) rfl (hb hby at_317) (by decide) (by decide) kk) ?_
        refine own_retB X889 hx hret (by simp) hlk (hb hby at_321) (by decide) (by decide) ?_
        exact ⟨rfl, N884⟩
      · skip
        refine own_st (G := T802.setTop (mkF m 217 #[.val (.long p0), .second, .val (.long p1), .second, .val (.long p2), .second, .val (.long p3), .second, .val (.int p4), .val (.int p5), .val (.int W), .val (.ref a9), .val (.ref a48), .val (.ref a530), .val (.ref a572), .val (.ref a616), .val (.ref a662), .val (.ref a711), .val (.int r748), .val (.int r770), .val (.int r794)] [])) (fun _ kk => XS.ifNo X804.here hx rfl (hb hby at_214) rfl (XT.i0_eq_f hc818) kk) ?_
        refine own_st (G := T802.setTop (mkF m 219 #[.val (.long p0), .second, .val (.long p1), .second, .val (.long p2), .second, .val (.long p3), .second, .val (.int p4), .val (.int p5), .val (.int W), .val (.ref a9), .val (.ref a48), .val (.ref a530), .val (.ref a572), .val (.ref a616), .val (.ref a662), .val (.ref a711), .val (.int r748), .val (.int r770), .val (.int r794)] [(.ref a711)])) (fun _ kk => XS.aload X804.here hx rfl (hb hby at_217) rfl rfl kk) ?_
        refine own_st (G := T802.setTop (mkF m 221 #[.val (.long p0), .second, .val (.long p1), .second, .val (.long p2), .second, .val (.long p3), .second, .val (.int p4), .val (.int p5), .val (.int W), .val (.ref a9), .val (.ref a48), .val (.ref a530), .val (.ref a572), .val (.ref a616), .val (.ref a662), .val (.ref a711), .val (.int r748), .val (.int r770), .val (.int r794)] [(.int r794), (.ref a711)])) (fun _ kk => XS.iload X804.here hx rfl (hb hby at_219) rfl kk) ?_
        refine own_st (G := T802.setTop (mkF m 223 #[.val (.long p0), .second, .val (.long p1), .second, .val (.long p2), .second, .val (.long p3), .second, .val (.int p4), .val (.int p5), .val (.int W), .val (.ref a9), .val (.ref a48), .val (.ref a530), .val (.ref a572), .val (.ref a616), .val (.ref a662), .val (.ref a711), .val (.int r748), .val (.int r770), .val (.int r794)] [(.ref a662), (.int r794), (.ref a711)])) (fun _ kk => XS.aload X804.here hx rfl (hb hby at_221) rfl rfl kk) ?_
        refine own_callV X804 hx hZ (y := (⟨"com/example/libbuchi/libbuchi/automata/PackedStates", "get", "(I[J)V"⟩ : MethodName)) (b := a711) (as' := [(.int r794), (.ref a662)]) hown (own_w hw 34 rfl) (own_w hw 35 rfl) (own_w hw 37 rfl) (own_w hw 36 rfl) (own_w hw 38 rfl) (own_w hw 3 rfl) (by decide) (own_get l Z a0 hw [] r794 a711 a662 wa729 sa730 W k795 fw796 (own_f3 p3 p3 p3) T802.heap n0 gea662 O798 Fw799 F811 hW at817) (O798).1 0 (by decide) (by decide) (by decide) (by decide) (rest := []) (by rw [hml]; rfl) (lenOf (by decide : parseMethodDescriptor "(I[J)V" = some ⟨[.int, .array (.long)], none⟩) rfl) rfl (Nat.le_of_eq rfl) (hb hby at_223) rfl ?_
        intro T894 L895 v897 X896 hQ
        obtain ⟨rfl, N891', K892, F893⟩ := hQ
        show own_Out _ _ _ _ (T894.setTop (mkF m 226 #[.val (.long p0), .second, .val (.long p1), .second, .val (.long p2), .second, .val (.long p3), .second, .val (.int p4), .val (.int p5), .val (.int W), .val (.ref a9), .val (.ref a48), .val (.ref a530), .val (.ref a572), .val (.ref a616), .val (.ref a662), .val (.ref a711), .val (.int r748), .val (.int r770), .val (.int r794)] []))
        have N891 := Fr.app N792 N891'
        have F898 := own_AJ_keep F806 K892 (ninS (own_ne (by omega)) (nin0))
        have F899 := own_AJ_keep F807 K892 (ninS (own_ne (by omega)) (nin0))
        have F900 := own_AJ_keep F808 K892 (ninS (own_ne (by omega)) (nin0))
        have F901 := own_AJ_keep F809 K892 (ninS (own_ne (by omega)) (nin0))
        have F902 := own_AJ_keep F810 K892 (ninS (own_ne (by omega)) (nin0))
        have O903 := own_P_keep K892 (ninS (own_ne (by omega)) (nin0)) O798
        have Fw904 := own_AJ_keep Fw799 K892 (ninS (own_ne (by omega)) (nin0))
        obtain ⟨gf906, gq907⟩ : ∃ z : Nat → Int64, z = (fun i => if 0 ≤ i ∧ i < 0 + W.toNatClampNeg then fw796 (r794.toNatClampNeg * W.toNatClampNeg + (i - 0)) else (own_f3 p3 p3 p3) i) := ⟨_, rfl⟩
        rw [← gq907] at F893
        have hm905 := own_fin hW R801.2.2.2.2.2 (sn := p3) rfl rfl rfl gf906 gq907
        refine own_st (G := T894.setTop (mkF m 228 #[.val (.long p0), .second, .val (.long p1), .second, .val (.long p2), .second, .val (.long p3), .second, .val (.int p4), .val (.int p5), .val (.int W), .val (.ref a9), .val (.ref a48), .val (.ref a530), .val (.ref a572), .val (.ref a616), .val (.ref a662), .val (.ref a711), .val (.int r748), .val (.int r770), .val (.int r794)] [(.ref a711)])) (fun _ kk => XS.aload X896.here hx rfl (hb hby at_226) rfl rfl kk) ?_
        refine own_st (G := T894.setTop (mkF m 230 #[.val (.long p0), .second, .val (.long p1), .second, .val (.long p2), .second, .val (.long p3), .second, .val (.int p4), .val (.int p5), .val (.int W), .val (.ref a9), .val (.ref a48), .val (.ref a530), .val (.ref a572), .val (.ref a616), .val (.ref a662), .val (.ref a711), .val (.int r748), .val (.int r770), .val (.int r794)] [(.int r770), (.ref a711)])) (fun _ kk => XS.iload X896.here hx rfl (hb hby at_228) rfl kk) ?_
        refine own_st (G := T894.setTop (mkF m 232 #[.val (.long p0), .second, .val (.long p1), .second, .val (.long p2), .second, .val (.long p3), .second, .val (.int p4), .val (.int p5), .val (.int W), .val (.ref a9), .val (.ref a48), .val (.ref a530), .val (.ref a572), .val (.ref a616), .val (.ref a662), .val (.ref a711), .val (.int r748), .val (.int r770), .val (.int r794)] [(.ref a616), (.int r770), (.ref a711)])) (fun _ kk => XS.aload X896.here hx rfl (hb hby at_230) rfl rfl kk) ?_
        refine own_callV X896 hx hZ (y := (⟨"com/example/libbuchi/libbuchi/automata/PackedStates", "get", "(I[J)V"⟩ : MethodName)) (b := a711) (as' := [(.int r770), (.ref a616)]) hown (own_w hw 34 rfl) (own_w hw 35 rfl) (own_w hw 37 rfl) (own_w hw 36 rfl) (own_w hw 38 rfl) (own_w hw 3 rfl) (by decide) (own_get l Z a0 hw [] r770 a711 a616 wa729 sa730 W k795 fw796 (own_f3 p3 p3 p3) T894.heap n0 gea616 O903 Fw904 F902 hW at791) (O903).1 0 (by decide) (by decide) (by decide) (by decide) (rest := []) (by rw [hml]; rfl) (lenOf (by decide : parseMethodDescriptor "(I[J)V" = some ⟨[.int, .array (.long)], none⟩) rfl) rfl (Nat.le_of_eq rfl) (hb hby at_232) rfl ?_
        intro T911 L912 v914 X913 hQ
        obtain ⟨rfl, N908', K909, F910⟩ := hQ
        show own_Out _ _ _ _ (T911.setTop (mkF m 235 #[.val (.long p0), .second, .val (.long p1), .second, .val (.long p2), .second, .val (.long p3), .second, .val (.int p4), .val (.int p5), .val (.int W), .val (.ref a9), .val (.ref a48), .val (.ref a530), .val (.ref a572), .val (.ref a616), .val (.ref a662), .val (.ref a711), .val (.int r748), .val (.int r770), .val (.int r794)] []))
        have N908 := Fr.app N891 N908'
        have F915 := own_AJ_keep F898 K909 (ninS (own_ne (by omega)) (nin0))
        have F916 := own_AJ_keep F899 K909 (ninS (own_ne (by omega)) (nin0))
        have F917 := own_AJ_keep F900 K909 (ninS (own_ne (by omega)) (nin0))
        have F918 := own_AJ_keep F901 K909 (ninS (own_ne (by omega)) (nin0))
        have F919 := own_AJ_keep F893 K909 (ninS (own_ne (by omega)) (nin0))
        have O920 := own_P_keep K909 (ninS (own_ne (by omega)) (nin0)) O903
        have Fw921 := own_AJ_keep Fw904 K909 (ninS (own_ne (by omega)) (nin0))
        obtain ⟨gf923, gq924⟩ : ∃ z : Nat → Int64, z = (fun i => if 0 ≤ i ∧ i < 0 + W.toNatClampNeg then fw796 (r770.toNatClampNeg * W.toNatClampNeg + (i - 0)) else (own_f3 p3 p3 p3) i) := ⟨_, rfl⟩
        rw [← gq924] at F910
        have hm922 := own_fin hW hr815 (sn := p3) rfl rfl rfl gf923 gq924
        refine own_st (G := T911.setTop (mkF m 237 #[.val (.long p0), .second, .val (.long p1), .second, .val (.long p2), .second, .val (.long p3), .second, .val (.int p4), .val (.int p5), .val (.int W), .val (.ref a9), .val (.ref a48), .val (.ref a530), .val (.ref a572), .val (.ref a616), .val (.ref a662), .val (.ref a711), .val (.int r748), .val (.int r770), .val (.int r794)] [(.ref a711)])) (fun _ kk => XS.aload X913.here hx rfl (hb hby at_235) rfl rfl kk) ?_
        refine own_st (G := T911.setTop (mkF m 239 #[.val (.long p0), .second, .val (.long p1), .second, .val (.long p2), .second, .val (.long p3), .second, .val (.int p4), .val (.int p5), .val (.int W), .val (.ref a9), .val (.ref a48), .val (.ref a530), .val (.ref a572), .val (.ref a616), .val (.ref a662), .val (.ref a711), .val (.int r748), .val (.int r770), .val (.int r794)] [(.int r748), (.ref a711)])) (fun _ kk => XS.iload X913.here hx rfl (hb hby at_237) rfl kk) ?_
        refine own_st (G := T911.setTop (mkF m 241 #[.val (.long p0), .second, .val (.long p1), .second, .val (.long p2), .second, .val (.long p3), .second, .val (.int p4), .val (.int p5), .val (.int W), .val (.ref a9), .val (.ref a48), .val (.ref a530), .val (.ref a572), .val (.ref a616), .val (.ref a662), .val (.ref a711), .val (.int r748), .val (.int r770), .val (.int r794)] [(.ref a572), (.int r748), (.ref a711)])) (fun _ kk => XS.aload X913.here hx rfl (hb hby at_239) rfl rfl kk) ?_
        refine own_callV X913 hx hZ (y := (⟨"com/example/libbuchi/libbuchi/automata/PackedStates", "get", "(I[J)V"⟩ : MethodName)) (b := a711) (as' := [(.int r748), (.ref a572)]) hown (own_w hw 34 rfl) (own_w hw 35 rfl) (own_w hw 37 rfl) (own_w hw 36 rfl) (own_w hw 38 rfl) (own_w hw 3 rfl) (by decide) (own_get l Z a0 hw [] r748 a711 a572 wa729 sa730 W k795 fw796 (own_f3 p3 p3 p3) T911.heap n0 gea572 O920 Fw921 F918 hW at767) (O920).1 0 (by decide) (by decide) (by decide) (by decide) (rest := []) (by rw [hml]; rfl) (lenOf (by decide : parseMethodDescriptor "(I[J)V" = some ⟨[.int, .array (.long)], none⟩) rfl) rfl (Nat.le_of_eq rfl) (hb hby at_241) rfl ?_
        intro T928 L929 v931 X930 hQ
        obtain ⟨rfl, N925', K926, F927⟩ := hQ
        show own_Out _ _ _ _ (T928.setTop (mkF m 244 #[.val (.long p0), .second, .val (.long p1), .second, .val (.long p2), .second, .val (.long p3), .second, .val (.int p4), .val (.int p5), .val (.int W), .val (.ref a9), .val (.ref a48), .val (.ref a530), .val (.ref a572), .val (.ref a616), .val (.ref a662), .val (.ref a711), .val (.int r748), .val (.int r770), .val (.int r794)] []))
        have N925 := Fr.app N908 N925'
        have F932 := own_AJ_keep F915 K926 (ninS (own_ne (by omega)) (nin0))
        have F933 := own_AJ_keep F916 K926 (ninS (own_ne (by omega)) (nin0))
        have F934 := own_AJ_keep F917 K926 (ninS (own_ne (by omega)) (nin0))
        have F935 := own_AJ_keep F910 K926 (ninS (own_ne (by omega)) (nin0))
        have F936 := own_AJ_keep F919 K926 (ninS (own_ne (by omega)) (nin0))
        have O937 := own_P_keep K926 (ninS (own_ne (by omega)) (nin0)) O920
        have Fw938 := own_AJ_keep Fw921 K926 (ninS (own_ne (by omega)) (nin0))
        obtain ⟨gf940, gq941⟩ : ∃ z : Nat → Int64, z = (fun i => if 0 ≤ i ∧ i < 0 + W.toNatClampNeg then fw796 (r748.toNatClampNeg * W.toNatClampNeg + (i - 0)) else (own_f3 p3 p3 p3) i) := ⟨_, rfl⟩
        rw [← gq941] at F927
        have hm939 := own_fin hW hr813 (sn := p3) rfl rfl rfl gf940 gq941
        refine own_st (G := T928.setTop (mkF m 274 #[.val (.long p0), .second, .val (.long p1), .second, .val (.long p2), .second, .val (.long p3), .second, .val (.int p4), .val (.int p5), .val (.int W), .val (.ref a9), .val (.ref a48), .val (.ref a530), .val (.ref a572), .val (.ref a616), .val (.ref a662), .val (.ref a711), .val (.int r748), .val (.int r770), .val (.int r794)] [])) (fun _ kk => XS.goto X930.here hx rfl (pc0 := 244) (pc' := 274) rfl (hb hby at_244) (by decide) (by decide) kk) ?_
        refine own_st (G := T928.setTop (mkF m 276 #[.val (.long p0), .second, .val (.long p1), .second, .val (.long p2), .second, .val (.long p3), .second, .val (.int p4), .val (.int p5), .val (.int W), .val (.ref a9), .val (.ref a48), .val (.ref a530), .val (.ref a572), .val (.ref a616), .val (.ref a662), .val (.ref a711), .val (.int r748), .val (.int r770), .val (.int r794)] [(.ref a572)])) (fun _ kk => XS.aload X930.here hx rfl (hb hby at_274) rfl rfl kk) ?_
        refine own_st (G := T928.setTop (mkF m 278 #[.val (.long p0), .second, .val (.long p1), .second, .val (.long p2), .second, .val (.long p3), .second, .val (.int p4), .val (.int p5), .val (.int W), .val (.ref a9), .val (.ref a48), .val (.ref a530), .val (.ref a572), .val (.ref a616), .val (.ref a662), .val (.ref a711), .val (.int r748), .val (.int r770), .val (.int r794)] [(.ref a9), (.ref a572)])) (fun _ kk => XS.aload X930.here hx rfl (hb hby at_276) rfl rfl kk) ?_
        refine own_st (G := T928.setTop (mkF m 280 #[.val (.long p0), .second, .val (.long p1), .second, .val (.long p2), .second, .val (.long p3), .second, .val (.int p4), .val (.int p5), .val (.int W), .val (.ref a9), .val (.ref a48), .val (.ref a530), .val (.ref a572), .val (.ref a616), .val (.ref a662), .val (.ref a711), .val (.int r748), .val (.int r770), .val (.int r794)] [(.int W), (.ref a9), (.ref a572)])) (fun _ kk => XS.iload X930.here hx rfl (hb hby at_278) rfl kk) ?_
        refine own_st (G := T928.setTop (mkF m 282 #[.val (.long p0), .second, .val (.long p1), .second, .val (.long p2), .second, .val (.long p3), .second, .val (.int p4), .val (.int p5), .val (.int W), .val (.ref a9), .val (.ref a48), .val (.ref a530), .val (.ref a572), .val (.ref a616), .val (.ref a662), .val (.ref a711), .val (.int r748), .val (.int r770), .val (.int r794)] [(.long p3), (.int W), (.ref a9), (.ref a572)])) (fun _ kk => XS.lload X930.here hx rfl (hb hby at_280) rfl kk) ?_
        refine own_callS X930 hx hZ (y := (⟨"com/example/libbuchi/libbuchi/automata/PackedStatesGetPinLaw", "matches", "([J[JIJ)Z"⟩ : MethodName)) (as' := [(.ref a572), (.ref a9), (.int W), (.long p3)]) hown (own_w hw 39 rfl) (own_w hw 40 rfl) (own_w hw 41 rfl) (own_w hw 42 rfl) (by decide) (own_mat l Z a0 hw [] W p3 a572 a9 gf940 (own_f3 p0 p1 p2) T928.heap n0 F927 F932 hm939.1 hm939.2.1 hm939.2.2) 0 (by decide) (by decide) (by decide) (by decide) (rest := []) (by rw [hml]; rfl) (lenOf (by decide : parseMethodDescriptor "([J[JIJ)Z" = some ⟨[.array (.long), .array (.long), .int, .long], some (.boolean)⟩) rfl) rfl (Nat.le_of_eq rfl) (hb hby at_282) rfl ?_
        intro T945 L946 v948 X947 hQ
        obtain ⟨rfl, rfl, eq944⟩ := hQ
        show own_Out _ _ _ _ (T945.setTop (mkF m 285 #[.val (.long p0), .second, .val (.long p1), .second, .val (.long p2), .second, .val (.long p3), .second, .val (.int p4), .val (.int p5), .val (.int W), .val (.ref a9), .val (.ref a48), .val (.ref a530), .val (.ref a572), .val (.ref a616), .val (.ref a662), .val (.ref a711), .val (.int r748), .val (.int r770), .val (.int r794)] [(.int (1 : Int32))]))
        have N942 := Fr.app N925 (Fr.nil n0)
        refine own_st (G := T945.setTop (mkF m 288 #[.val (.long p0), .second, .val (.long p1), .second, .val (.long p2), .second, .val (.long p3), .second, .val (.int p4), .val (.int p5), .val (.int W), .val (.ref a9), .val (.ref a48), .val (.ref a530), .val (.ref a572), .val (.ref a616), .val (.ref a662), .val (.ref a711), .val (.int r748), .val (.int r770), .val (.int r794)] [])) (fun _ kk => XS.ifNo X947.here hx rfl (hb hby at_285) rfl (XT.i0_eq_f (by decide : ¬ (1 : Int32) = (0 : Int32))) kk) ?_
        refine own_st (G := T945.setTop (mkF m 290 #[.val (.long p0), .second, .val (.long p1), .second, .val (.long p2), .second, .val (.long p3), .second, .val (.int p4), .val (.int p5), .val (.int W), .val (.ref a9), .val (.ref a48), .val (.ref a530), .val (.ref a572), .val (.ref a616), .val (.ref a662), .val (.ref a711), .val (.int r748), .val (.int r770), .val (.int r794)] [(.ref a616)])) (fun _ kk => XS.aload X947.here hx rfl (hb hby at_288) rfl rfl kk) ?_
        refine own_st (G := T945.setTop (mkF m 292 #[.val (.long p0), .second, .val (.long p1), .second, .val (.long p2), .second, .val (.long p3), .second, .val (.int p4), .val (.int p5), .val (.int W), .val (.ref a9), .val (.ref a48), .val (.ref a530), .val (.ref a572), .val (.ref a616), .val (.ref a662), .val (.ref a711), .val (.int r748), .val (.int r770), .val (.int r794)] [(.ref a48), (.ref a616)])) (fun _ kk => XS.aload X947.here hx rfl (hb hby at_290) rfl rfl kk) ?_
        refine own_st (G := T945.setTop (mkF m 294 #[.val (.long p0), .second, .val (.long p1), .second, .val (.long p2), .second, .val (.long p3), .second, .val (.int p4), .val (.int p5), .val (.int W), .val (.ref a9), .val (.ref a48), .val (.ref a530), .val (.ref a572), .val (.ref a616), .val (.ref a662), .val (.ref a711), .val (.int r748), .val (.int r770), .val (.int r794)] [(.int W), (.ref a48), (.ref a616)])) (fun _ kk => XS.iload X947.here hx rfl (hb hby at_292) rfl kk) ?_
        refine own_st (G := T945.setTop (mkF m 296 #[.val (.long p0), .second, .val (.long p1), .second, .val (.long p2), .second, .val (.long p3), .second, .val (.int p4), .val (.int p5), .val (.int W), .val (.ref a9), .val (.ref a48), .val (.ref a530), .val (.ref a572), .val (.ref a616), .val (.ref a662), .val (.ref a711), .val (.int r748), .val (.int r770), .val (.int r794)] [(.long p3), (.int W), (.ref a48), (.ref a616)])) (fun _ kk => XS.lload X947.here hx rfl (hb hby at_294) rfl kk) ?_
        refine own_callS X947 hx hZ (y := (⟨"com/example/libbuchi/libbuchi/automata/PackedStatesGetPinLaw", "matches", "([J[JIJ)Z"⟩ : MethodName)) (as' := [(.ref a616), (.ref a48), (.int W), (.long p3)]) hown (own_w hw 39 rfl) (own_w hw 40 rfl) (own_w hw 41 rfl) (own_w hw 42 rfl) (by decide) (own_mat l Z a0 hw [] W p3 a616 a48 gf923 (own_f3 p1 p2 p0) T928.heap n0 F935 F933 hm922.1 hm922.2.1 hm922.2.2) 0 (by decide) (by decide) (by decide) (by decide) (rest := []) (by rw [hml]; rfl) (lenOf (by decide : parseMethodDescriptor "([J[JIJ)Z" = some ⟨[.array (.long), .array (.long), .int, .long], some (.boolean)⟩) rfl) rfl (Nat.le_of_eq rfl) (hb hby at_296) eq944 ?_
        intro T952 L953 v955 X954 hQ
        obtain ⟨rfl, rfl, eq951⟩ := hQ
        show own_Out _ _ _ _ (T952.setTop (mkF m 299 #[.val (.long p0), .second, .val (.long p1), .second, .val (.long p2), .second, .val (.long p3), .second, .val (.int p4), .val (.int p5), .val (.int W), .val (.ref a9), .val (.ref a48), .val (.ref a530), .val (.ref a572), .val (.ref a616), .val (.ref a662), .val (.ref a711), .val (.int r748), .val (.int r770), .val (.int r794)] [(.int (1 : Int32))]))
        have N949 := Fr.app N942 (Fr.nil n0)
        refine own_st (G := T952.setTop (mkF m 302 #[.val (.long p0), .second, .val (.long p1), .second, .val (.long p2), .second, .val (.long p3), .second, .val (.int p4), .val (.int p5), .val (.int W), .val (.ref a9), .val (.ref a48), .val (.ref a530), .val (.ref a572), .val (.ref a616), .val (.ref a662), .val (.ref a711), .val (.int r748), .val (.int r770), .val (.int r794)] [])) (fun _ kk => XS.ifNo X954.here hx rfl (hb hby at_299) rfl (XT.i0_eq_f (by decide : ¬ (1 : Int32) = (0 : Int32))) kk) ?_
        refine own_st (G := T952.setTop (mkF m 304 #[.val (.long p0), .second, .val (.long p1), .second, .val (.long p2), .second, .val (.long p3), .second, .val (.int p4), .val (.int p5), .val (.int W), .val (.ref a9), .val (.ref a48), .val (.ref a530), .val (.ref a572), .val (.ref a616), .val (.ref a662), .val (.ref a711), .val (.int r748), .val (.int r770), .val (.int r794)] [(.ref a662)])) (fun _ kk => XS.aload X954.here hx rfl (hb hby at_302) rfl rfl kk) ?_
        refine own_st (G := T952.setTop (mkF m 306 #[.val (.long p0), .second, .val (.long p1), .second, .val (.long p2), .second, .val (.long p3), .second, .val (.int p4), .val (.int p5), .val (.int W), .val (.ref a9), .val (.ref a48), .val (.ref a530), .val (.ref a572), .val (.ref a616), .val (.ref a662), .val (.ref a711), .val (.int r748), .val (.int r770), .val (.int r794)] [(.ref a530), (.ref a662)])) (fun _ kk => XS.aload X954.here hx rfl (hb hby at_304) rfl rfl kk) ?_
        refine own_st (G := T952.setTop (mkF m 308 #[.val (.long p0), .second, .val (.long p1), .second, .val (.long p2), .second, .val (.long p3), .second, .val (.int p4), .val (.int p5), .val (.int W), .val (.ref a9), .val (.ref a48), .val (.ref a530), .val (.ref a572), .val (.ref a616), .val (.ref a662), .val (.ref a711), .val (.int r748), .val (.int r770), .val (.int r794)] [(.int W), (.ref a530), (.ref a662)])) (fun _ kk => XS.iload X954.here hx rfl (hb hby at_306) rfl kk) ?_
        refine own_st (G := T952.setTop (mkF m 310 #[.val (.long p0), .second, .val (.long p1), .second, .val (.long p2), .second, .val (.long p3), .second, .val (.int p4), .val (.int p5), .val (.int W), .val (.ref a9), .val (.ref a48), .val (.ref a530), .val (.ref a572), .val (.ref a616), .val (.ref a662), .val (.ref a711), .val (.int r748), .val (.int r770), .val (.int r794)] [(.long p3), (.int W), (.ref a530), (.ref a662)])) (fun _ kk => XS.lload X954.here hx rfl (hb hby at_308) rfl kk) ?_
        refine own_callS X954 hx hZ (y := (⟨"com/example/libbuchi/libbuchi/automata/PackedStatesGetPinLaw", "matches", "([J[JIJ)Z"⟩ : MethodName)) (as' := [(.ref a662), (.ref a530), (.int W), (.long p3)]) hown (own_w hw 39 rfl) (own_w hw 40 rfl) (own_w hw 41 rfl) (own_w hw 42 rfl) (by decide) (own_mat l Z a0 hw [] W p3 a662 a530 gf906 (own_f3 p0 p1 p2) T928.heap n0 F936 F934 hm905.1 hm905.2.1 hm905.2.2) 0 (by decide) (by decide) (by decide) (by decide) (rest := []) (by rw [hml]; rfl) (lenOf (by decide : parseMethodDescriptor "([J[JIJ)Z" = some ⟨[.array (.long), .array (.long), .int, .long], some (.boolean)⟩) rfl) rfl (Nat.le_of_eq rfl) (hb hby at_310) eq951 ?_
        intro T959 L960 v962 X961 hQ
        obtain ⟨rfl, rfl, eq958⟩ := hQ
        show own_Out _ _ _ _ (T959.setTop (mkF m 313 #[.val (.long p0), .second, .val (.long p1), .second, .val (.long p2), .second, .val (.long p3), .second, .val (.int p4), .val (.int p5), .val (.int W), .val (.ref a9), .val (.ref a48), .val (.ref a530), .val (.ref a572), .val (.ref a616), .val (.ref a662), .val (.ref a711), .val (.int r748), .val (.int r770), .val (.int r794)] [(.int (1 : Int32))]))
        have N956 := Fr.app N949 (Fr.nil n0)
        refine own_st (G := T959.setTop (mkF m 316 #[.val (.long p0), .second, .val (.long p1), .second, .val (.long p2), .second, .val (.long p3), .second, .val (.int p4), .val (.int p5), .val (.int W), .val (.ref a9), .val (.ref a48), .val (.ref a530), .val (.ref a572), .val (.ref a616), .val (.ref a662), .val (.ref a711), .val (.int r748), .val (.int r770), .val (.int r794)] [])) (fun _ kk => XS.ifNo X961.here hx rfl (hb hby at_313) rfl (XT.i0_eq_f (by decide : ¬ (1 : Int32) = (0 : Int32))) kk) ?_
        refine own_st (G := T959.setTop (mkF m 317 #[.val (.long p0), .second, .val (.long p1), .second, .val (.long p2), .second, .val (.long p3), .second, .val (.int p4), .val (.int p5), .val (.int W), .val (.ref a9), .val (.ref a48), .val (.ref a530), .val (.ref a572), .val (.ref a616), .val (.ref a662), .val (.ref a711), .val (.int r748), .val (.int r770), .val (.int r794)] [(.int (1 : Int32))])) (fun _ kk => XT.iconstV X961.here hx rfl (1 : Int32) (hb hby at_316) (by decide) kk) ?_
        refine own_st (G := T959.setTop (mkF m 321 #[.val (.long p0), .second, .val (.long p1), .second, .val (.long p2), .second, .val (.long p3), .second, .val (.int p4), .val (.int p5), .val (.int W), .val (.ref a9), .val (.ref a48), .val (.ref a530), .val (.ref a572), .val (.ref a616), .val (.ref a662), .val (.ref a711), .val (.int r748), .val (.int r770), .val (.int r794)] [(.int (1 : Int32))])) (fun _ kk => XS.goto X961.here hx rfl (pc0 := 317) (pc' := 321) rfl (hb hby at_317) (by decide) (by decide) kk) ?_
        refine own_retB X961 hx hret (by simp) hlk (hb hby at_321) (by decide) (by decide) ?_
        exact ⟨rfl, N956⟩
  · skip
    refine own_st (G := T29.setTop (mkF m 31 #[.val (.long p0), .second, .val (.long p1), .second, .val (.long p2), .second, .val (.long p3), .second, .val (.int p4), .val (.int p5), .val (.int W), .val (.ref a9), .unset, .unset, .unset, .unset, .unset, .unset, .unset, .unset, .unset] [])) (fun _ kk => XS.ifNo X31.here hx rfl (hb hby at_28) rfl (XT.i0_eq_f hc39) kk) ?_
    refine own_st (G := T29.setTop (mkF m 32 #[.val (.long p0), .second, .val (.long p1), .second, .val (.long p2), .second, .val (.long p3), .second, .val (.int p4), .val (.int p5), .val (.int W), .val (.ref a9), .unset, .unset, .unset, .unset, .unset, .unset, .unset, .unset, .unset] [(.int (3 : Int32))])) (fun _ kk => XT.iconstV X31.here hx rfl (3 : Int32) (hb hby at_31) (by decide) kk) ?_
    obtain ⟨T963, h964, cA965, X966, e967, E968, A969, st970⟩ := newP X31 hx hZ (own_w hw 0 rfl) e32 (g := (mkF m 32 #[.val (.long p0), .second, .val (.long p1), .second, .val (.long p2), .second, .val (.long p3), .second, .val (.int p4), .val (.int p5), .val (.int W), .val (.ref a9), .unset, .unset, .unset, .unset, .unset, .unset, .unset, .unset, .unset] [(.int (3 : Int32))])) rfl (hb hby at_32) rfl (by decide) (cap := 3) (by decide) (by decide) (by decide) (by decide)
    obtain ⟨a971, g972⟩ : ∃ z, z = h30.size := ⟨_, rfl⟩
    rw [← g972] at A969 st970
    have S973 : (newA cA965 .long (3 : Int32)).slots.size = 3 := (sz_new _ _ _).trans (by decide)
    refine own_st st970 ?_
    show own_Out _ _ _ _ (T963.setTop (mkF m 34 #[.val (.long p0), .second, .val (.long p1), .second, .val (.long p2), .second, .val (.long p3), .second, .val (.int p4), .val (.int p5), .val (.int W), .val (.ref a9), .unset, .unset, .unset, .unset, .unset, .unset, .unset, .unset, .unset] [(.ref a971)]))
    have F974 := own_AJ_new (n := 3) A969 (by decide) rfl
    refine own_st (G := T963.setTop (mkF m 35 #[.val (.long p0), .second, .val (.long p1), .second, .val (.long p2), .second, .val (.long p3), .second, .val (.int p4), .val (.int p5), .val (.int W), .val (.ref a9), .unset, .unset, .unset, .unset, .unset, .unset, .unset, .unset, .unset] [(.ref a971), (.ref a971)])) (fun _ kk => XS.dup X966.here hx rfl (hb hby at_34) rfl rfl kk) ?_
    refine own_st (G := T963.setTop (mkF m 36 #[.val (.long p0), .second, .val (.long p1), .second, .val (.long p2), .second, .val (.long p3), .second, .val (.int p4), .val (.int p5), .val (.int W), .val (.ref a9), .unset, .unset, .unset, .unset, .unset, .unset, .unset, .unset, .unset] [(.int (0 : Int32)), (.ref a971), (.ref a971)])) (fun _ kk => XT.iconstV X966.here hx rfl (0 : Int32) (hb hby at_35) (by decide) kk) ?_
    refine own_st (G := T963.setTop (mkF m 37 #[.val (.long p0), .second, .val (.long p1), .second, .val (.long p2), .second, .val (.long p3), .second, .val (.int p4), .val (.int p5), .val (.int W), .val (.ref a9), .unset, .unset, .unset, .unset, .unset, .unset, .unset, .unset, .unset] [(.long p0), (.int (0 : Int32)), (.ref a971), (.ref a971)])) (fun _ kk => XS.lloadN X966.here hx rfl (hb hby at_36) rfl kk) ?_
    refine own_lastore X966 hx hZ e967 F974 (j := (0 : Int32)) (i := 0) (by decide) rfl (by decide) (hb hby at_37) ?_
    intro T975 h976 X977 e978 W979 F980
    show own_Out _ _ _ _ (T975.setTop (mkF m 38 #[.val (.long p0), .second, .val (.long p1), .second, .val (.long p2), .second, .val (.long p3), .second, .val (.int p4), .val (.int p5), .val (.int W), .val (.ref a9), .unset, .unset, .unset, .unset, .unset, .unset, .unset, .unset, .unset] [(.ref a971)]))
    have E981 := own_ext_wr E968 W979 (Nat.le_of_eq g972.symm)
    have gea971 : n0 ≤ a971 := by rw [g972]; exact Nat.le_trans Z0 sz38
    have N982 := Fr.snoc X977 N36 gea971
    refine own_st (G := T975.setTop (mkF m 39 #[.val (.long p0), .second, .val (.long p1), .second, .val (.long p2), .second, .val (.long p3), .second, .val (.int p4), .val (.int p5), .val (.int W), .val (.ref a9), .unset, .unset, .unset, .unset, .unset, .unset, .unset, .unset, .unset] [(.ref a971), (.ref a971)])) (fun _ kk => XS.dup X977.here hx rfl (hb hby at_38) rfl rfl kk) ?_
    refine own_st (G := T975.setTop (mkF m 40 #[.val (.long p0), .second, .val (.long p1), .second, .val (.long p2), .second, .val (.long p3), .second, .val (.int p4), .val (.int p5), .val (.int W), .val (.ref a9), .unset, .unset, .unset, .unset, .unset, .unset, .unset, .unset, .unset] [(.int (1 : Int32)), (.ref a971), (.ref a971)])) (fun _ kk => XT.iconstV X977.here hx rfl (1 : Int32) (hb hby at_39) (by decide) kk) ?_
    refine own_st (G := T975.setTop (mkF m 41 #[.val (.long p0), .second, .val (.long p1), .second, .val (.long p2), .second, .val (.long p3), .second, .val (.int p4), .val (.int p5), .val (.int W), .val (.ref a9), .unset, .unset, .unset, .unset, .unset, .unset, .unset, .unset, .unset] [(.long p1), (.int (1 : Int32)), (.ref a971), (.ref a971)])) (fun _ kk => XS.lloadN X977.here hx rfl (hb hby at_40) rfl kk) ?_
    refine own_lastore X977 hx hZ e978 F980 (j := (1 : Int32)) (i := 1) (by decide) rfl (by decide) (hb hby at_41) ?_
    intro T983 h984 X985 e986 W987 F988
    show own_Out _ _ _ _ (T983.setTop (mkF m 42 #[.val (.long p0), .second, .val (.long p1), .second, .val (.long p2), .second, .val (.long p3), .second, .val (.int p4), .val (.int p5), .val (.int W), .val (.ref a9), .unset, .unset, .unset, .unset, .unset, .unset, .unset, .unset, .unset] [(.ref a971)]))
    have E989 := own_ext_wr E981 W987 (Nat.le_of_eq g972.symm)
    have N990 := Fr.snoc X985 N982 gea971
    refine own_st (G := T983.setTop (mkF m 43 #[.val (.long p0), .second, .val (.long p1), .second, .val (.long p2), .second, .val (.long p3), .second, .val (.int p4), .val (.int p5), .val (.int W), .val (.ref a9), .unset, .unset, .unset, .unset, .unset, .unset, .unset, .unset, .unset] [(.ref a971), (.ref a971)])) (fun _ kk => XS.dup X985.here hx rfl (hb hby at_42) rfl rfl kk) ?_
    refine own_st (G := T983.setTop (mkF m 44 #[.val (.long p0), .second, .val (.long p1), .second, .val (.long p2), .second, .val (.long p3), .second, .val (.int p4), .val (.int p5), .val (.int W), .val (.ref a9), .unset, .unset, .unset, .unset, .unset, .unset, .unset, .unset, .unset] [(.int (2 : Int32)), (.ref a971), (.ref a971)])) (fun _ kk => XT.iconstV X985.here hx rfl (2 : Int32) (hb hby at_43) (by decide) kk) ?_
    refine own_st (G := T983.setTop (mkF m 46 #[.val (.long p0), .second, .val (.long p1), .second, .val (.long p2), .second, .val (.long p3), .second, .val (.int p4), .val (.int p5), .val (.int W), .val (.ref a9), .unset, .unset, .unset, .unset, .unset, .unset, .unset, .unset, .unset] [(.long p2), (.int (2 : Int32)), (.ref a971), (.ref a971)])) (fun _ kk => XS.lload X985.here hx rfl (hb hby at_44) rfl kk) ?_
    refine own_lastore X985 hx hZ e986 F988 (j := (2 : Int32)) (i := 2) (by decide) rfl (by decide) (hb hby at_46) ?_
    intro T991 h992 X993 e994 W995 F996
    show own_Out _ _ _ _ (T991.setTop (mkF m 47 #[.val (.long p0), .second, .val (.long p1), .second, .val (.long p2), .second, .val (.long p3), .second, .val (.int p4), .val (.int p5), .val (.int W), .val (.ref a9), .unset, .unset, .unset, .unset, .unset, .unset, .unset, .unset, .unset] [(.ref a971)]))
    have E997 := own_ext_wr E989 W995 (Nat.le_of_eq g972.symm)
    have N998 := Fr.snoc X993 N990 gea971
    have F999 : own_AJ Z h992 a971 3 (own_f3 p0 p1 p2) := own_AJ_congr F996 (own_all3 (Nat.le_refl 3) rfl rfl rfl)
    have lt1000 : a9 < a971 := by rw [g972]; exact own_AJ_lt F37
    have F1001 := own_AJ_ext F37 E997
    have sz1002 : h0.size ≤ h992.size := Nat.le_trans sz38 E997.1
    refine own_st (G := T991.setTop (mkF m 66 #[.val (.long p0), .second, .val (.long p1), .second, .val (.long p2), .second, .val (.long p3), .second, .val (.int p4), .val (.int p5), .val (.int W), .val (.ref a9), .unset, .unset, .unset, .unset, .unset, .unset, .unset, .unset, .unset] [(.ref a971)])) (fun _ kk => XS.goto X993.here hx rfl (pc0 := 47) (pc' := 66) rfl (hb hby at_47) (by decide) (by decide) kk) ?_
    refine own_st (G := T991.setTop (mkF m 68 #[.val (.long p0), .second, .val (.long p1), .second, .val (.long p2), .second, .val (.long p3), .second, .val (.int p4), .val (.int p5), .val (.int W), .val (.ref a9), .val (.ref a971), .unset, .unset, .unset, .unset, .unset, .unset, .unset, .unset] [])) (fun _ kk => XS.astore X993.here hx rfl (hb hby at_66) rfl rfl (l' := #[.val (.long p0), .second, .val (.long p1), .second, .val (.long p2), .second, .val (.long p3), .second, .val (.int p4), .val (.int p5), .val (.int W), .val (.ref a9), .val (.ref a971), .unset, .unset, .unset, .unset, .unset, .unset, .unset, .unset]) rfl kk) ?_
    refine own_st (G := T991.setTop (mkF m 70 #[.val (.long p0), .second, .val (.long p1), .second, .val (.long p2), .second, .val (.long p3), .second, .val (.int p4), .val (.int p5), .val (.int W), .val (.ref a9), .val (.ref a971), .unset, .unset, .unset, .unset, .unset, .unset, .unset, .unset] [(.int p5)])) (fun _ kk => XS.iload X993.here hx rfl (hb hby at_68) rfl kk) ?_
    refine own_st (G := T991.setTop (mkF m 71 #[.val (.long p0), .second, .val (.long p1), .second, .val (.long p2), .second, .val (.long p3), .second, .val (.int p4), .val (.int p5), .val (.int W), .val (.ref a9), .val (.ref a971), .unset, .unset, .unset, .unset, .unset, .unset, .unset, .unset] [(.int (2 : Int32)), (.int p5)])) (fun _ kk => XT.iconstV X993.here hx rfl (2 : Int32) (hb hby at_70) (by decide) kk) ?_
    refine own_st (G := T991.setTop (mkF m 72 #[.val (.long p0), .second, .val (.long p1), .second, .val (.long p2), .second, .val (.long p3), .second, .val (.int p4), .val (.int p5), .val (.int W), .val (.ref a9), .val (.ref a971), .unset, .unset, .unset, .unset, .unset, .unset, .unset, .unset] [(.int (p5 &&& (2 : Int32)))])) (fun _ kk => XS.iand X993.here hx rfl (hb hby at_71) rfl kk) ?_
    by_cases hc1003 : (p5 &&& (2 : Int32)) = (0 : Int32)
    · skip
      refine own_st (G := T991.setTop (mkF m 94 #[.val (.long p0), .second, .val (.long p1), .second, .val (.long p2), .second, .val (.long p3), .second, .val (.int p4), .val (.int p5), .val (.int W), .val (.ref a9), .val (.ref a971), .unset, .unset, .unset, .unset, .unset, .unset, .unset, .unset] [])) (fun _ kk => XS.ifYes X993.here hx rfl (pc0 := 72) (pc' := 94) rfl (hb hby at_72) rfl (XT.i0_eq_t hc1003) (by decide) (by decide) kk) ?_
      refine own_st (G := T991.setTop (mkF m 95 #[.val (.long p0), .second, .val (.long p1), .second, .val (.long p2), .second, .val (.long p3), .second, .val (.int p4), .val (.int p5), .val (.int W), .val (.ref a9), .val (.ref a971), .unset, .unset, .unset, .unset, .unset, .unset, .unset, .unset] [(.int (3 : Int32))])) (fun _ kk => XT.iconstV X993.here hx rfl (3 : Int32) (hb hby at_94) (by decide) kk) ?_
      obtain ⟨T1004, h1005, cA1006, X1007, e1008, E1009, A1010, st1011⟩ := newP X993 hx hZ (own_w hw 0 rfl) e994 (g := (mkF m 95 #[.val (.long p0), .second, .val (.long p1), .second, .val (.long p2), .second, .val (.long p3), .second, .val (.int p4), .val (.int p5), .val (.int W), .val (.ref a9), .val (.ref a971), .unset, .unset, .unset, .unset, .unset, .unset, .unset, .unset] [(.int (3 : Int32))])) rfl (hb hby at_95) rfl (by decide) (cap := 3) (by decide) (by decide) (by decide) (by decide)
      obtain ⟨a1012, g1013⟩ : ∃ z, z = h992.size := ⟨_, rfl⟩
      rw [← g1013] at A1010 st1011
      have S1014 : (newA cA1006 .long (3 : Int32)).slots.size = 3 := (sz_new _ _ _).trans (by decide)
      refine own_st st1011 ?_
      show own_Out _ _ _ _ (T1004.setTop (mkF m 97 #[.val (.long p0), .second, .val (.long p1), .second, .val (.long p2), .second, .val (.long p3), .second, .val (.int p4), .val (.int p5), .val (.int W), .val (.ref a9), .val (.ref a971), .unset, .unset, .unset, .unset, .unset, .unset, .unset, .unset] [(.ref a1012)]))
      have F1015 := own_AJ_new (n := 3) A1010 (by decide) rfl
      refine own_st (G := T1004.setTop (mkF m 98 #[.val (.long p0), .second, .val (.long p1), .second, .val (.long p2), .second, .val (.long p3), .second, .val (.int p4), .val (.int p5), .val (.int W), .val (.ref a9), .val (.ref a971), .unset, .unset, .unset, .unset, .unset, .unset, .unset, .unset] [(.ref a1012), (.ref a1012)])) (fun _ kk => XS.dup X1007.here hx rfl (hb hby at_97) rfl rfl kk) ?_
      refine own_st (G := T1004.setTop (mkF m 99 #[.val (.long p0), .second, .val (.long p1), .second, .val (.long p2), .second, .val (.long p3), .second, .val (.int p4), .val (.int p5), .val (.int W), .val (.ref a9), .val (.ref a971), .unset, .unset, .unset, .unset, .unset, .unset, .unset, .unset] [(.int (0 : Int32)), (.ref a1012), (.ref a1012)])) (fun _ kk => XT.iconstV X1007.here hx rfl (0 : Int32) (hb hby at_98) (by decide) kk) ?_
      refine own_st (G := T1004.setTop (mkF m 101 #[.val (.long p0), .second, .val (.long p1), .second, .val (.long p2), .second, .val (.long p3), .second, .val (.int p4), .val (.int p5), .val (.int W), .val (.ref a9), .val (.ref a971), .unset, .unset, .unset, .unset, .unset, .unset, .unset, .unset] [(.long p2), (.int (0 : Int32)), (.ref a1012), (.ref a1012)])) (fun _ kk => XS.lload X1007.here hx rfl (hb hby at_99) rfl kk) ?_
      refine own_lastore X1007 hx hZ e1008 F1015 (j := (0 : Int32)) (i := 0) (by decide) rfl (by decide) (hb hby at_101) ?_
      intro T1016 h1017 X1018 e1019 W1020 F1021
      show own_Out _ _ _ _ (T1016.setTop (mkF m 102 #[.val (.long p0), .second, .val (.long p1), .second, .val (.long p2), .second, .val (.long p3), .second, .val (.int p4), .val (.int p5), .val (.int W), .val (.ref a9), .val (.ref a971), .unset, .unset, .unset, .unset, .unset, .unset, .unset, .unset] [(.ref a1012)]))
      have E1022 := own_ext_wr E1009 W1020 (Nat.le_of_eq g1013.symm)
      have gea1012 : n0 ≤ a1012 := by rw [g1013]; exact Nat.le_trans Z0 sz1002
      have N1023 := Fr.snoc X1018 N998 gea1012
      refine own_st (G := T1016.setTop (mkF m 103 #[.val (.long p0), .second, .val (.long p1), .second, .val (.long p2), .second, .val (.long p3), .second, .val (.int p4), .val (.int p5), .val (.int W), .val (.ref a9), .val (.ref a971), .unset, .unset, .unset, .unset, .unset, .unset, .unset, .unset] [(.ref a1012), (.ref a1012)])) (fun _ kk => XS.dup X1018.here hx rfl (hb hby at_102) rfl rfl kk) ?_
      refine own_st (G := T1016.setTop (mkF m 104 #[.val (.long p0), .second, .val (.long p1), .second, .val (.long p2), .second, .val (.long p3), .second, .val (.int p4), .val (.int p5), .val (.int W), .val (.ref a9), .val (.ref a971), .unset, .unset, .unset, .unset, .unset, .unset, .unset, .unset] [(.int (1 : Int32)), (.ref a1012), (.ref a1012)])) (fun _ kk => XT.iconstV X1018.here hx rfl (1 : Int32) (hb hby at_103) (by decide) kk) ?_
      refine own_st (G := T1016.setTop (mkF m 105 #[.val (.long p0), .second, .val (.long p1), .second, .val (.long p2), .second, .val (.long p3), .second, .val (.int p4), .val (.int p5), .val (.int W), .val (.ref a9), .val (.ref a971), .unset, .unset, .unset, .unset, .unset, .unset, .unset, .unset] [(.long p0), (.int (1 : Int32)), (.ref a1012), (.ref a1012)])) (fun _ kk => XS.lloadN X1018.here hx rfl (hb hby at_104) rfl kk) ?_
      refine own_lastore X1018 hx hZ e1019 F1021 (j := (1 : Int32)) (i := 1) (by decide) rfl (by decide) (hb hby at_105) ?_
      intro T1024 h1025 X1026 e1027 W1028 F1029
      show own_Out _ _ _ _ (T1024.setTop (mkF m 106 #[.val (.long p0), .second, .val (.long p1), .second, .val (.long p2), .second, .val (.long p3), .second, .val (.int p4), .val (.int p5), .val (.int W), .val (.ref a9), .val (.ref a971), .unset, .unset, .unset, .unset, .unset, .unset, .unset, .unset] [(.ref a1012)]))
      have E1030 := own_ext_wr E1022 W1028 (Nat.le_of_eq g1013.symm)
      have N1031 := Fr.snoc X1026 N1023 gea1012
      refine own_st (G := T1024.setTop (mkF m 107 #[.val (.long p0), .second, .val (.long p1), .second, .val (.long p2), .second, .val (.long p3), .second, .val (.int p4), .val (.int p5), .val (.int W), .val (.ref a9), .val (.ref a971), .unset, .unset, .unset, .unset, .unset, .unset, .unset, .unset] [(.ref a1012), (.ref a1012)])) (fun _ kk => XS.dup X1026.here hx rfl (hb hby at_106) rfl rfl kk) ?_
      refine own_st (G := T1024.setTop (mkF m 108 #[.val (.long p0), .second, .val (.long p1), .second, .val (.long p2), .second, .val (.long p3), .second, .val (.int p4), .val (.int p5), .val (.int W), .val (.ref a9), .val (.ref a971), .unset, .unset, .unset, .unset, .unset, .unset, .unset, .unset] [(.int (2 : Int32)), (.ref a1012), (.ref a1012)])) (fun _ kk => XT.iconstV X1026.here hx rfl (2 : Int32) (hb hby at_107) (by decide) kk) ?_
      refine own_st (G := T1024.setTop (mkF m 109 #[.val (.long p0), .second, .val (.long p1), .second, .val (.long p2), .second, .val (.long p3), .second, .val (.int p4), .val (.int p5), .val (.int W), .val (.ref a9), .val (.ref a971), .unset, .unset, .unset, .unset, .unset, .unset, .unset, .unset] [(.long p1), (.int (2 : Int32)), (.ref a1012), (.ref a1012)])) (fun _ kk => XS.lloadN X1026.here hx rfl (hb hby at_108) rfl kk) ?_
      refine own_lastore X1026 hx hZ e1027 F1029 (j := (2 : Int32)) (i := 2) (by decide) rfl (by decide) (hb hby at_109) ?_
      intro T1032 h1033 X1034 e1035 W1036 F1037
      show own_Out _ _ _ _ (T1032.setTop (mkF m 110 #[.val (.long p0), .second, .val (.long p1), .second, .val (.long p2), .second, .val (.long p3), .second, .val (.int p4), .val (.int p5), .val (.int W), .val (.ref a9), .val (.ref a971), .unset, .unset, .unset, .unset, .unset, .unset, .unset, .unset] [(.ref a1012)]))
      have E1038 := own_ext_wr E1030 W1036 (Nat.le_of_eq g1013.symm)
      have N1039 := Fr.snoc X1034 N1031 gea1012
      have F1040 : own_AJ Z h1033 a1012 3 (own_f3 p2 p0 p1) := own_AJ_congr F1037 (own_all3 (Nat.le_refl 3) rfl rfl rfl)
      have lt1041 : a9 < a1012 := by rw [g1013]; exact own_AJ_lt F1001
      have F1042 := own_AJ_ext F1001 E1038
      have lt1043 : a971 < a1012 := by rw [g1013]; exact own_AJ_lt F999
      have F1044 := own_AJ_ext F999 E1038
      have sz1045 : h0.size ≤ h1033.size := Nat.le_trans sz1002 E1038.1
      refine own_st (G := T1032.setTop (mkF m 112 #[.val (.long p0), .second, .val (.long p1), .second, .val (.long p2), .second, .val (.long p3), .second, .val (.int p4), .val (.int p5), .val (.int W), .val (.ref a9), .val (.ref a971), .val (.ref a1012), .unset, .unset, .unset, .unset, .unset, .unset, .unset] [])) (fun _ kk => XS.astore X1034.here hx rfl (hb hby at_110) rfl rfl (l' := #[.val (.long p0), .second, .val (.long p1), .second, .val (.long p2), .second, .val (.long p3), .second, .val (.int p4), .val (.int p5), .val (.int W), .val (.ref a9), .val (.ref a971), .val (.ref a1012), .unset, .unset, .unset, .unset, .unset, .unset, .unset]) rfl kk) ?_
      refine own_st (G := T1032.setTop (mkF m 113 #[.val (.long p0), .second, .val (.long p1), .second, .val (.long p2), .second, .val (.long p3), .second, .val (.int p4), .val (.int p5), .val (.int W), .val (.ref a9), .val (.ref a971), .val (.ref a1012), .unset, .unset, .unset, .unset, .unset, .unset, .unset] [(.int (3 : Int32))])) (fun _ kk => XT.iconstV X1034.here hx rfl (3 : Int32) (hb hby at_112) (by decide) kk) ?_
      obtain ⟨T1046, h1047, cA1048, X1049, e1050, E1051, A1052, st1053⟩ := newP X1034 hx hZ (own_w hw 0 rfl) e1035 (g := (mkF m 113 #[.val (.long p0), .second, .val (.long p1), .second, .val (.long p2), .second, .val (.long p3), .second, .val (.int p4), .val (.int p5), .val (.int W), .val (.ref a9), .val (.ref a971), .val (.ref a1012), .unset, .unset, .unset, .unset, .unset, .unset, .unset] [(.int (3 : Int32))])) rfl (hb hby at_113) rfl (by decide) (cap := 3) (by decide) (by decide) (by decide) (by decide)
      obtain ⟨a1054, g1055⟩ : ∃ z, z = h1033.size := ⟨_, rfl⟩
      rw [← g1055] at A1052 st1053
      have S1056 : (newA cA1048 .long (3 : Int32)).slots.size = 3 := (sz_new _ _ _).trans (by decide)
      refine own_st st1053 ?_
      show own_Out _ _ _ _ (T1046.setTop (mkF m 115 #[.val (.long p0), .second, .val (.long p1), .second, .val (.long p2), .second, .val (.long p3), .second, .val (.int p4), .val (.int p5), .val (.int W), .val (.ref a9), .val (.ref a971), .val (.ref a1012), .unset, .unset, .unset, .unset, .unset, .unset, .unset] [(.ref a1054)]))
      have F1057 := own_AJ_new (n := 3) A1052 (by decide) rfl
      refine own_st (G := T1046.setTop (mkF m 116 #[.val (.long p0), .second, .val (.long p1), .second, .val (.long p2), .second, .val (.long p3), .second, .val (.int p4), .val (.int p5), .val (.int W), .val (.ref a9), .val (.ref a971), .val (.ref a1012), .unset, .unset, .unset, .unset, .unset, .unset, .unset] [(.ref a1054), (.ref a1054)])) (fun _ kk => XS.dup X1049.here hx rfl (hb hby at_115) rfl rfl kk) ?_
      refine own_st (G := T1046.setTop (mkF m 117 #[.val (.long p0), .second, .val (.long p1), .second, .val (.long p2), .second, .val (.long p3), .second, .val (.int p4), .val (.int p5), .val (.int W), .val (.ref a9), .val (.ref a971), .val (.ref a1012), .unset, .unset, .unset, .unset, .unset, .unset, .unset] [(.int (0 : Int32)), (.ref a1054), (.ref a1054)])) (fun _ kk => XT.iconstV X1049.here hx rfl (0 : Int32) (hb hby at_116) (by decide) kk) ?_
      refine own_st (G := T1046.setTop (mkF m 119 #[.val (.long p0), .second, .val (.long p1), .second, .val (.long p2), .second, .val (.long p3), .second, .val (.int p4), .val (.int p5), .val (.int W), .val (.ref a9), .val (.ref a971), .val (.ref a1012), .unset, .unset, .unset, .unset, .unset, .unset, .unset] [(.long p3), (.int (0 : Int32)), (.ref a1054), (.ref a1054)])) (fun _ kk => XS.lload X1049.here hx rfl (hb hby at_117) rfl kk) ?_
      refine own_lastore X1049 hx hZ e1050 F1057 (j := (0 : Int32)) (i := 0) (by decide) rfl (by decide) (hb hby at_119) ?_
      intro T1058 h1059 X1060 e1061 W1062 F1063
      show own_Out _ _ _ _ (T1058.setTop (mkF m 120 #[.val (.long p0), .second, .val (.long p1), .second, .val (.long p2), .second, .val (.long p3), .second, .val (.int p4), .val (.int p5), .val (.int W), .val (.ref a9), .val (.ref a971), .val (.ref a1012), .unset, .unset, .unset, .unset, .unset, .unset, .unset] [(.ref a1054)]))
      have E1064 := own_ext_wr E1051 W1062 (Nat.le_of_eq g1055.symm)
      have gea1054 : n0 ≤ a1054 := by rw [g1055]; exact Nat.le_trans Z0 sz1045
      have N1065 := Fr.snoc X1060 N1039 gea1054
      refine own_st (G := T1058.setTop (mkF m 121 #[.val (.long p0), .second, .val (.long p1), .second, .val (.long p2), .second, .val (.long p3), .second, .val (.int p4), .val (.int p5), .val (.int W), .val (.ref a9), .val (.ref a971), .val (.ref a1012), .unset, .unset, .unset, .unset, .unset, .unset, .unset] [(.ref a1054), (.ref a1054)])) (fun _ kk => XS.dup X1060.here hx rfl (hb hby at_120) rfl rfl kk) ?_
      refine own_st (G := T1058.setTop (mkF m 122 #[.val (.long p0), .second, .val (.long p1), .second, .val (.long p2), .second, .val (.long p3), .second, .val (.int p4), .val (.int p5), .val (.int W), .val (.ref a9), .val (.ref a971), .val (.ref a1012), .unset, .unset, .unset, .unset, .unset, .unset, .unset] [(.int (1 : Int32)), (.ref a1054), (.ref a1054)])) (fun _ kk => XT.iconstV X1060.here hx rfl (1 : Int32) (hb hby at_121) (by decide) kk) ?_
      refine own_st (G := T1058.setTop (mkF m 124 #[.val (.long p0), .second, .val (.long p1), .second, .val (.long p2), .second, .val (.long p3), .second, .val (.int p4), .val (.int p5), .val (.int W), .val (.ref a9), .val (.ref a971), .val (.ref a1012), .unset, .unset, .unset, .unset, .unset, .unset, .unset] [(.long p3), (.int (1 : Int32)), (.ref a1054), (.ref a1054)])) (fun _ kk => XS.lload X1060.here hx rfl (hb hby at_122) rfl kk) ?_
      refine own_lastore X1060 hx hZ e1061 F1063 (j := (1 : Int32)) (i := 1) (by decide) rfl (by decide) (hb hby at_124) ?_
      intro T1066 h1067 X1068 e1069 W1070 F1071
      show own_Out _ _ _ _ (T1066.setTop (mkF m 125 #[.val (.long p0), .second, .val (.long p1), .second, .val (.long p2), .second, .val (.long p3), .second, .val (.int p4), .val (.int p5), .val (.int W), .val (.ref a9), .val (.ref a971), .val (.ref a1012), .unset, .unset, .unset, .unset, .unset, .unset, .unset] [(.ref a1054)]))
      have E1072 := own_ext_wr E1064 W1070 (Nat.le_of_eq g1055.symm)
      have N1073 := Fr.snoc X1068 N1065 gea1054
      refine own_st (G := T1066.setTop (mkF m 126 #[.val (.long p0), .second, .val (.long p1), .second, .val (.long p2), .second, .val (.long p3), .second, .val (.int p4), .val (.int p5), .val (.int W), .val (.ref a9), .val (.ref a971), .val (.ref a1012), .unset, .unset, .unset, .unset, .unset, .unset, .unset] [(.ref a1054), (.ref a1054)])) (fun _ kk => XS.dup X1068.here hx rfl (hb hby at_125) rfl rfl kk) ?_
      refine own_st (G := T1066.setTop (mkF m 127 #[.val (.long p0), .second, .val (.long p1), .second, .val (.long p2), .second, .val (.long p3), .second, .val (.int p4), .val (.int p5), .val (.int W), .val (.ref a9), .val (.ref a971), .val (.ref a1012), .unset, .unset, .unset, .unset, .unset, .unset, .unset] [(.int (2 : Int32)), (.ref a1054), (.ref a1054)])) (fun _ kk => XT.iconstV X1068.here hx rfl (2 : Int32) (hb hby at_126) (by decide) kk) ?_
      refine own_st (G := T1066.setTop (mkF m 129 #[.val (.long p0), .second, .val (.long p1), .second, .val (.long p2), .second, .val (.long p3), .second, .val (.int p4), .val (.int p5), .val (.int W), .val (.ref a9), .val (.ref a971), .val (.ref a1012), .unset, .unset, .unset, .unset, .unset, .unset, .unset] [(.long p3), (.int (2 : Int32)), (.ref a1054), (.ref a1054)])) (fun _ kk => XS.lload X1068.here hx rfl (hb hby at_127) rfl kk) ?_
      refine own_lastore X1068 hx hZ e1069 F1071 (j := (2 : Int32)) (i := 2) (by decide) rfl (by decide) (hb hby at_129) ?_
      intro T1074 h1075 X1076 e1077 W1078 F1079
      show own_Out _ _ _ _ (T1074.setTop (mkF m 130 #[.val (.long p0), .second, .val (.long p1), .second, .val (.long p2), .second, .val (.long p3), .second, .val (.int p4), .val (.int p5), .val (.int W), .val (.ref a9), .val (.ref a971), .val (.ref a1012), .unset, .unset, .unset, .unset, .unset, .unset, .unset] [(.ref a1054)]))
      have E1080 := own_ext_wr E1072 W1078 (Nat.le_of_eq g1055.symm)
      have N1081 := Fr.snoc X1076 N1073 gea1054
      have F1082 : own_AJ Z h1075 a1054 3 (own_f3 p3 p3 p3) := own_AJ_congr F1079 (own_all3 (Nat.le_refl 3) rfl rfl rfl)
      have lt1083 : a9 < a1054 := by rw [g1055]; exact own_AJ_lt F1042
      have F1084 := own_AJ_ext F1042 E1080
      have lt1085 : a971 < a1054 := by rw [g1055]; exact own_AJ_lt F1044
      have F1086 := own_AJ_ext F1044 E1080
      have lt1087 : a1012 < a1054 := by rw [g1055]; exact own_AJ_lt F1040
      have F1088 := own_AJ_ext F1040 E1080
      have sz1089 : h0.size ≤ h1075.size := Nat.le_trans sz1045 E1080.1
      refine own_st (G := T1074.setTop (mkF m 132 #[.val (.long p0), .second, .val (.long p1), .second, .val (.long p2), .second, .val (.long p3), .second, .val (.int p4), .val (.int p5), .val (.int W), .val (.ref a9), .val (.ref a971), .val (.ref a1012), .val (.ref a1054), .unset, .unset, .unset, .unset, .unset, .unset] [])) (fun _ kk => XS.astore X1076.here hx rfl (hb hby at_130) rfl rfl (l' := #[.val (.long p0), .second, .val (.long p1), .second, .val (.long p2), .second, .val (.long p3), .second, .val (.int p4), .val (.int p5), .val (.int W), .val (.ref a9), .val (.ref a971), .val (.ref a1012), .val (.ref a1054), .unset, .unset, .unset, .unset, .unset, .unset]) rfl kk) ?_
      refine own_st (G := T1074.setTop (mkF m 133 #[.val (.long p0), .second, .val (.long p1), .second, .val (.long p2), .second, .val (.long p3), .second, .val (.int p4), .val (.int p5), .val (.int W), .val (.ref a9), .val (.ref a971), .val (.ref a1012), .val (.ref a1054), .unset, .unset, .unset, .unset, .unset, .unset] [(.int (3 : Int32))])) (fun _ kk => XT.iconstV X1076.here hx rfl (3 : Int32) (hb hby at_132) (by decide) kk) ?_
      obtain ⟨T1090, h1091, cA1092, X1093, e1094, E1095, A1096, st1097⟩ := newP X1076 hx hZ (own_w hw 0 rfl) e1077 (g := (mkF m 133 #[.val (.long p0), .second, .val (.long p1), .second, .val (.long p2), .second, .val (.long p3), .second, .val (.int p4), .val (.int p5), .val (.int W), .val (.ref a9), .val (.ref a971), .val (.ref a1012), .val (.ref a1054), .unset, .unset, .unset, .unset, .unset, .unset] [(.int (3 : Int32))])) rfl (hb hby at_133) rfl (by decide) (cap := 3) (by decide) (by decide) (by decide) (by decide)
      obtain ⟨a1098, g1099⟩ : ∃ z, z = h1075.size := ⟨_, rfl⟩
      rw [← g1099] at A1096 st1097
      have S1100 : (newA cA1092 .long (3 : Int32)).slots.size = 3 := (sz_new _ _ _).trans (by decide)
      refine own_st st1097 ?_
      show own_Out _ _ _ _ (T1090.setTop (mkF m 135 #[.val (.long p0), .second, .val (.long p1), .second, .val (.long p2), .second, .val (.long p3), .second, .val (.int p4), .val (.int p5), .val (.int W), .val (.ref a9), .val (.ref a971), .val (.ref a1012), .val (.ref a1054), .unset, .unset, .unset, .unset, .unset, .unset] [(.ref a1098)]))
      have F1101 := own_AJ_new (n := 3) A1096 (by decide) rfl
      refine own_st (G := T1090.setTop (mkF m 136 #[.val (.long p0), .second, .val (.long p1), .second, .val (.long p2), .second, .val (.long p3), .second, .val (.int p4), .val (.int p5), .val (.int W), .val (.ref a9), .val (.ref a971), .val (.ref a1012), .val (.ref a1054), .unset, .unset, .unset, .unset, .unset, .unset] [(.ref a1098), (.ref a1098)])) (fun _ kk => XS.dup X1093.here hx rfl (hb hby at_135) rfl rfl kk) ?_
      refine own_st (G := T1090.setTop (mkF m 137 #[.val (.long p0), .second, .val (.long p1), .second, .val (.long p2), .second, .val (.long p3), .second, .val (.int p4), .val (.int p5), .val (.int W), .val (.ref a9), .val (.ref a971), .val (.ref a1012), .val (.ref a1054), .unset, .unset, .unset, .unset, .unset, .unset] [(.int (0 : Int32)), (.ref a1098), (.ref a1098)])) (fun _ kk => XT.iconstV X1093.here hx rfl (0 : Int32) (hb hby at_136) (by decide) kk) ?_
      refine own_st (G := T1090.setTop (mkF m 139 #[.val (.long p0), .second, .val (.long p1), .second, .val (.long p2), .second, .val (.long p3), .second, .val (.int p4), .val (.int p5), .val (.int W), .val (.ref a9), .val (.ref a971), .val (.ref a1012), .val (.ref a1054), .unset, .unset, .unset, .unset, .unset, .unset] [(.long p3), (.int (0 : Int32)), (.ref a1098), (.ref a1098)])) (fun _ kk => XS.lload X1093.here hx rfl (hb hby at_137) rfl kk) ?_
      refine own_lastore X1093 hx hZ e1094 F1101 (j := (0 : Int32)) (i := 0) (by decide) rfl (by decide) (hb hby at_139) ?_
      intro T1102 h1103 X1104 e1105 W1106 F1107
      show own_Out _ _ _ _ (T1102.setTop (mkF m 140 #[.val (.long p0), .second, .val (.long p1), .second, .val (.long p2), .second, .val (.long p3), .second, .val (.int p4), .val (.int p5), .val (.int W), .val (.ref a9), .val (.ref a971), .val (.ref a1012), .val (.ref a1054), .unset, .unset, .unset, .unset, .unset, .unset] [(.ref a1098)]))
      have E1108 := own_ext_wr E1095 W1106 (Nat.le_of_eq g1099.symm)
      have gea1098 : n0 ≤ a1098 := by rw [g1099]; exact Nat.le_trans Z0 sz1089
      have N1109 := Fr.snoc X1104 N1081 gea1098
      refine own_st (G := T1102.setTop (mkF m 141 #[.val (.long p0), .second, .val (.long p1), .second, .val (.long p2), .second, .val (.long p3), .second, .val (.int p4), .val (.int p5), .val (.int W), .val (.ref a9), .val (.ref a971), .val (.ref a1012), .val (.ref a1054), .unset, .unset, .unset, .unset, .unset, .unset] [(.ref a1098), (.ref a1098)])) (fun _ kk => XS.dup X1104.here hx rfl (hb hby at_140) rfl rfl kk) ?_
      refine own_st (G := T1102.setTop (mkF m 142 #[.val (.long p0), .second, .val (.long p1), .second, .val (.long p2), .second, .val (.long p3), .second, .val (.int p4), .val (.int p5), .val (.int W), .val (.ref a9), .val (.ref a971), .val (.ref a1012), .val (.ref a1054), .unset, .unset, .unset, .unset, .unset, .unset] [(.int (1 : Int32)), (.ref a1098), (.ref a1098)])) (fun _ kk => XT.iconstV X1104.here hx rfl (1 : Int32) (hb hby at_141) (by decide) kk) ?_
      refine own_st (G := T1102.setTop (mkF m 144 #[.val (.long p0), .second, .val (.long p1), .second, .val (.long p2), .second, .val (.long p3), .second, .val (.int p4), .val (.int p5), .val (.int W), .val (.ref a9), .val (.ref a971), .val (.ref a1012), .val (.ref a1054), .unset, .unset, .unset, .unset, .unset, .unset] [(.long p3), (.int (1 : Int32)), (.ref a1098), (.ref a1098)])) (fun _ kk => XS.lload X1104.here hx rfl (hb hby at_142) rfl kk) ?_
      refine own_lastore X1104 hx hZ e1105 F1107 (j := (1 : Int32)) (i := 1) (by decide) rfl (by decide) (hb hby at_144) ?_
      intro T1110 h1111 X1112 e1113 W1114 F1115
      show own_Out _ _ _ _ (T1110.setTop (mkF m 145 #[.val (.long p0), .second, .val (.long p1), .second, .val (.long p2), .second, .val (.long p3), .second, .val (.int p4), .val (.int p5), .val (.int W), .val (.ref a9), .val (.ref a971), .val (.ref a1012), .val (.ref a1054), .unset, .unset, .unset, .unset, .unset, .unset] [(.ref a1098)]))
      have E1116 := own_ext_wr E1108 W1114 (Nat.le_of_eq g1099.symm)
      have N1117 := Fr.snoc X1112 N1109 gea1098
      refine own_st (G := T1110.setTop (mkF m 146 #[.val (.long p0), .second, .val (.long p1), .second, .val (.long p2), .second, .val (.long p3), .second, .val (.int p4), .val (.int p5), .val (.int W), .val (.ref a9), .val (.ref a971), .val (.ref a1012), .val (.ref a1054), .unset, .unset, .unset, .unset, .unset, .unset] [(.ref a1098), (.ref a1098)])) (fun _ kk => XS.dup X1112.here hx rfl (hb hby at_145) rfl rfl kk) ?_
      refine own_st (G := T1110.setTop (mkF m 147 #[.val (.long p0), .second, .val (.long p1), .second, .val (.long p2), .second, .val (.long p3), .second, .val (.int p4), .val (.int p5), .val (.int W), .val (.ref a9), .val (.ref a971), .val (.ref a1012), .val (.ref a1054), .unset, .unset, .unset, .unset, .unset, .unset] [(.int (2 : Int32)), (.ref a1098), (.ref a1098)])) (fun _ kk => XT.iconstV X1112.here hx rfl (2 : Int32) (hb hby at_146) (by decide) kk) ?_
      refine own_st (G := T1110.setTop (mkF m 149 #[.val (.long p0), .second, .val (.long p1), .second, .val (.long p2), .second, .val (.long p3), .second, .val (.int p4), .val (.int p5), .val (.int W), .val (.ref a9), .val (.ref a971), .val (.ref a1012), .val (.ref a1054), .unset, .unset, .unset, .unset, .unset, .unset] [(.long p3), (.int (2 : Int32)), (.ref a1098), (.ref a1098)])) (fun _ kk => XS.lload X1112.here hx rfl (hb hby at_147) rfl kk) ?_
      refine own_lastore X1112 hx hZ e1113 F1115 (j := (2 : Int32)) (i := 2) (by decide) rfl (by decide) (hb hby at_149) ?_
      intro T1118 h1119 X1120 e1121 W1122 F1123
      show own_Out _ _ _ _ (T1118.setTop (mkF m 150 #[.val (.long p0), .second, .val (.long p1), .second, .val (.long p2), .second, .val (.long p3), .second, .val (.int p4), .val (.int p5), .val (.int W), .val (.ref a9), .val (.ref a971), .val (.ref a1012), .val (.ref a1054), .unset, .unset, .unset, .unset, .unset, .unset] [(.ref a1098)]))
      have E1124 := own_ext_wr E1116 W1122 (Nat.le_of_eq g1099.symm)
      have N1125 := Fr.snoc X1120 N1117 gea1098
      have F1126 : own_AJ Z h1119 a1098 3 (own_f3 p3 p3 p3) := own_AJ_congr F1123 (own_all3 (Nat.le_refl 3) rfl rfl rfl)
      have lt1127 : a9 < a1098 := by rw [g1099]; exact own_AJ_lt F1084
      have F1128 := own_AJ_ext F1084 E1124
      have lt1129 : a971 < a1098 := by rw [g1099]; exact own_AJ_lt F1086
      have F1130 := own_AJ_ext F1086 E1124
      have lt1131 : a1012 < a1098 := by rw [g1099]; exact own_AJ_lt F1088
      have F1132 := own_AJ_ext F1088 E1124
      have lt1133 : a1054 < a1098 := by rw [g1099]; exact own_AJ_lt F1082
      have F1134 := own_AJ_ext F1082 E1124
      have sz1135 : h0.size ≤ h1119.size := Nat.le_trans sz1089 E1124.1
      refine own_st (G := T1118.setTop (mkF m 152 #[.val (.long p0), .second, .val (.long p1), .second, .val (.long p2), .second, .val (.long p3), .second, .val (.int p4), .val (.int p5), .val (.int W), .val (.ref a9), .val (.ref a971), .val (.ref a1012), .val (.ref a1054), .val (.ref a1098), .unset, .unset, .unset, .unset, .unset] [])) (fun _ kk => XS.astore X1120.here hx rfl (hb hby at_150) rfl rfl (l' := #[.val (.long p0), .second, .val (.long p1), .second, .val (.long p2), .second, .val (.long p3), .second, .val (.int p4), .val (.int p5), .val (.int W), .val (.ref a9), .val (.ref a971), .val (.ref a1012), .val (.ref a1054), .val (.ref a1098), .unset, .unset, .unset, .unset, .unset]) rfl kk) ?_
      refine own_st (G := T1118.setTop (mkF m 153 #[.val (.long p0), .second, .val (.long p1), .second, .val (.long p2), .second, .val (.long p3), .second, .val (.int p4), .val (.int p5), .val (.int W), .val (.ref a9), .val (.ref a971), .val (.ref a1012), .val (.ref a1054), .val (.ref a1098), .unset, .unset, .unset, .unset, .unset] [(.int (3 : Int32))])) (fun _ kk => XT.iconstV X1120.here hx rfl (3 : Int32) (hb hby at_152) (by decide) kk) ?_
      obtain ⟨T1136, h1137, cA1138, X1139, e1140, E1141, A1142, st1143⟩ := newP X1120 hx hZ (own_w hw 0 rfl) e1121 (g := (mkF m 153 #[.val (.long p0), .second, .val (.long p1), .second, .val (.long p2), .second, .val (.long p3), .second, .val (.int p4), .val (.int p5), .val (.int W), .val (.ref a9), .val (.ref a971), .val (.ref a1012), .val (.ref a1054), .val (.ref a1098), .unset, .unset, .unset, .unset, .unset] [(.int (3 : Int32))])) rfl (hb hby at_153) rfl (by decide) (cap := 3) (by decide) (by decide) (by decide) (by decide)
      obtain ⟨a1144, g1145⟩ : ∃ z, z = h1119.size := ⟨_, rfl⟩
      rw [← g1145] at A1142 st1143
      have S1146 : (newA cA1138 .long (3 : Int32)).slots.size = 3 := (sz_new _ _ _).trans (by decide)
      refine own_st st1143 ?_
      show own_Out _ _ _ _ (T1136.setTop (mkF m 155 #[.val (.long p0), .second, .val (.long p1), .second, .val (.long p2), .second, .val (.long p3), .second, .val (.int p4), .val (.int p5), .val (.int W), .val (.ref a9), .val (.ref a971), .val (.ref a1012), .val (.ref a1054), .val (.ref a1098), .unset, .unset, .unset, .unset, .unset] [(.ref a1144)]))
      have F1147 := own_AJ_new (n := 3) A1142 (by decide) rfl
      refine own_st (G := T1136.setTop (mkF m 156 #[.val (.long p0), .second, .val (.long p1), .second, .val (.long p2), .second, .val (.long p3), .second, .val (.int p4), .val (.int p5), .val (.int W), .val (.ref a9), .val (.ref a971), .val (.ref a1012), .val (.ref a1054), .val (.ref a1098), .unset, .unset, .unset, .unset, .unset] [(.ref a1144), (.ref a1144)])) (fun _ kk => XS.dup X1139.here hx rfl (hb hby at_155) rfl rfl kk) ?_
      refine own_st (G := T1136.setTop (mkF m 157 #[.val (.long p0), .second, .val (.long p1), .second, .val (.long p2), .second, .val (.long p3), .second, .val (.int p4), .val (.int p5), .val (.int W), .val (.ref a9), .val (.ref a971), .val (.ref a1012), .val (.ref a1054), .val (.ref a1098), .unset, .unset, .unset, .unset, .unset] [(.int (0 : Int32)), (.ref a1144), (.ref a1144)])) (fun _ kk => XT.iconstV X1139.here hx rfl (0 : Int32) (hb hby at_156) (by decide) kk) ?_
      refine own_st (G := T1136.setTop (mkF m 159 #[.val (.long p0), .second, .val (.long p1), .second, .val (.long p2), .second, .val (.long p3), .second, .val (.int p4), .val (.int p5), .val (.int W), .val (.ref a9), .val (.ref a971), .val (.ref a1012), .val (.ref a1054), .val (.ref a1098), .unset, .unset, .unset, .unset, .unset] [(.long p3), (.int (0 : Int32)), (.ref a1144), (.ref a1144)])) (fun _ kk => XS.lload X1139.here hx rfl (hb hby at_157) rfl kk) ?_
      refine own_lastore X1139 hx hZ e1140 F1147 (j := (0 : Int32)) (i := 0) (by decide) rfl (by decide) (hb hby at_159) ?_
      intro T1148 h1149 X1150 e1151 W1152 F1153
      show own_Out _ _ _ _ (T1148.setTop (mkF m 160 #[.val (.long p0), .second, .val (.long p1), .second, .val (.long p2), .second, .val (.long p3), .second, .val (.int p4), .val (.int p5), .val (.int W), .val (.ref a9), .val (.ref a971), .val (.ref a1012), .val (.ref a1054), .val (.ref a1098), .unset, .unset, .unset, .unset, .unset] [(.ref a1144)]))
      have E1154 := own_ext_wr E1141 W1152 (Nat.le_of_eq g1145.symm)
      have gea1144 : n0 ≤ a1144 := by rw [g1145]; exact Nat.le_trans Z0 sz1135
      have N1155 := Fr.snoc X1150 N1125 gea1144
      refine own_st (G := T1148.setTop (mkF m 161 #[.val (.long p0), .second, .val (.long p1), .second, .val (.long p2), .second, .val (.long p3), .second, .val (.int p4), .val (.int p5), .val (.int W), .val (.ref a9), .val (.ref a971), .val (.ref a1012), .val (.ref a1054), .val (.ref a1098), .unset, .unset, .unset, .unset, .unset] [(.ref a1144), (.ref a1144)])) (fun _ kk => XS.dup X1150.here hx rfl (hb hby at_160) rfl rfl kk) ?_
      refine own_st (G := T1148.setTop (mkF m 162 #[.val (.long p0), .second, .val (.long p1), .second, .val (.long p2), .second, .val (.long p3), .second, .val (.int p4), .val (.int p5), .val (.int W), .val (.ref a9), .val (.ref a971), .val (.ref a1012), .val (.ref a1054), .val (.ref a1098), .unset, .unset, .unset, .unset, .unset] [(.int (1 : Int32)), (.ref a1144), (.ref a1144)])) (fun _ kk => XT.iconstV X1150.here hx rfl (1 : Int32) (hb hby at_161) (by decide) kk) ?_
      refine own_st (G := T1148.setTop (mkF m 164 #[.val (.long p0), .second, .val (.long p1), .second, .val (.long p2), .second, .val (.long p3), .second, .val (.int p4), .val (.int p5), .val (.int W), .val (.ref a9), .val (.ref a971), .val (.ref a1012), .val (.ref a1054), .val (.ref a1098), .unset, .unset, .unset, .unset, .unset] [(.long p3), (.int (1 : Int32)), (.ref a1144), (.ref a1144)])) (fun _ kk => XS.lload X1150.here hx rfl (hb hby at_162) rfl kk) ?_
      refine own_lastore X1150 hx hZ e1151 F1153 (j := (1 : Int32)) (i := 1) (by decide) rfl (by decide) (hb hby at_164) ?_
      intro T1156 h1157 X1158 e1159 W1160 F1161
      show own_Out _ _ _ _ (T1156.setTop (mkF m 165 #[.val (.long p0), .second, .val (.long p1), .second, .val (.long p2), .second, .val (.long p3), .second, .val (.int p4), .val (.int p5), .val (.int W), .val (.ref a9), .val (.ref a971), .val (.ref a1012), .val (.ref a1054), .val (.ref a1098), .unset, .unset, .unset, .unset, .unset] [(.ref a1144)]))
      have E1162 := own_ext_wr E1154 W1160 (Nat.le_of_eq g1145.symm)
      have N1163 := Fr.snoc X1158 N1155 gea1144
      refine own_st (G := T1156.setTop (mkF m 166 #[.val (.long p0), .second, .val (.long p1), .second, .val (.long p2), .second, .val (.long p3), .second, .val (.int p4), .val (.int p5), .val (.int W), .val (.ref a9), .val (.ref a971), .val (.ref a1012), .val (.ref a1054), .val (.ref a1098), .unset, .unset, .unset, .unset, .unset] [(.ref a1144), (.ref a1144)])) (fun _ kk => XS.dup X1158.here hx rfl (hb hby at_165) rfl rfl kk) ?_
      refine own_st (G := T1156.setTop (mkF m 167 #[.val (.long p0), .second, .val (.long p1), .second, .val (.long p2), .second, .val (.long p3), .second, .val (.int p4), .val (.int p5), .val (.int W), .val (.ref a9), .val (.ref a971), .val (.ref a1012), .val (.ref a1054), .val (.ref a1098), .unset, .unset, .unset, .unset, .unset] [(.int (2 : Int32)), (.ref a1144), (.ref a1144)])) (fun _ kk => XT.iconstV X1158.here hx rfl (2 : Int32) (hb hby at_166) (by decide) kk) ?_
      refine own_st (G := T1156.setTop (mkF m 169 #[.val (.long p0), .second, .val (.long p1), .second, .val (.long p2), .second, .val (.long p3), .second, .val (.int p4), .val (.int p5), .val (.int W), .val (.ref a9), .val (.ref a971), .val (.ref a1012), .val (.ref a1054), .val (.ref a1098), .unset, .unset, .unset, .unset, .unset] [(.long p3), (.int (2 : Int32)), (.ref a1144), (.ref a1144)])) (fun _ kk => XS.lload X1158.here hx rfl (hb hby at_167) rfl kk) ?_
      refine own_lastore X1158 hx hZ e1159 F1161 (j := (2 : Int32)) (i := 2) (by decide) rfl (by decide) (hb hby at_169) ?_
      intro T1164 h1165 X1166 e1167 W1168 F1169
      show own_Out _ _ _ _ (T1164.setTop (mkF m 170 #[.val (.long p0), .second, .val (.long p1), .second, .val (.long p2), .second, .val (.long p3), .second, .val (.int p4), .val (.int p5), .val (.int W), .val (.ref a9), .val (.ref a971), .val (.ref a1012), .val (.ref a1054), .val (.ref a1098), .unset, .unset, .unset, .unset, .unset] [(.ref a1144)]))
      have E1170 := own_ext_wr E1162 W1168 (Nat.le_of_eq g1145.symm)
      have N1171 := Fr.snoc X1166 N1163 gea1144
      have F1172 : own_AJ Z h1165 a1144 3 (own_f3 p3 p3 p3) := own_AJ_congr F1169 (own_all3 (Nat.le_refl 3) rfl rfl rfl)
      have lt1173 : a9 < a1144 := by rw [g1145]; exact own_AJ_lt F1128
      have F1174 := own_AJ_ext F1128 E1170
      have lt1175 : a971 < a1144 := by rw [g1145]; exact own_AJ_lt F1130
      have F1176 := own_AJ_ext F1130 E1170
      have lt1177 : a1012 < a1144 := by rw [g1145]; exact own_AJ_lt F1132
      have F1178 := own_AJ_ext F1132 E1170
      have lt1179 : a1054 < a1144 := by rw [g1145]; exact own_AJ_lt F1134
      have F1180 := own_AJ_ext F1134 E1170
      have lt1181 : a1098 < a1144 := by rw [g1145]; exact own_AJ_lt F1126
      have F1182 := own_AJ_ext F1126 E1170
      have sz1183 : h0.size ≤ h1165.size := Nat.le_trans sz1135 E1170.1
      refine own_st (G := T1164.setTop (mkF m 172 #[.val (.long p0), .second, .val (.long p1), .second, .val (.long p2), .second, .val (.long p3), .second, .val (.int p4), .val (.int p5), .val (.int W), .val (.ref a9), .val (.ref a971), .val (.ref a1012), .val (.ref a1054), .val (.ref a1098), .val (.ref a1144), .unset, .unset, .unset, .unset] [])) (fun _ kk => XS.astore X1166.here hx rfl (hb hby at_170) rfl rfl (l' := #[.val (.long p0), .second, .val (.long p1), .second, .val (.long p2), .second, .val (.long p3), .second, .val (.int p4), .val (.int p5), .val (.int W), .val (.ref a9), .val (.ref a971), .val (.ref a1012), .val (.ref a1054), .val (.ref a1098), .val (.ref a1144), .unset, .unset, .unset, .unset]) rfl kk) ?_
      obtain ⟨T1184, h1185, X1186, e1187, E1188, A1189, D1190, U1192, st1191⟩ := newO X1166 hx hZ hown (own_w hw 1 rfl) (own_w hw 2 rfl) (own_w hw 3 rfl) e1167 (g := (mkF m 172 #[.val (.long p0), .second, .val (.long p1), .second, .val (.long p2), .second, .val (.long p3), .second, .val (.int p4), .val (.int p5), .val (.int W), .val (.ref a9), .val (.ref a971), .val (.ref a1012), .val (.ref a1054), .val (.ref a1098), .val (.ref a1144), .unset, .unset, .unset, .unset] [])) rfl (hb hby at_172) (by decide) (by decide)
      obtain ⟨a1193, g1194⟩ : ∃ z, z = h1165.size := ⟨_, rfl⟩
      rw [← g1194] at A1189 D1190 U1192 st1191
      refine own_st st1191 ?_
      show own_Out _ _ _ _ (T1184.setTop (mkF m 175 #[.val (.long p0), .second, .val (.long p1), .second, .val (.long p2), .second, .val (.long p3), .second, .val (.int p4), .val (.int p5), .val (.int W), .val (.ref a9), .val (.ref a971), .val (.ref a1012), .val (.ref a1054), .val (.ref a1098), .val (.ref a1144), .unset, .unset, .unset, .unset] [(.ref a1193)]))
      have O1195 : own_P Z h1185 a1193 (0 : Int32) .null .null (0 : Int32) := ⟨A1189, D1190 (Or.inr (own_w hw 11 rfl)) (ty := .int) (by decide), D1190 (Or.inl (own_w hw 13 rfl)) (ty := .array (.long)) (by decide), D1190 (Or.inl (own_w hw 16 rfl)) (ty := .array (.int)) (by decide), D1190 (Or.inl (own_w hw 28 rfl)) (ty := .int) (by decide)⟩
      have ga : n0 ≤ a1193 := by rw [g1194]; exact Nat.le_trans Z0 sz1183
      have lt1196 : a9 < a1193 := by rw [g1194]; exact own_AJ_lt F1174
      have F1197 := own_AJ_ext F1174 E1188
      have lt1198 : a971 < a1193 := by rw [g1194]; exact own_AJ_lt F1176
      have F1199 := own_AJ_ext F1176 E1188
      have lt1200 : a1012 < a1193 := by rw [g1194]; exact own_AJ_lt F1178
      have F1201 := own_AJ_ext F1178 E1188
      have lt1202 : a1054 < a1193 := by rw [g1194]; exact own_AJ_lt F1180
      have F1203 := own_AJ_ext F1180 E1188
      have lt1204 : a1098 < a1193 := by rw [g1194]; exact own_AJ_lt F1182
      have F1205 := own_AJ_ext F1182 E1188
      have lt1206 : a1144 < a1193 := by rw [g1194]; exact own_AJ_lt F1172
      have F1207 := own_AJ_ext F1172 E1188
      have sz1208 : h0.size ≤ h1185.size := Nat.le_trans sz1183 E1188.1
      refine own_st (G := T1184.setTop (mkF m 176 #[.val (.long p0), .second, .val (.long p1), .second, .val (.long p2), .second, .val (.long p3), .second, .val (.int p4), .val (.int p5), .val (.int W), .val (.ref a9), .val (.ref a971), .val (.ref a1012), .val (.ref a1054), .val (.ref a1098), .val (.ref a1144), .unset, .unset, .unset, .unset] [(.ref a1193), (.ref a1193)])) (fun _ kk => XS.dup X1186.here hx rfl (hb hby at_175) rfl rfl kk) ?_
      refine own_st (G := T1184.setTop (mkF m 178 #[.val (.long p0), .second, .val (.long p1), .second, .val (.long p2), .second, .val (.long p3), .second, .val (.int p4), .val (.int p5), .val (.int W), .val (.ref a9), .val (.ref a971), .val (.ref a1012), .val (.ref a1054), .val (.ref a1098), .val (.ref a1144), .unset, .unset, .unset, .unset] [(.int W), (.ref a1193), (.ref a1193)])) (fun _ kk => XS.iload X1186.here hx rfl (hb hby at_176) rfl kk) ?_
      have la : a1193 < h1185.size := (O1195).1.lt
      refine own_callI X1186 hx hZ (y := (⟨"com/example/libbuchi/libbuchi/automata/PackedStates", "<init>", "(I)V"⟩ : MethodName)) (b := a1193) (as' := [(.int W)]) rfl hown (own_w hw 4 rfl) (own_w hw 5 rfl) (own_w hw 6 rfl) (own_w hw 3 rfl) (by decide) (own_ini l Z a0 hw [] W a1193 h1185 n0 ga O1195 hW) 1 (by decide) (by decide) (by decide) (by decide) (rest := [(.ref a1193)]) (by rw [hml]; rfl) (lenOf (by decide : parseMethodDescriptor "(I)V" = some ⟨[.int], none⟩) rfl) rfl (Nat.le_of_eq rfl) (hb hby at_178) e1187 ?_
      intro T1218 L1219 v1221 X1220 hQ
      obtain ⟨rfl, N1209', wa1211, sa1212, g1216, g1217, K1210, O1213, Fw1214, Fs1215⟩ := hQ
      show own_Out _ _ _ _ (T1218.setTop (mkF m 181 #[.val (.long p0), .second, .val (.long p1), .second, .val (.long p2), .second, .val (.long p3), .second, .val (.int p4), .val (.int p5), .val (.int W), .val (.ref a9), .val (.ref a971), .val (.ref a1012), .val (.ref a1054), .val (.ref a1098), .val (.ref a1144), .unset, .unset, .unset, .unset] [(.ref a1193)]))
      have N1209 := Fr.app N1171 N1209'
      have gwa : n0 ≤ wa1211 := Nat.le_trans Z0 (Nat.le_trans sz1208 g1216)
      have gsa : n0 ≤ sa1212 := Nat.le_trans gwa (Nat.le_of_lt g1217)
      have F1222 := own_AJ_keep F1197 K1210 (ninS (own_ne (by omega)) (nin0))
      have F1223 := own_AJ_keep F1199 K1210 (ninS (own_ne (by omega)) (nin0))
      have F1224 := own_AJ_keep F1201 K1210 (ninS (own_ne (by omega)) (nin0))
      have F1225 := own_AJ_keep F1203 K1210 (ninS (own_ne (by omega)) (nin0))
      have F1226 := own_AJ_keep F1205 K1210 (ninS (own_ne (by omega)) (nin0))
      have F1227 := own_AJ_keep F1207 K1210 (ninS (own_ne (by omega)) (nin0))
      have hK0 : own_K (0 : Int32) 0 := ⟨by decide, by decide⟩
      have hS0 : own_SI (fun _ => 0) (0 : Int32) := ⟨fun _ _ => ⟨(by decide : (0 : Int) ≤ (0 : Int32).toInt), (by decide : (0 : Int32).toInt ≤ (0 : Int32).toInt)⟩, fun _ _ _ _ _ z => absurd rfl z⟩
      refine own_st (G := T1218.setTop (mkF m 183 #[.val (.long p0), .second, .val (.long p1), .second, .val (.long p2), .second, .val (.long p3), .second, .val (.int p4), .val (.int p5), .val (.int W), .val (.ref a9), .val (.ref a971), .val (.ref a1012), .val (.ref a1054), .val (.ref a1098), .val (.ref a1144), .val (.ref a1193), .unset, .unset, .unset] [])) (fun _ kk => XS.astore X1220.here hx rfl (hb hby at_181) rfl rfl (l' := #[.val (.long p0), .second, .val (.long p1), .second, .val (.long p2), .second, .val (.long p3), .second, .val (.int p4), .val (.int p5), .val (.int W), .val (.ref a9), .val (.ref a971), .val (.ref a1012), .val (.ref a1054), .val (.ref a1098), .val (.ref a1144), .val (.ref a1193), .unset, .unset, .unset]) rfl kk) ?_
      refine own_st (G := T1218.setTop (mkF m 185 #[.val (.long p0), .second, .val (.long p1), .second, .val (.long p2), .second, .val (.long p3), .second, .val (.int p4), .val (.int p5), .val (.int W), .val (.ref a9), .val (.ref a971), .val (.ref a1012), .val (.ref a1054), .val (.ref a1098), .val (.ref a1144), .val (.ref a1193), .unset, .unset, .unset] [(.ref a1193)])) (fun _ kk => XS.aload X1220.here hx rfl (hb hby at_183) rfl rfl kk) ?_
      refine own_st (G := T1218.setTop (mkF m 187 #[.val (.long p0), .second, .val (.long p1), .second, .val (.long p2), .second, .val (.long p3), .second, .val (.int p4), .val (.int p5), .val (.int W), .val (.ref a9), .val (.ref a971), .val (.ref a1012), .val (.ref a1054), .val (.ref a1098), .val (.ref a1144), .val (.ref a1193), .unset, .unset, .unset] [(.ref a9), (.ref a1193)])) (fun _ kk => XS.aload X1220.here hx rfl (hb hby at_185) rfl rfl kk) ?_
      refine own_callV X1220 hx hZ (y := (⟨"com/example/libbuchi/libbuchi/automata/PackedStates", "add", "([J)I"⟩ : MethodName)) (b := a1193) (as' := [(.ref a9)]) hown (own_w hw 17 rfl) (own_w hw 18 rfl) (own_w hw 20 rfl) (own_w hw 19 rfl) (own_w hw 21 rfl) (own_w hw 3 rfl) (by decide) (own_add l Z a0 hw [] a1193 a9 wa1211 sa1212 W (0 : Int32) (fun _ => 0) (own_f3 p0 p1 p2) (fun _ => 0) T1218.heap n0 ga gwa gsa (own_ne (by omega)) (own_ne (by omega)) (own_ne (by omega)) O1213 Fw1214 Fs1215 F1222 hW ⟨hK0.1, Int.le_trans hK0.2 (by decide)⟩ hS0) (O1213).1 0 (by decide) (by decide) (by decide) (by decide) (rest := []) (by rw [hml]; rfl) (lenOf (by decide : parseMethodDescriptor "([J)I" = some ⟨[.array (.long)], some (.int)⟩) rfl) rfl (Nat.le_of_eq rfl) (hb hby at_187) rfl ?_
      intro T1238 L1239 v1241 X1240 hQ
      obtain ⟨r1230, k1231, fw1232, fs1233, rfl, N1228', K1229, O1234, Fw1235, Fs1236, R1237⟩ := hQ
      show own_Out _ _ _ _ (T1238.setTop (mkF m 190 #[.val (.long p0), .second, .val (.long p1), .second, .val (.long p2), .second, .val (.long p3), .second, .val (.int p4), .val (.int p5), .val (.int W), .val (.ref a9), .val (.ref a971), .val (.ref a1012), .val (.ref a1054), .val (.ref a1098), .val (.ref a1144), .val (.ref a1193), .unset, .unset, .unset] [(.int r1230)]))
      have N1228 := Fr.app N1209 N1228'
      have F1242 := own_AJ_keep F1222 K1229 (ninS (own_ne (by omega)) (ninS (own_ne (by omega)) (ninS (own_ne (by omega)) (nin0))))
      have F1243 := own_AJ_keep F1223 K1229 (ninS (own_ne (by omega)) (ninS (own_ne (by omega)) (ninS (own_ne (by omega)) (nin0))))
      have F1244 := own_AJ_keep F1224 K1229 (ninS (own_ne (by omega)) (ninS (own_ne (by omega)) (ninS (own_ne (by omega)) (nin0))))
      have F1245 := own_AJ_keep F1225 K1229 (ninS (own_ne (by omega)) (ninS (own_ne (by omega)) (ninS (own_ne (by omega)) (nin0))))
      have F1246 := own_AJ_keep F1226 K1229 (ninS (own_ne (by omega)) (ninS (own_ne (by omega)) (ninS (own_ne (by omega)) (nin0))))
      have F1247 := own_AJ_keep F1227 K1229 (ninS (own_ne (by omega)) (ninS (own_ne (by omega)) (ninS (own_ne (by omega)) (nin0))))
      have hK1248 : own_K k1231 1 := own_K_succ hK0 (by decide) R1237.1
      have at1249 := own_at_of hW R1237.2.2.2.1
      refine own_st (G := T1238.setTop (mkF m 192 #[.val (.long p0), .second, .val (.long p1), .second, .val (.long p2), .second, .val (.long p3), .second, .val (.int p4), .val (.int p5), .val (.int W), .val (.ref a9), .val (.ref a971), .val (.ref a1012), .val (.ref a1054), .val (.ref a1098), .val (.ref a1144), .val (.ref a1193), .val (.int r1230), .unset, .unset] [])) (fun _ kk => XS.istore X1240.here hx rfl (hb hby at_190) rfl (l' := #[.val (.long p0), .second, .val (.long p1), .second, .val (.long p2), .second, .val (.long p3), .second, .val (.int p4), .val (.int p5), .val (.int W), .val (.ref a9), .val (.ref a971), .val (.ref a1012), .val (.ref a1054), .val (.ref a1098), .val (.ref a1144), .val (.ref a1193), .val (.int r1230), .unset, .unset]) rfl kk) ?_
      refine own_st (G := T1238.setTop (mkF m 194 #[.val (.long p0), .second, .val (.long p1), .second, .val (.long p2), .second, .val (.long p3), .second, .val (.int p4), .val (.int p5), .val (.int W), .val (.ref a9), .val (.ref a971), .val (.ref a1012), .val (.ref a1054), .val (.ref a1098), .val (.ref a1144), .val (.ref a1193), .val (.int r1230), .unset, .unset] [(.ref a1193)])) (fun _ kk => XS.aload X1240.here hx rfl (hb hby at_192) rfl rfl kk) ?_
      refine own_st (G := T1238.setTop (mkF m 196 #[.val (.long p0), .second, .val (.long p1), .second, .val (.long p2), .second, .val (.long p3), .second, .val (.int p4), .val (.int p5), .val (.int W), .val (.ref a9), .val (.ref a971), .val (.ref a1012), .val (.ref a1054), .val (.ref a1098), .val (.ref a1144), .val (.ref a1193), .val (.int r1230), .unset, .unset] [(.ref a971), (.ref a1193)])) (fun _ kk => XS.aload X1240.here hx rfl (hb hby at_194) rfl rfl kk) ?_
      refine own_callV X1240 hx hZ (y := (⟨"com/example/libbuchi/libbuchi/automata/PackedStates", "add", "([J)I"⟩ : MethodName)) (b := a1193) (as' := [(.ref a971)]) hown (own_w hw 17 rfl) (own_w hw 18 rfl) (own_w hw 20 rfl) (own_w hw 19 rfl) (own_w hw 21 rfl) (own_w hw 3 rfl) (by decide) (own_add l Z a0 hw [] a1193 a971 wa1211 sa1212 W k1231 fw1232 (own_f3 p0 p1 p2) fs1233 T1238.heap n0 ga gwa gsa (own_ne (by omega)) (own_ne (by omega)) (own_ne (by omega)) O1234 Fw1235 Fs1236 F1243 hW ⟨hK1248.1, Int.le_trans hK1248.2 (by decide)⟩ R1237.2.1) (O1234).1 0 (by decide) (by decide) (by decide) (by decide) (rest := []) (by rw [hml]; rfl) (lenOf (by decide : parseMethodDescriptor "([J)I" = some ⟨[.array (.long)], some (.int)⟩) rfl) rfl (Nat.le_of_eq rfl) (hb hby at_196) rfl ?_
      intro T1260 L1261 v1263 X1262 hQ
      obtain ⟨r1252, k1253, fw1254, fs1255, rfl, N1250', K1251, O1256, Fw1257, Fs1258, R1259⟩ := hQ
      show own_Out _ _ _ _ (T1260.setTop (mkF m 199 #[.val (.long p0), .second, .val (.long p1), .second, .val (.long p2), .second, .val (.long p3), .second, .val (.int p4), .val (.int p5), .val (.int W), .val (.ref a9), .val (.ref a971), .val (.ref a1012), .val (.ref a1054), .val (.ref a1098), .val (.ref a1144), .val (.ref a1193), .val (.int r1230), .unset, .unset] [(.int r1252)]))
      have N1250 := Fr.app N1228 N1250'
      have F1264 := own_AJ_keep F1242 K1251 (ninS (own_ne (by omega)) (ninS (own_ne (by omega)) (ninS (own_ne (by omega)) (nin0))))
      have F1265 := own_AJ_keep F1243 K1251 (ninS (own_ne (by omega)) (ninS (own_ne (by omega)) (ninS (own_ne (by omega)) (nin0))))
      have F1266 := own_AJ_keep F1244 K1251 (ninS (own_ne (by omega)) (ninS (own_ne (by omega)) (ninS (own_ne (by omega)) (nin0))))
      have F1267 := own_AJ_keep F1245 K1251 (ninS (own_ne (by omega)) (ninS (own_ne (by omega)) (ninS (own_ne (by omega)) (nin0))))
      have F1268 := own_AJ_keep F1246 K1251 (ninS (own_ne (by omega)) (ninS (own_ne (by omega)) (ninS (own_ne (by omega)) (nin0))))
      have F1269 := own_AJ_keep F1247 K1251 (ninS (own_ne (by omega)) (ninS (own_ne (by omega)) (ninS (own_ne (by omega)) (nin0))))
      have hK1270 : own_K k1253 2 := own_K_succ hK1248 (by decide) R1259.1
      have hr1271 := own_chain (k' := 0) R1237.2.2.2.2.2 R1237.2.2.2.2.1 R1259.2.2.1
      have lr1272 := Nat.lt_of_lt_of_le R1237.2.2.2.2.1 (own_kle hK1248 (by decide) R1259.1)
      have at1273 := own_at_of hW R1259.2.2.2.1
      refine own_st (G := T1260.setTop (mkF m 201 #[.val (.long p0), .second, .val (.long p1), .second, .val (.long p2), .second, .val (.long p3), .second, .val (.int p4), .val (.int p5), .val (.int W), .val (.ref a9), .val (.ref a971), .val (.ref a1012), .val (.ref a1054), .val (.ref a1098), .val (.ref a1144), .val (.ref a1193), .val (.int r1230), .val (.int r1252), .unset] [])) (fun _ kk => XS.istore X1262.here hx rfl (hb hby at_199) rfl (l' := #[.val (.long p0), .second, .val (.long p1), .second, .val (.long p2), .second, .val (.long p3), .second, .val (.int p4), .val (.int p5), .val (.int W), .val (.ref a9), .val (.ref a971), .val (.ref a1012), .val (.ref a1054), .val (.ref a1098), .val (.ref a1144), .val (.ref a1193), .val (.int r1230), .val (.int r1252), .unset]) rfl kk) ?_
      refine own_st (G := T1260.setTop (mkF m 203 #[.val (.long p0), .second, .val (.long p1), .second, .val (.long p2), .second, .val (.long p3), .second, .val (.int p4), .val (.int p5), .val (.int W), .val (.ref a9), .val (.ref a971), .val (.ref a1012), .val (.ref a1054), .val (.ref a1098), .val (.ref a1144), .val (.ref a1193), .val (.int r1230), .val (.int r1252), .unset] [(.ref a1193)])) (fun _ kk => XS.aload X1262.here hx rfl (hb hby at_201) rfl rfl kk) ?_
      refine own_st (G := T1260.setTop (mkF m 205 #[.val (.long p0), .second, .val (.long p1), .second, .val (.long p2), .second, .val (.long p3), .second, .val (.int p4), .val (.int p5), .val (.int W), .val (.ref a9), .val (.ref a971), .val (.ref a1012), .val (.ref a1054), .val (.ref a1098), .val (.ref a1144), .val (.ref a1193), .val (.int r1230), .val (.int r1252), .unset] [(.ref a1012), (.ref a1193)])) (fun _ kk => XS.aload X1262.here hx rfl (hb hby at_203) rfl rfl kk) ?_
      refine own_callV X1262 hx hZ (y := (⟨"com/example/libbuchi/libbuchi/automata/PackedStates", "add", "([J)I"⟩ : MethodName)) (b := a1193) (as' := [(.ref a1012)]) hown (own_w hw 17 rfl) (own_w hw 18 rfl) (own_w hw 20 rfl) (own_w hw 19 rfl) (own_w hw 21 rfl) (own_w hw 3 rfl) (by decide) (own_add l Z a0 hw [] a1193 a1012 wa1211 sa1212 W k1253 fw1254 (own_f3 p2 p0 p1) fs1255 T1260.heap n0 ga gwa gsa (own_ne (by omega)) (own_ne (by omega)) (own_ne (by omega)) O1256 Fw1257 Fs1258 F1266 hW ⟨hK1270.1, Int.le_trans hK1270.2 (by decide)⟩ R1259.2.1) (O1256).1 0 (by decide) (by decide) (by decide) (by decide) (rest := []) (by rw [hml]; rfl) (lenOf (by decide : parseMethodDescriptor "([J)I" = some ⟨[.array (.long)], some (.int)⟩) rfl) rfl (Nat.le_of_eq rfl) (hb hby at_205) rfl ?_
      intro T1284 L1285 v1287 X1286 hQ
      obtain ⟨r1276, k1277, fw1278, fs1279, rfl, N1274', K1275, O1280, Fw1281, Fs1282, R1283⟩ := hQ
      show own_Out _ _ _ _ (T1284.setTop (mkF m 208 #[.val (.long p0), .second, .val (.long p1), .second, .val (.long p2), .second, .val (.long p3), .second, .val (.int p4), .val (.int p5), .val (.int W), .val (.ref a9), .val (.ref a971), .val (.ref a1012), .val (.ref a1054), .val (.ref a1098), .val (.ref a1144), .val (.ref a1193), .val (.int r1230), .val (.int r1252), .unset] [(.int r1276)]))
      have N1274 := Fr.app N1250 N1274'
      have F1288 := own_AJ_keep F1264 K1275 (ninS (own_ne (by omega)) (ninS (own_ne (by omega)) (ninS (own_ne (by omega)) (nin0))))
      have F1289 := own_AJ_keep F1265 K1275 (ninS (own_ne (by omega)) (ninS (own_ne (by omega)) (ninS (own_ne (by omega)) (nin0))))
      have F1290 := own_AJ_keep F1266 K1275 (ninS (own_ne (by omega)) (ninS (own_ne (by omega)) (ninS (own_ne (by omega)) (nin0))))
      have F1291 := own_AJ_keep F1267 K1275 (ninS (own_ne (by omega)) (ninS (own_ne (by omega)) (ninS (own_ne (by omega)) (nin0))))
      have F1292 := own_AJ_keep F1268 K1275 (ninS (own_ne (by omega)) (ninS (own_ne (by omega)) (ninS (own_ne (by omega)) (nin0))))
      have F1293 := own_AJ_keep F1269 K1275 (ninS (own_ne (by omega)) (ninS (own_ne (by omega)) (ninS (own_ne (by omega)) (nin0))))
      have hK1294 : own_K k1277 3 := own_K_succ hK1270 (by decide) R1283.1
      have hr1295 := own_chain (k' := 0) hr1271 lr1272 R1283.2.2.1
      have lr1296 := Nat.lt_of_lt_of_le lr1272 (own_kle hK1270 (by decide) R1283.1)
      have hr1297 := own_chain (k' := 0) R1259.2.2.2.2.2 R1259.2.2.2.2.1 R1283.2.2.1
      have lr1298 := Nat.lt_of_lt_of_le R1259.2.2.2.2.1 (own_kle hK1270 (by decide) R1283.1)
      have at1299 := own_at_of hW R1283.2.2.2.1
      refine own_st (G := T1284.setTop (mkF m 210 #[.val (.long p0), .second, .val (.long p1), .second, .val (.long p2), .second, .val (.long p3), .second, .val (.int p4), .val (.int p5), .val (.int W), .val (.ref a9), .val (.ref a971), .val (.ref a1012), .val (.ref a1054), .val (.ref a1098), .val (.ref a1144), .val (.ref a1193), .val (.int r1230), .val (.int r1252), .val (.int r1276)] [])) (fun _ kk => XS.istore X1286.here hx rfl (hb hby at_208) rfl (l' := #[.val (.long p0), .second, .val (.long p1), .second, .val (.long p2), .second, .val (.long p3), .second, .val (.int p4), .val (.int p5), .val (.int W), .val (.ref a9), .val (.ref a971), .val (.ref a1012), .val (.ref a1054), .val (.ref a1098), .val (.ref a1144), .val (.ref a1193), .val (.int r1230), .val (.int r1252), .val (.int r1276)]) rfl kk) ?_
      refine own_st (G := T1284.setTop (mkF m 212 #[.val (.long p0), .second, .val (.long p1), .second, .val (.long p2), .second, .val (.long p3), .second, .val (.int p4), .val (.int p5), .val (.int W), .val (.ref a9), .val (.ref a971), .val (.ref a1012), .val (.ref a1054), .val (.ref a1098), .val (.ref a1144), .val (.ref a1193), .val (.int r1230), .val (.int r1252), .val (.int r1276)] [(.int p5)])) (fun _ kk => XS.iload X1286.here hx rfl (hb hby at_210) rfl kk) ?_
      refine own_st (G := T1284.setTop (mkF m 213 #[.val (.long p0), .second, .val (.long p1), .second, .val (.long p2), .second, .val (.long p3), .second, .val (.int p4), .val (.int p5), .val (.int W), .val (.ref a9), .val (.ref a971), .val (.ref a1012), .val (.ref a1054), .val (.ref a1098), .val (.ref a1144), .val (.ref a1193), .val (.int r1230), .val (.int r1252), .val (.int r1276)] [(.int (4 : Int32)), (.int p5)])) (fun _ kk => XT.iconstV X1286.here hx rfl (4 : Int32) (hb hby at_212) (by decide) kk) ?_
      refine own_st (G := T1284.setTop (mkF m 214 #[.val (.long p0), .second, .val (.long p1), .second, .val (.long p2), .second, .val (.long p3), .second, .val (.int p4), .val (.int p5), .val (.int W), .val (.ref a9), .val (.ref a971), .val (.ref a1012), .val (.ref a1054), .val (.ref a1098), .val (.ref a1144), .val (.ref a1193), .val (.int r1230), .val (.int r1252), .val (.int r1276)] [(.int (p5 &&& (4 : Int32)))])) (fun _ kk => XS.iand X1286.here hx rfl (hb hby at_213) rfl kk) ?_
      by_cases hc1300 : (p5 &&& (4 : Int32)) = (0 : Int32)
      · skip
        refine own_st (G := T1284.setTop (mkF m 247 #[.val (.long p0), .second, .val (.long p1), .second, .val (.long p2), .second, .val (.long p3), .second, .val (.int p4), .val (.int p5), .val (.int W), .val (.ref a9), .val (.ref a971), .val (.ref a1012), .val (.ref a1054), .val (.ref a1098), .val (.ref a1144), .val (.ref a1193), .val (.int r1230), .val (.int r1252), .val (.int r1276)] [])) (fun _ kk => XS.ifYes X1286.here hx rfl (pc0 := 214) (pc' := 247) rfl (hb hby at_214) rfl (XT.i0_eq_t hc1300) (by decide) (by decide) kk) ?_
        refine own_st (G := T1284.setTop (mkF m 249 #[.val (.long p0), .second, .val (.long p1), .second, .val (.long p2), .second, .val (.long p3), .second, .val (.int p4), .val (.int p5), .val (.int W), .val (.ref a9), .val (.ref a971), .val (.ref a1012), .val (.ref a1054), .val (.ref a1098), .val (.ref a1144), .val (.ref a1193), .val (.int r1230), .val (.int r1252), .val (.int r1276)] [(.ref a1193)])) (fun _ kk => XS.aload X1286.here hx rfl (hb hby at_247) rfl rfl kk) ?_
        refine own_st (G := T1284.setTop (mkF m 251 #[.val (.long p0), .second, .val (.long p1), .second, .val (.long p2), .second, .val (.long p3), .second, .val (.int p4), .val (.int p5), .val (.int W), .val (.ref a9), .val (.ref a971), .val (.ref a1012), .val (.ref a1054), .val (.ref a1098), .val (.ref a1144), .val (.ref a1193), .val (.int r1230), .val (.int r1252), .val (.int r1276)] [(.int r1230), (.ref a1193)])) (fun _ kk => XS.iload X1286.here hx rfl (hb hby at_249) rfl kk) ?_
        refine own_st (G := T1284.setTop (mkF m 253 #[.val (.long p0), .second, .val (.long p1), .second, .val (.long p2), .second, .val (.long p3), .second, .val (.int p4), .val (.int p5), .val (.int W), .val (.ref a9), .val (.ref a971), .val (.ref a1012), .val (.ref a1054), .val (.ref a1098), .val (.ref a1144), .val (.ref a1193), .val (.int r1230), .val (.int r1252), .val (.int r1276)] [(.ref a1054), (.int r1230), (.ref a1193)])) (fun _ kk => XS.aload X1286.here hx rfl (hb hby at_251) rfl rfl kk) ?_
        refine own_callV X1286 hx hZ (y := (⟨"com/example/libbuchi/libbuchi/automata/PackedStates", "get", "(I[J)V"⟩ : MethodName)) (b := a1193) (as' := [(.int r1230), (.ref a1054)]) hown (own_w hw 34 rfl) (own_w hw 35 rfl) (own_w hw 37 rfl) (own_w hw 36 rfl) (own_w hw 38 rfl) (own_w hw 3 rfl) (by decide) (own_get l Z a0 hw [] r1230 a1193 a1054 wa1211 sa1212 W k1277 fw1278 (own_f3 p3 p3 p3) T1284.heap n0 gea1054 O1280 Fw1281 F1291 hW at1249) (O1280).1 0 (by decide) (by decide) (by decide) (by decide) (rest := []) (by rw [hml]; rfl) (lenOf (by decide : parseMethodDescriptor "(I[J)V" = some ⟨[.int, .array (.long)], none⟩) rfl) rfl (Nat.le_of_eq rfl) (hb hby at_253) rfl ?_
        intro T1304 L1305 v1307 X1306 hQ
        obtain ⟨rfl, N1301', K1302, F1303⟩ := hQ
        show own_Out _ _ _ _ (T1304.setTop (mkF m 256 #[.val (.long p0), .second, .val (.long p1), .second, .val (.long p2), .second, .val (.long p3), .second, .val (.int p4), .val (.int p5), .val (.int W), .val (.ref a9), .val (.ref a971), .val (.ref a1012), .val (.ref a1054), .val (.ref a1098), .val (.ref a1144), .val (.ref a1193), .val (.int r1230), .val (.int r1252), .val (.int r1276)] []))
        have N1301 := Fr.app N1274 N1301'
        have F1308 := own_AJ_keep F1288 K1302 (ninS (own_ne (by omega)) (nin0))
        have F1309 := own_AJ_keep F1289 K1302 (ninS (own_ne (by omega)) (nin0))
        have F1310 := own_AJ_keep F1290 K1302 (ninS (own_ne (by omega)) (nin0))
        have F1311 := own_AJ_keep F1292 K1302 (ninS (own_ne (by omega)) (nin0))
        have F1312 := own_AJ_keep F1293 K1302 (ninS (own_ne (by omega)) (nin0))
        have O1313 := own_P_keep K1302 (ninS (own_ne (by omega)) (nin0)) O1280
        have Fw1314 := own_AJ_keep Fw1281 K1302 (ninS (own_ne (by omega)) (nin0))
        obtain ⟨gf1316, gq1317⟩ : ∃ z : Nat → Int64, z = (fun i => if 0 ≤ i ∧ i < 0 + W.toNatClampNeg then fw1278 (r1230.toNatClampNeg * W.toNatClampNeg + (i - 0)) else (own_f3 p3 p3 p3) i) := ⟨_, rfl⟩
        rw [← gq1317] at F1303
        have hm1315 := own_fin hW hr1295 (sn := p3) rfl rfl rfl gf1316 gq1317
        refine own_st (G := T1304.setTop (mkF m 258 #[.val (.long p0), .second, .val (.long p1), .second, .val (.long p2), .second, .val (.long p3), .second, .val (.int p4), .val (.int p5), .val (.int W), .val (.ref a9), .val (.ref a971), .val (.ref a1012), .val (.ref a1054), .val (.ref a1098), .val (.ref a1144), .val (.ref a1193), .val (.int r1230), .val (.int r1252), .val (.int r1276)] [(.ref a1193)])) (fun _ kk => XS.aload X1306.here hx rfl (hb hby at_256) rfl rfl kk) ?_
        refine own_st (G := T1304.setTop (mkF m 260 #[.val (.long p0), .second, .val (.long p1), .second, .val (.long p2), .second, .val (.long p3), .second, .val (.int p4), .val (.int p5), .val (.int W), .val (.ref a9), .val (.ref a971), .val (.ref a1012), .val (.ref a1054), .val (.ref a1098), .val (.ref a1144), .val (.ref a1193), .val (.int r1230), .val (.int r1252), .val (.int r1276)] [(.int r1252), (.ref a1193)])) (fun _ kk => XS.iload X1306.here hx rfl (hb hby at_258) rfl kk) ?_
        refine own_st (G := T1304.setTop (mkF m 262 #[.val (.long p0), .second, .val (.long p1), .second, .val (.long p2), .second, .val (.long p3), .second, .val (.int p4), .val (.int p5), .val (.int W), .val (.ref a9), .val (.ref a971), .val (.ref a1012), .val (.ref a1054), .val (.ref a1098), .val (.ref a1144), .val (.ref a1193), .val (.int r1230), .val (.int r1252), .val (.int r1276)] [(.ref a1098), (.int r1252), (.ref a1193)])) (fun _ kk => XS.aload X1306.here hx rfl (hb hby at_260) rfl rfl kk) ?_
        refine own_callV X1306 hx hZ (y := (⟨"com/example/libbuchi/libbuchi/automata/PackedStates", "get", "(I[J)V"⟩ : MethodName)) (b := a1193) (as' := [(.int r1252), (.ref a1098)]) hown (own_w hw 34 rfl) (own_w hw 35 rfl) (own_w hw 37 rfl) (own_w hw 36 rfl) (own_w hw 38 rfl) (own_w hw 3 rfl) (by decide) (own_get l Z a0 hw [] r1252 a1193 a1098 wa1211 sa1212 W k1277 fw1278 (own_f3 p3 p3 p3) T1304.heap n0 gea1098 O1313 Fw1314 F1311 hW at1273) (O1313).1 0 (by decide) (by decide) (by decide) (by decide) (rest := []) (by rw [hml]; rfl) (lenOf (by decide : parseMethodDescriptor "(I[J)V" = some ⟨[.int, .array (.long)], none⟩) rfl) rfl (Nat.le_of_eq rfl) (hb hby at_262) rfl ?_
        intro T1321 L1322 v1324 X1323 hQ
        obtain ⟨rfl, N1318', K1319, F1320⟩ := hQ
        show own_Out _ _ _ _ (T1321.setTop (mkF m 265 #[.val (.long p0), .second, .val (.long p1), .second, .val (.long p2), .second, .val (.long p3), .second, .val (.int p4), .val (.int p5), .val (.int W), .val (.ref a9), .val (.ref a971), .val (.ref a1012), .val (.ref a1054), .val (.ref a1098), .val (.ref a1144), .val (.ref a1193), .val (.int r1230), .val (.int r1252), .val (.int r1276)] []))
        have N1318 := Fr.app N1301 N1318'
        have F1325 := own_AJ_keep F1308 K1319 (ninS (own_ne (by omega)) (nin0))
        have F1326 := own_AJ_keep F1309 K1319 (ninS (own_ne (by omega)) (nin0))
        have F1327 := own_AJ_keep F1310 K1319 (ninS (own_ne (by omega)) (nin0))
        have F1328 := own_AJ_keep F1303 K1319 (ninS (own_ne (by omega)) (nin0))
        have F1329 := own_AJ_keep F1312 K1319 (ninS (own_ne (by omega)) (nin0))
        have O1330 := own_P_keep K1319 (ninS (own_ne (by omega)) (nin0)) O1313
        have Fw1331 := own_AJ_keep Fw1314 K1319 (ninS (own_ne (by omega)) (nin0))
        obtain ⟨gf1333, gq1334⟩ : ∃ z : Nat → Int64, z = (fun i => if 0 ≤ i ∧ i < 0 + W.toNatClampNeg then fw1278 (r1252.toNatClampNeg * W.toNatClampNeg + (i - 0)) else (own_f3 p3 p3 p3) i) := ⟨_, rfl⟩
        rw [← gq1334] at F1320
        have hm1332 := own_fin hW hr1297 (sn := p3) rfl rfl rfl gf1333 gq1334
        refine own_st (G := T1321.setTop (mkF m 267 #[.val (.long p0), .second, .val (.long p1), .second, .val (.long p2), .second, .val (.long p3), .second, .val (.int p4), .val (.int p5), .val (.int W), .val (.ref a9), .val (.ref a971), .val (.ref a1012), .val (.ref a1054), .val (.ref a1098), .val (.ref a1144), .val (.ref a1193), .val (.int r1230), .val (.int r1252), .val (.int r1276)] [(.ref a1193)])) (fun _ kk => XS.aload X1323.here hx rfl (hb hby at_265) rfl rfl kk) ?_
        refine own_st (G := T1321.setTop (mkF m 269 #[.val (.long p0), .second, .val (.long p1), .second, .val (.long p2), .second, .val (.long p3), .second, .val (.int p4), .val (.int p5), .val (.int W), .val (.ref a9), .val (.ref a971), .val (.ref a1012), .val (.ref a1054), .val (.ref a1098), .val (.ref a1144), .val (.ref a1193), .val (.int r1230), .val (.int r1252), .val (.int r1276)] [(.int r1276), (.ref a1193)])) (fun _ kk => XS.iload X1323.here hx rfl (hb hby at_267) rfl kk) ?_
        refine own_st (G := T1321.setTop (mkF m 271 #[.val (.long p0), .second, .val (.long p1), .second, .val (.long p2), .second, .val (.long p3), .second, .val (.int p4), .val (.int p5), .val (.int W), .val (.ref a9), .val (.ref a971), .val (.ref a1012), .val (.ref a1054), .val (.ref a1098), .val (.ref a1144), .val (.ref a1193), .val (.int r1230), .val (.int r1252), .val (.int r1276)] [(.ref a1144), (.int r1276), (.ref a1193)])) (fun _ kk => XS.aload X1323.here hx rfl (hb hby at_269) rfl rfl kk) ?_
        refine own_callV X1323 hx hZ (y := (⟨"com/example/libbuchi/libbuchi/automata/PackedStates", "get", "(I[J)V"⟩ : MethodName)) (b := a1193) (as' := [(.int r1276), (.ref a1144)]) hown (own_w hw 34 rfl) (own_w hw 35 rfl) (own_w hw 37 rfl) (own_w hw 36 rfl) (own_w hw 38 rfl) (own_w hw 3 rfl) (by decide) (own_get l Z a0 hw [] r1276 a1193 a1144 wa1211 sa1212 W k1277 fw1278 (own_f3 p3 p3 p3) T1321.heap n0 gea1144 O1330 Fw1331 F1329 hW at1299) (O1330).1 0 (by decide) (by decide) (by decide) (by decide) (rest := []) (by rw [hml]; rfl) (lenOf (by decide : parseMethodDescriptor "(I[J)V" = some ⟨[.int, .array (.long)], none⟩) rfl) rfl (Nat.le_of_eq rfl) (hb hby at_271) rfl ?_
        intro T1338 L1339 v1341 X1340 hQ
        obtain ⟨rfl, N1335', K1336, F1337⟩ := hQ
        show own_Out _ _ _ _ (T1338.setTop (mkF m 274 #[.val (.long p0), .second, .val (.long p1), .second, .val (.long p2), .second, .val (.long p3), .second, .val (.int p4), .val (.int p5), .val (.int W), .val (.ref a9), .val (.ref a971), .val (.ref a1012), .val (.ref a1054), .val (.ref a1098), .val (.ref a1144), .val (.ref a1193), .val (.int r1230), .val (.int r1252), .val (.int r1276)] []))
        have N1335 := Fr.app N1318 N1335'
        have F1342 := own_AJ_keep F1325 K1336 (ninS (own_ne (by omega)) (nin0))
        have F1343 := own_AJ_keep F1326 K1336 (ninS (own_ne (by omega)) (nin0))
        have F1344 := own_AJ_keep F1327 K1336 (ninS (own_ne (by omega)) (nin0))
        have F1345 := own_AJ_keep F1328 K1336 (ninS (own_ne (by omega)) (nin0))
        have F1346 := own_AJ_keep F1320 K1336 (ninS (own_ne (by omega)) (nin0))
        have O1347 := own_P_keep K1336 (ninS (own_ne (by omega)) (nin0)) O1330
        have Fw1348 := own_AJ_keep Fw1331 K1336 (ninS (own_ne (by omega)) (nin0))
        obtain ⟨gf1350, gq1351⟩ : ∃ z : Nat → Int64, z = (fun i => if 0 ≤ i ∧ i < 0 + W.toNatClampNeg then fw1278 (r1276.toNatClampNeg * W.toNatClampNeg + (i - 0)) else (own_f3 p3 p3 p3) i) := ⟨_, rfl⟩
        rw [← gq1351] at F1337
        have hm1349 := own_fin hW R1283.2.2.2.2.2 (sn := p3) rfl rfl rfl gf1350 gq1351
        refine own_st (G := T1338.setTop (mkF m 276 #[.val (.long p0), .second, .val (.long p1), .second, .val (.long p2), .second, .val (.long p3), .second, .val (.int p4), .val (.int p5), .val (.int W), .val (.ref a9), .val (.ref a971), .val (.ref a1012), .val (.ref a1054), .val (.ref a1098), .val (.ref a1144), .val (.ref a1193), .val (.int r1230), .val (.int r1252), .val (.int r1276)] [(.ref a1054)])) (fun _ kk => XS.aload X1340.here hx rfl (hb hby at_274) rfl rfl kk) ?_
        refine own_st (G := T1338.setTop (mkF m 278 #[.val (.long p0), .second, .val (.long p1), .second, .val (.long p2), .second, .val (.long p3), .second, .val (.int p4), .val (.int p5), .val (.int W), .val (.ref a9), .val (.ref a971), .val (.ref a1012), .val (.ref a1054), .val (.ref a1098), .val (.ref a1144), .val (.ref a1193), .val (.int r1230), .val (.int r1252), .val (.int r1276)] [(.ref a9), (.ref a1054)])) (fun _ kk => XS.aload X1340.here hx rfl (hb hby at_276) rfl rfl kk) ?_
        refine own_st (G := T1338.setTop (mkF m 280 #[.val (.long p0), .second, .val (.long p1), .second, .val (.long p2), .second, .val (.long p3), .second, .val (.int p4), .val (.int p5), .val (.int W), .val (.ref a9), .val (.ref a971), .val (.ref a1012), .val (.ref a1054), .val (.ref a1098), .val (.ref a1144), .val (.ref a1193), .val (.int r1230), .val (.int r1252), .val (.int r1276)] [(.int W), (.ref a9), (.ref a1054)])) (fun _ kk => XS.iload X1340.here hx rfl (hb hby at_278) rfl kk) ?_
        refine own_st (G := T1338.setTop (mkF m 282 #[.val (.long p0), .second, .val (.long p1), .second, .val (.long p2), .second, .val (.long p3), .second, .val (.int p4), .val (.int p5), .val (.int W), .val (.ref a9), .val (.ref a971), .val (.ref a1012), .val (.ref a1054), .val (.ref a1098), .val (.ref a1144), .val (.ref a1193), .val (.int r1230), .val (.int r1252), .val (.int r1276)] [(.long p3), (.int W), (.ref a9), (.ref a1054)])) (fun _ kk => XS.lload X1340.here hx rfl (hb hby at_280) rfl kk) ?_
        refine own_callS X1340 hx hZ (y := (⟨"com/example/libbuchi/libbuchi/automata/PackedStatesGetPinLaw", "matches", "([J[JIJ)Z"⟩ : MethodName)) (as' := [(.ref a1054), (.ref a9), (.int W), (.long p3)]) hown (own_w hw 39 rfl) (own_w hw 40 rfl) (own_w hw 41 rfl) (own_w hw 42 rfl) (by decide) (own_mat l Z a0 hw [] W p3 a1054 a9 gf1316 (own_f3 p0 p1 p2) T1338.heap n0 F1345 F1342 hm1315.1 hm1315.2.1 hm1315.2.2) 0 (by decide) (by decide) (by decide) (by decide) (rest := []) (by rw [hml]; rfl) (lenOf (by decide : parseMethodDescriptor "([J[JIJ)Z" = some ⟨[.array (.long), .array (.long), .int, .long], some (.boolean)⟩) rfl) rfl (Nat.le_of_eq rfl) (hb hby at_282) rfl ?_
        intro T1355 L1356 v1358 X1357 hQ
        obtain ⟨rfl, rfl, eq1354⟩ := hQ
        show own_Out _ _ _ _ (T1355.setTop (mkF m 285 #[.val (.long p0), .second, .val (.long p1), .second, .val (.long p2), .second, .val (.long p3), .second, .val (.int p4), .val (.int p5), .val (.int W), .val (.ref a9), .val (.ref a971), .val (.ref a1012), .val (.ref a1054), .val (.ref a1098), .val (.ref a1144), .val (.ref a1193), .val (.int r1230), .val (.int r1252), .val (.int r1276)] [(.int (1 : Int32))]))
        have N1352 := Fr.app N1335 (Fr.nil n0)
        refine own_st (G := T1355.setTop (mkF m 288 #[.val (.long p0), .second, .val (.long p1), .second, .val (.long p2), .second, .val (.long p3), .second, .val (.int p4), .val (.int p5), .val (.int W), .val (.ref a9), .val (.ref a971), .val (.ref a1012), .val (.ref a1054), .val (.ref a1098), .val (.ref a1144), .val (.ref a1193), .val (.int r1230), .val (.int r1252), .val (.int r1276)] [])) (fun _ kk => XS.ifNo X1357.here hx rfl (hb hby at_285) rfl (XT.i0_eq_f (by decide : ¬ (1 : Int32) = (0 : Int32))) kk) ?_
        refine own_st (G := T1355.setTop (mkF m 290 #[.val (.long p0), .second, .val (.long p1), .second, .val (.long p2), .second, .val (.long p3), .second, .val (.int p4), .val (.int p5), .val (.int W), .val (.ref a9), .val (.ref a971), .val (.ref a1012), .val (.ref a1054), .val (.ref a1098), .val (.ref a1144), .val (.ref a1193), .val (.int r1230), .val (.int r1252), .val (.int r1276)] [(.ref a1098)])) (fun _ kk => XS.aload X1357.here hx rfl (hb hby at_288) rfl rfl kk) ?_
        refine own_st (G := T1355.setTop (mkF m 292 #[.val (.long p0), .second, .val (.long p1), .second, .val (.long p2), .second, .val (.long p3), .second, .val (.int p4), .val (.int p5), .val (.int W), .val (.ref a9), .val (.ref a971), .val (.ref a1012), .val (.ref a1054), .val (.ref a1098), .val (.ref a1144), .val (.ref a1193), .val (.int r1230), .val (.int r1252), .val (.int r1276)] [(.ref a971), (.ref a1098)])) (fun _ kk => XS.aload X1357.here hx rfl (hb hby at_290) rfl rfl kk) ?_
        refine own_st (G := T1355.setTop (mkF m 294 #[.val (.long p0), .second, .val (.long p1), .second, .val (.long p2), .second, .val (.long p3), .second, .val (.int p4), .val (.int p5), .val (.int W), .val (.ref a9), .val (.ref a971), .val (.ref a1012), .val (.ref a1054), .val (.ref a1098), .val (.ref a1144), .val (.ref a1193), .val (.int r1230), .val (.int r1252), .val (.int r1276)] [(.int W), (.ref a971), (.ref a1098)])) (fun _ kk => XS.iload X1357.here hx rfl (hb hby at_292) rfl kk) ?_
        refine own_st (G := T1355.setTop (mkF m 296 #[.val (.long p0), .second, .val (.long p1), .second, .val (.long p2), .second, .val (.long p3), .second, .val (.int p4), .val (.int p5), .val (.int W), .val (.ref a9), .val (.ref a971), .val (.ref a1012), .val (.ref a1054), .val (.ref a1098), .val (.ref a1144), .val (.ref a1193), .val (.int r1230), .val (.int r1252), .val (.int r1276)] [(.long p3), (.int W), (.ref a971), (.ref a1098)])) (fun _ kk => XS.lload X1357.here hx rfl (hb hby at_294) rfl kk) ?_
        refine own_callS X1357 hx hZ (y := (⟨"com/example/libbuchi/libbuchi/automata/PackedStatesGetPinLaw", "matches", "([J[JIJ)Z"⟩ : MethodName)) (as' := [(.ref a1098), (.ref a971), (.int W), (.long p3)]) hown (own_w hw 39 rfl) (own_w hw 40 rfl) (own_w hw 41 rfl) (own_w hw 42 rfl) (by decide) (own_mat l Z a0 hw [] W p3 a1098 a971 gf1333 (own_f3 p0 p1 p2) T1338.heap n0 F1346 F1343 hm1332.1 hm1332.2.1 hm1332.2.2) 0 (by decide) (by decide) (by decide) (by decide) (rest := []) (by rw [hml]; rfl) (lenOf (by decide : parseMethodDescriptor "([J[JIJ)Z" = some ⟨[.array (.long), .array (.long), .int, .long], some (.boolean)⟩) rfl) rfl (Nat.le_of_eq rfl) (hb hby at_296) eq1354 ?_
        intro T1362 L1363 v1365 X1364 hQ
        obtain ⟨rfl, rfl, eq1361⟩ := hQ
        show own_Out _ _ _ _ (T1362.setTop (mkF m 299 #[.val (.long p0), .second, .val (.long p1), .second, .val (.long p2), .second, .val (.long p3), .second, .val (.int p4), .val (.int p5), .val (.int W), .val (.ref a9), .val (.ref a971), .val (.ref a1012), .val (.ref a1054), .val (.ref a1098), .val (.ref a1144), .val (.ref a1193), .val (.int r1230), .val (.int r1252), .val (.int r1276)] [(.int (1 : Int32))]))
        have N1359 := Fr.app N1352 (Fr.nil n0)
        refine own_st (G := T1362.setTop (mkF m 302 #[.val (.long p0), .second, .val (.long p1), .second, .val (.long p2), .second, .val (.long p3), .second, .val (.int p4), .val (.int p5), .val (.int W), .val (.ref a9), .val (.ref a971), .val (.ref a1012), .val (.ref a1054), .val (.ref a1098), .val (.ref a1144), .val (.ref a1193), .val (.int r1230), .val (.int r1252), .val (.int r1276)] [])) (fun _ kk => XS.ifNo X1364.here hx rfl (hb hby at_299) rfl (XT.i0_eq_f (by decide : ¬ (1 : Int32) = (0 : Int32))) kk) ?_
        refine own_st (G := T1362.setTop (mkF m 304 #[.val (.long p0), .second, .val (.long p1), .second, .val (.long p2), .second, .val (.long p3), .second, .val (.int p4), .val (.int p5), .val (.int W), .val (.ref a9), .val (.ref a971), .val (.ref a1012), .val (.ref a1054), .val (.ref a1098), .val (.ref a1144), .val (.ref a1193), .val (.int r1230), .val (.int r1252), .val (.int r1276)] [(.ref a1144)])) (fun _ kk => XS.aload X1364.here hx rfl (hb hby at_302) rfl rfl kk) ?_
        refine own_st (G := T1362.setTop (mkF m 306 #[.val (.long p0), .second, .val (.long p1), .second, .val (.long p2), .second, .val (.long p3), .second, .val (.int p4), .val (.int p5), .val (.int W), .val (.ref a9), .val (.ref a971), .val (.ref a1012), .val (.ref a1054), .val (.ref a1098), .val (.ref a1144), .val (.ref a1193), .val (.int r1230), .val (.int r1252), .val (.int r1276)] [(.ref a1012), (.ref a1144)])) (fun _ kk => XS.aload X1364.here hx rfl (hb hby at_304) rfl rfl kk) ?_
        refine own_st (G := T1362.setTop (mkF m 308 #[.val (.long p0), .second, .val (.long p1), .second, .val (.long p2), .second, .val (.long p3), .second, .val (.int p4), .val (.int p5), .val (.int W), .val (.ref a9), .val (.ref a971), .val (.ref a1012), .val (.ref a1054), .val (.ref a1098), .val (.ref a1144), .val (.ref a1193), .val (.int r1230), .val (.int r1252), .val (.int r1276)] [(.int W), (.ref a1012), (.ref a1144)])) (fun _ kk => XS.iload X1364.here hx rfl (hb hby at_306) rfl kk) ?_
        refine own_st (G := T1362.setTop (mkF m 310 #[.val (.long p0), .second, .val (.long p1), .second, .val (.long p2), .second, .val (.long p3), .second, .val (.int p4), .val (.int p5), .val (.int W), .val (.ref a9), .val (.ref a971), .val (.ref a1012), .val (.ref a1054), .val (.ref a1098), .val (.ref a1144), .val (.ref a1193), .val (.int r1230), .val (.int r1252), .val (.int r1276)] [(.long p3), (.int W), (.ref a1012), (.ref a1144)])) (fun _ kk => XS.lload X1364.here hx rfl (hb hby at_308) rfl kk) ?_
        refine own_callS X1364 hx hZ (y := (⟨"com/example/libbuchi/libbuchi/automata/PackedStatesGetPinLaw", "matches", "([J[JIJ)Z"⟩ : MethodName)) (as' := [(.ref a1144), (.ref a1012), (.int W), (.long p3)]) hown (own_w hw 39 rfl) (own_w hw 40 rfl) (own_w hw 41 rfl) (own_w hw 42 rfl) (by decide) (own_mat l Z a0 hw [] W p3 a1144 a1012 gf1350 (own_f3 p2 p0 p1) T1338.heap n0 F1337 F1344 hm1349.1 hm1349.2.1 hm1349.2.2) 0 (by decide) (by decide) (by decide) (by decide) (rest := []) (by rw [hml]; rfl) (lenOf (by decide : parseMethodDescriptor "([J[JIJ)Z" = some ⟨[.array (.long), .array (.long), .int, .long], some (.boolean)⟩) rfl) rfl (Nat.le_of_eq rfl) (hb hby at_310) eq1361 ?_
        intro T1369 L1370 v1372 X1371 hQ
        obtain ⟨rfl, rfl, eq1368⟩ := hQ
        show own_Out _ _ _ _ (T1369.setTop (mkF m 313 #[.val (.long p0), .second, .val (.long p1), .second, .val (.long p2), .second, .val (.long p3), .second, .val (.int p4), .val (.int p5), .val (.int W), .val (.ref a9), .val (.ref a971), .val (.ref a1012), .val (.ref a1054), .val (.ref a1098), .val (.ref a1144), .val (.ref a1193), .val (.int r1230), .val (.int r1252), .val (.int r1276)] [(.int (1 : Int32))]))
        have N1366 := Fr.app N1359 (Fr.nil n0)
        refine own_st (G := T1369.setTop (mkF m 316 #[.val (.long p0), .second, .val (.long p1), .second, .val (.long p2), .second, .val (.long p3), .second, .val (.int p4), .val (.int p5), .val (.int W), .val (.ref a9), .val (.ref a971), .val (.ref a1012), .val (.ref a1054), .val (.ref a1098), .val (.ref a1144), .val (.ref a1193), .val (.int r1230), .val (.int r1252), .val (.int r1276)] [])) (fun _ kk => XS.ifNo X1371.here hx rfl (hb hby at_313) rfl (XT.i0_eq_f (by decide : ¬ (1 : Int32) = (0 : Int32))) kk) ?_
        refine own_st (G := T1369.setTop (mkF m 317 #[.val (.long p0), .second, .val (.long p1), .second, .val (.long p2), .second, .val (.long p3), .second, .val (.int p4), .val (.int p5), .val (.int W), .val (.ref a9), .val (.ref a971), .val (.ref a1012), .val (.ref a1054), .val (.ref a1098), .val (.ref a1144), .val (.ref a1193), .val (.int r1230), .val (.int r1252), .val (.int r1276)] [(.int (1 : Int32))])) (fun _ kk => XT.iconstV X1371.here hx rfl (1 : Int32) (hb hby at_316) (by decide) kk) ?_
        refine own_st (G := T1369.setTop (mkF m 321 #[.val (.long p0), .second, .val (.long p1), .second, .val (.long p2), .second, .val (.long p3), .second, .val (.int p4), .val (.int p5), .val (.int W), .val (.ref a9), .val (.ref a971), .val (.ref a1012), .val (.ref a1054), .val (.ref a1098), .val (.ref a1144), .val (.ref a1193), .val (.int r1230), .val (.int r1252), .val (.int r1276)] [(.int (1 : Int32))])) (fun _ kk => XS.goto X1371.here hx rfl (pc0 := 317) (pc' := 321) rfl (hb hby at_317) (by decide) (by decide) kk) ?_
        refine own_retB X1371 hx hret (by simp) hlk (hb hby at_321) (by decide) (by decide) ?_
        exact ⟨rfl, N1366⟩
      · skip
        refine own_st (G := T1284.setTop (mkF m 217 #[.val (.long p0), .second, .val (.long p1), .second, .val (.long p2), .second, .val (.long p3), .second, .val (.int p4), .val (.int p5), .val (.int W), .val (.ref a9), .val (.ref a971), .val (.ref a1012), .val (.ref a1054), .val (.ref a1098), .val (.ref a1144), .val (.ref a1193), .val (.int r1230), .val (.int r1252), .val (.int r1276)] [])) (fun _ kk => XS.ifNo X1286.here hx rfl (hb hby at_214) rfl (XT.i0_eq_f hc1300) kk) ?_
        refine own_st (G := T1284.setTop (mkF m 219 #[.val (.long p0), .second, .val (.long p1), .second, .val (.long p2), .second, .val (.long p3), .second, .val (.int p4), .val (.int p5), .val (.int W), .val (.ref a9), .val (.ref a971), .val (.ref a1012), .val (.ref a1054), .val (.ref a1098), .val (.ref a1144), .val (.ref a1193), .val (.int r1230), .val (.int r1252), .val (.int r1276)] [(.ref a1193)])) (fun _ kk => XS.aload X1286.here hx rfl (hb hby at_217) rfl rfl kk) ?_
        refine own_st (G := T1284.setTop (mkF m 221 #[.val (.long p0), .second, .val (.long p1), .second, .val (.long p2), .second, .val (.long p3), .second, .val (.int p4), .val (.int p5), .val (.int W), .val (.ref a9), .val (.ref a971), .val (.ref a1012), .val (.ref a1054), .val (.ref a1098), .val (.ref a1144), .val (.ref a1193), .val (.int r1230), .val (.int r1252), .val (.int r1276)] [(.int r1276), (.ref a1193)])) (fun _ kk => XS.iload X1286.here hx rfl (hb hby at_219) rfl kk) ?_
        refine own_st (G := T1284.setTop (mkF m 223 #[.val (.long p0), .second, .val (.long p1), .second, .val (.long p2), .second, .val (.long p3), .second, .val (.int p4), .val (.int p5), .val (.int W), .val (.ref a9), .val (.ref a971), .val (.ref a1012), .val (.ref a1054), .val (.ref a1098), .val (.ref a1144), .val (.ref a1193), .val (.int r1230), .val (.int r1252), .val (.int r1276)] [(.ref a1144), (.int r1276), (.ref a1193)])) (fun _ kk => XS.aload X1286.here hx rfl (hb hby at_221) rfl rfl kk) ?_
        refine own_callV X1286 hx hZ (y := (⟨"com/example/libbuchi/libbuchi/automata/PackedStates", "get", "(I[J)V"⟩ : MethodName)) (b := a1193) (as' := [(.int r1276), (.ref a1144)]) hown (own_w hw 34 rfl) (own_w hw 35 rfl) (own_w hw 37 rfl) (own_w hw 36 rfl) (own_w hw 38 rfl) (own_w hw 3 rfl) (by decide) (own_get l Z a0 hw [] r1276 a1193 a1144 wa1211 sa1212 W k1277 fw1278 (own_f3 p3 p3 p3) T1284.heap n0 gea1144 O1280 Fw1281 F1293 hW at1299) (O1280).1 0 (by decide) (by decide) (by decide) (by decide) (rest := []) (by rw [hml]; rfl) (lenOf (by decide : parseMethodDescriptor "(I[J)V" = some ⟨[.int, .array (.long)], none⟩) rfl) rfl (Nat.le_of_eq rfl) (hb hby at_223) rfl ?_
        intro T1376 L1377 v1379 X1378 hQ
        obtain ⟨rfl, N1373', K1374, F1375⟩ := hQ
        show own_Out _ _ _ _ (T1376.setTop (mkF m 226 #[.val (.long p0), .second, .val (.long p1), .second, .val (.long p2), .second, .val (.long p3), .second, .val (.int p4), .val (.int p5), .val (.int W), .val (.ref a9), .val (.ref a971), .val (.ref a1012), .val (.ref a1054), .val (.ref a1098), .val (.ref a1144), .val (.ref a1193), .val (.int r1230), .val (.int r1252), .val (.int r1276)] []))
        have N1373 := Fr.app N1274 N1373'
        have F1380 := own_AJ_keep F1288 K1374 (ninS (own_ne (by omega)) (nin0))
        have F1381 := own_AJ_keep F1289 K1374 (ninS (own_ne (by omega)) (nin0))
        have F1382 := own_AJ_keep F1290 K1374 (ninS (own_ne (by omega)) (nin0))
        have F1383 := own_AJ_keep F1291 K1374 (ninS (own_ne (by omega)) (nin0))
        have F1384 := own_AJ_keep F1292 K1374 (ninS (own_ne (by omega)) (nin0))
        have O1385 := own_P_keep K1374 (ninS (own_ne (by omega)) (nin0)) O1280
        have Fw1386 := own_AJ_keep Fw1281 K1374 (ninS (own_ne (by omega)) (nin0))
        obtain ⟨gf1388, gq1389⟩ : ∃ z : Nat → Int64, z = (fun i => if 0 ≤ i ∧ i < 0 + W.toNatClampNeg then fw1278 (r1276.toNatClampNeg * W.toNatClampNeg + (i - 0)) else (own_f3 p3 p3 p3) i) := ⟨_, rfl⟩
        rw [← gq1389] at F1375
        have hm1387 := own_fin hW R1283.2.2.2.2.2 (sn := p3) rfl rfl rfl gf1388 gq1389
        refine own_st (G := T1376.setTop (mkF m 228 #[.val (.long p0), .second, .val (.long p1), .second, .val (.long p2), .second, .val (.long p3), .second, .val (.int p4), .val (.int p5), .val (.int W), .val (.ref a9), .val (.ref a971), .val (.ref a1012), .val (.ref a1054), .val (.ref a1098), .val (.ref a1144), .val (.ref a1193), .val (.int r1230), .val (.int r1252), .val (.int r1276)] [(.ref a1193)])) (fun _ kk => XS.aload X1378.here hx rfl (hb hby at_226) rfl rfl kk) ?_
        refine own_st (G := T1376.setTop (mkF m 230 #[.val (.long p0), .second, .val (.long p1), .second, .val (.long p2), .second, .val (.long p3), .second, .val (.int p4), .val (.int p5), .val (.int W), .val (.ref a9), .val (.ref a971), .val (.ref a1012), .val (.ref a1054), .val (.ref a1098), .val (.ref a1144), .val (.ref a1193), .val (.int r1230), .val (.int r1252), .val (.int r1276)] [(.int r1252), (.ref a1193)])) (fun _ kk => XS.iload X1378.here hx rfl (hb hby at_228) rfl kk) ?_
        refine own_st (G := T1376.setTop (mkF m 232 #[.val (.long p0), .second, .val (.long p1), .second, .val (.long p2), .second, .val (.long p3), .second, .val (.int p4), .val (.int p5), .val (.int W), .val (.ref a9), .val (.ref a971), .val (.ref a1012), .val (.ref a1054), .val (.ref a1098), .val (.ref a1144), .val (.ref a1193), .val (.int r1230), .val (.int r1252), .val (.int r1276)] [(.ref a1098), (.int r1252), (.ref a1193)])) (fun _ kk => XS.aload X1378.here hx rfl (hb hby at_230) rfl rfl kk) ?_
        refine own_callV X1378 hx hZ (y := (⟨"com/example/libbuchi/libbuchi/automata/PackedStates", "get", "(I[J)V"⟩ : MethodName)) (b := a1193) (as' := [(.int r1252), (.ref a1098)]) hown (own_w hw 34 rfl) (own_w hw 35 rfl) (own_w hw 37 rfl) (own_w hw 36 rfl) (own_w hw 38 rfl) (own_w hw 3 rfl) (by decide) (own_get l Z a0 hw [] r1252 a1193 a1098 wa1211 sa1212 W k1277 fw1278 (own_f3 p3 p3 p3) T1376.heap n0 gea1098 O1385 Fw1386 F1384 hW at1273) (O1385).1 0 (by decide) (by decide) (by decide) (by decide) (rest := []) (by rw [hml]; rfl) (lenOf (by decide : parseMethodDescriptor "(I[J)V" = some ⟨[.int, .array (.long)], none⟩) rfl) rfl (Nat.le_of_eq rfl) (hb hby at_232) rfl ?_
        intro T1393 L1394 v1396 X1395 hQ
        obtain ⟨rfl, N1390', K1391, F1392⟩ := hQ
        show own_Out _ _ _ _ (T1393.setTop (mkF m 235 #[.val (.long p0), .second, .val (.long p1), .second, .val (.long p2), .second, .val (.long p3), .second, .val (.int p4), .val (.int p5), .val (.int W), .val (.ref a9), .val (.ref a971), .val (.ref a1012), .val (.ref a1054), .val (.ref a1098), .val (.ref a1144), .val (.ref a1193), .val (.int r1230), .val (.int r1252), .val (.int r1276)] []))
        have N1390 := Fr.app N1373 N1390'
        have F1397 := own_AJ_keep F1380 K1391 (ninS (own_ne (by omega)) (nin0))
        have F1398 := own_AJ_keep F1381 K1391 (ninS (own_ne (by omega)) (nin0))
        have F1399 := own_AJ_keep F1382 K1391 (ninS (own_ne (by omega)) (nin0))
        have F1400 := own_AJ_keep F1383 K1391 (ninS (own_ne (by omega)) (nin0))
        have F1401 := own_AJ_keep F1375 K1391 (ninS (own_ne (by omega)) (nin0))
        have O1402 := own_P_keep K1391 (ninS (own_ne (by omega)) (nin0)) O1385
        have Fw1403 := own_AJ_keep Fw1386 K1391 (ninS (own_ne (by omega)) (nin0))
        obtain ⟨gf1405, gq1406⟩ : ∃ z : Nat → Int64, z = (fun i => if 0 ≤ i ∧ i < 0 + W.toNatClampNeg then fw1278 (r1252.toNatClampNeg * W.toNatClampNeg + (i - 0)) else (own_f3 p3 p3 p3) i) := ⟨_, rfl⟩
        rw [← gq1406] at F1392
        have hm1404 := own_fin hW hr1297 (sn := p3) rfl rfl rfl gf1405 gq1406
        refine own_st (G := T1393.setTop (mkF m 237 #[.val (.long p0), .second, .val (.long p1), .second, .val (.long p2), .second, .val (.long p3), .second, .val (.int p4), .val (.int p5), .val (.int W), .val (.ref a9), .val (.ref a971), .val (.ref a1012), .val (.ref a1054), .val (.ref a1098), .val (.ref a1144), .val (.ref a1193), .val (.int r1230), .val (.int r1252), .val (.int r1276)] [(.ref a1193)])) (fun _ kk => XS.aload X1395.here hx rfl (hb hby at_235) rfl rfl kk) ?_
        refine own_st (G := T1393.setTop (mkF m 239 #[.val (.long p0), .second, .val (.long p1), .second, .val (.long p2), .second, .val (.long p3), .second, .val (.int p4), .val (.int p5), .val (.int W), .val (.ref a9), .val (.ref a971), .val (.ref a1012), .val (.ref a1054), .val (.ref a1098), .val (.ref a1144), .val (.ref a1193), .val (.int r1230), .val (.int r1252), .val (.int r1276)] [(.int r1230), (.ref a1193)])) (fun _ kk => XS.iload X1395.here hx rfl (hb hby at_237) rfl kk) ?_
        refine own_st (G := T1393.setTop (mkF m 241 #[.val (.long p0), .second, .val (.long p1), .second, .val (.long p2), .second, .val (.long p3), .second, .val (.int p4), .val (.int p5), .val (.int W), .val (.ref a9), .val (.ref a971), .val (.ref a1012), .val (.ref a1054), .val (.ref a1098), .val (.ref a1144), .val (.ref a1193), .val (.int r1230), .val (.int r1252), .val (.int r1276)] [(.ref a1054), (.int r1230), (.ref a1193)])) (fun _ kk => XS.aload X1395.here hx rfl (hb hby at_239) rfl rfl kk) ?_
        refine own_callV X1395 hx hZ (y := (⟨"com/example/libbuchi/libbuchi/automata/PackedStates", "get", "(I[J)V"⟩ : MethodName)) (b := a1193) (as' := [(.int r1230), (.ref a1054)]) hown (own_w hw 34 rfl) (own_w hw 35 rfl) (own_w hw 37 rfl) (own_w hw 36 rfl) (own_w hw 38 rfl) (own_w hw 3 rfl) (by decide) (own_get l Z a0 hw [] r1230 a1193 a1054 wa1211 sa1212 W k1277 fw1278 (own_f3 p3 p3 p3) T1393.heap n0 gea1054 O1402 Fw1403 F1400 hW at1249) (O1402).1 0 (by decide) (by decide) (by decide) (by decide) (rest := []) (by rw [hml]; rfl) (lenOf (by decide : parseMethodDescriptor "(I[J)V" = some ⟨[.int, .array (.long)], none⟩) rfl) rfl (Nat.le_of_eq rfl) (hb hby at_241) rfl ?_
        intro T1410 L1411 v1413 X1412 hQ
        obtain ⟨rfl, N1407', K1408, F1409⟩ := hQ
        show own_Out _ _ _ _ (T1410.setTop (mkF m 244 #[.val (.long p0), .second, .val (.long p1), .second, .val (.long p2), .second, .val (.long p3), .second, .val (.int p4), .val (.int p5), .val (.int W), .val (.ref a9), .val (.ref a971), .val (.ref a1012), .val (.ref a1054), .val (.ref a1098), .val (.ref a1144), .val (.ref a1193), .val (.int r1230), .val (.int r1252), .val (.int r1276)] []))
        have N1407 := Fr.app N1390 N1407'
        have F1414 := own_AJ_keep F1397 K1408 (ninS (own_ne (by omega)) (nin0))
        have F1415 := own_AJ_keep F1398 K1408 (ninS (own_ne (by omega)) (nin0))
        have F1416 := own_AJ_keep F1399 K1408 (ninS (own_ne (by omega)) (nin0))
        have F1417 := own_AJ_keep F1392 K1408 (ninS (own_ne (by omega)) (nin0))
        have F1418 := own_AJ_keep F1401 K1408 (ninS (own_ne (by omega)) (nin0))
        have O1419 := own_P_keep K1408 (ninS (own_ne (by omega)) (nin0)) O1402
        have Fw1420 := own_AJ_keep Fw1403 K1408 (ninS (own_ne (by omega)) (nin0))
        obtain ⟨gf1422, gq1423⟩ : ∃ z : Nat → Int64, z = (fun i => if 0 ≤ i ∧ i < 0 + W.toNatClampNeg then fw1278 (r1230.toNatClampNeg * W.toNatClampNeg + (i - 0)) else (own_f3 p3 p3 p3) i) := ⟨_, rfl⟩
        rw [← gq1423] at F1409
        have hm1421 := own_fin hW hr1295 (sn := p3) rfl rfl rfl gf1422 gq1423
        refine own_st (G := T1410.setTop (mkF m 274 #[.val (.long p0), .second, .val (.long p1), .second, .val (.long p2), .second, .val (.long p3), .second, .val (.int p4), .val (.int p5), .val (.int W), .val (.ref a9), .val (.ref a971), .val (.ref a1012), .val (.ref a1054), .val (.ref a1098), .val (.ref a1144), .val (.ref a1193), .val (.int r1230), .val (.int r1252), .val (.int r1276)] [])) (fun _ kk => XS.goto X1412.here hx rfl (pc0 := 244) (pc' := 274) rfl (hb hby at_244) (by decide) (by decide) kk) ?_
        refine own_st (G := T1410.setTop (mkF m 276 #[.val (.long p0), .second, .val (.long p1), .second, .val (.long p2), .second, .val (.long p3), .second, .val (.int p4), .val (.int p5), .val (.int W), .val (.ref a9), .val (.ref a971), .val (.ref a1012), .val (.ref a1054), .val (.ref a1098), .val (.ref a1144), .val (.ref a1193), .val (.int r1230), .val (.int r1252), .val (.int r1276)] [(.ref a1054)])) (fun _ kk => XS.aload X1412.here hx rfl (hb hby at_274) rfl rfl kk) ?_
        refine own_st (G := T1410.setTop (mkF m 278 #[.val (.long p0), .second, .val (.long p1), .second, .val (.long p2), .second, .val (.long p3), .second, .val (.int p4), .val (.int p5), .val (.int W), .val (.ref a9), .val (.ref a971), .val (.ref a1012), .val (.ref a1054), .val (.ref a1098), .val (.ref a1144), .val (.ref a1193), .val (.int r1230), .val (.int r1252), .val (.int r1276)] [(.ref a9), (.ref a1054)])) (fun _ kk => XS.aload X1412.here hx rfl (hb hby at_276) rfl rfl kk) ?_
        refine own_st (G := T1410.setTop (mkF m 280 #[.val (.long p0), .second, .val (.long p1), .second, .val (.long p2), .second, .val (.long p3), .second, .val (.int p4), .val (.int p5), .val (.int W), .val (.ref a9), .val (.ref a971), .val (.ref a1012), .val (.ref a1054), .val (.ref a1098), .val (.ref a1144), .val (.ref a1193), .val (.int r1230), .val (.int r1252), .val (.int r1276)] [(.int W), (.ref a9), (.ref a1054)])) (fun _ kk => XS.iload X1412.here hx rfl (hb hby at_278) rfl kk) ?_
        refine own_st (G := T1410.setTop (mkF m 282 #[.val (.long p0), .second, .val (.long p1), .second, .val (.long p2), .second, .val (.long p3), .second, .val (.int p4), .val (.int p5), .val (.int W), .val (.ref a9), .val (.ref a971), .val (.ref a1012), .val (.ref a1054), .val (.ref a1098), .val (.ref a1144), .val (.ref a1193), .val (.int r1230), .val (.int r1252), .val (.int r1276)] [(.long p3), (.int W), (.ref a9), (.ref a1054)])) (fun _ kk => XS.lload X1412.here hx rfl (hb hby at_280) rfl kk) ?_
        refine own_callS X1412 hx hZ (y := (⟨"com/example/libbuchi/libbuchi/automata/PackedStatesGetPinLaw", "matches", "([J[JIJ)Z"⟩ : MethodName)) (as' := [(.ref a1054), (.ref a9), (.int W), (.long p3)]) hown (own_w hw 39 rfl) (own_w hw 40 rfl) (own_w hw 41 rfl) (own_w hw 42 rfl) (by decide) (own_mat l Z a0 hw [] W p3 a1054 a9 gf1422 (own_f3 p0 p1 p2) T1410.heap n0 F1409 F1414 hm1421.1 hm1421.2.1 hm1421.2.2) 0 (by decide) (by decide) (by decide) (by decide) (rest := []) (by rw [hml]; rfl) (lenOf (by decide : parseMethodDescriptor "([J[JIJ)Z" = some ⟨[.array (.long), .array (.long), .int, .long], some (.boolean)⟩) rfl) rfl (Nat.le_of_eq rfl) (hb hby at_282) rfl ?_
        intro T1427 L1428 v1430 X1429 hQ
        obtain ⟨rfl, rfl, eq1426⟩ := hQ
        show own_Out _ _ _ _ (T1427.setTop (mkF m 285 #[.val (.long p0), .second, .val (.long p1), .second, .val (.long p2), .second, .val (.long p3), .second, .val (.int p4), .val (.int p5), .val (.int W), .val (.ref a9), .val (.ref a971), .val (.ref a1012), .val (.ref a1054), .val (.ref a1098), .val (.ref a1144), .val (.ref a1193), .val (.int r1230), .val (.int r1252), .val (.int r1276)] [(.int (1 : Int32))]))
        have N1424 := Fr.app N1407 (Fr.nil n0)
        refine own_st (G := T1427.setTop (mkF m 288 #[.val (.long p0), .second, .val (.long p1), .second, .val (.long p2), .second, .val (.long p3), .second, .val (.int p4), .val (.int p5), .val (.int W), .val (.ref a9), .val (.ref a971), .val (.ref a1012), .val (.ref a1054), .val (.ref a1098), .val (.ref a1144), .val (.ref a1193), .val (.int r1230), .val (.int r1252), .val (.int r1276)] [])) (fun _ kk => XS.ifNo X1429.here hx rfl (hb hby at_285) rfl (XT.i0_eq_f (by decide : ¬ (1 : Int32) = (0 : Int32))) kk) ?_
        refine own_st (G := T1427.setTop (mkF m 290 #[.val (.long p0), .second, .val (.long p1), .second, .val (.long p2), .second, .val (.long p3), .second, .val (.int p4), .val (.int p5), .val (.int W), .val (.ref a9), .val (.ref a971), .val (.ref a1012), .val (.ref a1054), .val (.ref a1098), .val (.ref a1144), .val (.ref a1193), .val (.int r1230), .val (.int r1252), .val (.int r1276)] [(.ref a1098)])) (fun _ kk => XS.aload X1429.here hx rfl (hb hby at_288) rfl rfl kk) ?_
        refine own_st (G := T1427.setTop (mkF m 292 #[.val (.long p0), .second, .val (.long p1), .second, .val (.long p2), .second, .val (.long p3), .second, .val (.int p4), .val (.int p5), .val (.int W), .val (.ref a9), .val (.ref a971), .val (.ref a1012), .val (.ref a1054), .val (.ref a1098), .val (.ref a1144), .val (.ref a1193), .val (.int r1230), .val (.int r1252), .val (.int r1276)] [(.ref a971), (.ref a1098)])) (fun _ kk => XS.aload X1429.here hx rfl (hb hby at_290) rfl rfl kk) ?_
        refine own_st (G := T1427.setTop (mkF m 294 #[.val (.long p0), .second, .val (.long p1), .second, .val (.long p2), .second, .val (.long p3), .second, .val (.int p4), .val (.int p5), .val (.int W), .val (.ref a9), .val (.ref a971), .val (.ref a1012), .val (.ref a1054), .val (.ref a1098), .val (.ref a1144), .val (.ref a1193), .val (.int r1230), .val (.int r1252), .val (.int r1276)] [(.int W), (.ref a971), (.ref a1098)])) (fun _ kk => XS.iload X1429.here hx rfl (hb hby at_292) rfl kk) ?_
        refine own_st (G := T1427.setTop (mkF m 296 #[.val (.long p0), .second, .val (.long p1), .second, .val (.long p2), .second, .val (.long p3), .second, .val (.int p4), .val (.int p5), .val (.int W), .val (.ref a9), .val (.ref a971), .val (.ref a1012), .val (.ref a1054), .val (.ref a1098), .val (.ref a1144), .val (.ref a1193), .val (.int r1230), .val (.int r1252), .val (.int r1276)] [(.long p3), (.int W), (.ref a971), (.ref a1098)])) (fun _ kk => XS.lload X1429.here hx rfl (hb hby at_294) rfl kk) ?_
        refine own_callS X1429 hx hZ (y := (⟨"com/example/libbuchi/libbuchi/automata/PackedStatesGetPinLaw", "matches", "([J[JIJ)Z"⟩ : MethodName)) (as' := [(.ref a1098), (.ref a971), (.int W), (.long p3)]) hown (own_w hw 39 rfl) (own_w hw 40 rfl) (own_w hw 41 rfl) (own_w hw 42 rfl) (by decide) (own_mat l Z a0 hw [] W p3 a1098 a971 gf1405 (own_f3 p0 p1 p2) T1410.heap n0 F1417 F1415 hm1404.1 hm1404.2.1 hm1404.2.2) 0 (by decide) (by decide) (by decide) (by decide) (rest := []) (by rw [hml]; rfl) (lenOf (by decide : parseMethodDescriptor "([J[JIJ)Z" = some ⟨[.array (.long), .array (.long), .int, .long], some (.boolean)⟩) rfl) rfl (Nat.le_of_eq rfl) (hb hby at_296) eq1426 ?_
        intro T1434 L1435 v1437 X1436 hQ
        obtain ⟨rfl, rfl, eq1433⟩ := hQ
        show own_Out _ _ _ _ (T1434.setTop (mkF m 299 #[.val (.long p0), .second, .val (.long p1), .second, .val (.long p2), .second, .val (.long p3), .second, .val (.int p4), .val (.int p5), .val (.int W), .val (.ref a9), .val (.ref a971), .val (.ref a1012), .val (.ref a1054), .val (.ref a1098), .val (.ref a1144), .val (.ref a1193), .val (.int r1230), .val (.int r1252), .val (.int r1276)] [(.int (1 : Int32))]))
        have N1431 := Fr.app N1424 (Fr.nil n0)
        refine own_st (G := T1434.setTop (mkF m 302 #[.val (.long p0), .second, .val (.long p1), .second, .val (.long p2), .second, .val (.long p3), .second, .val (.int p4), .val (.int p5), .val (.int W), .val (.ref a9), .val (.ref a971), .val (.ref a1012), .val (.ref a1054), .val (.ref a1098), .val (.ref a1144), .val (.ref a1193), .val (.int r1230), .val (.int r1252), .val (.int r1276)] [])) (fun _ kk => XS.ifNo X1436.here hx rfl (hb hby at_299) rfl (XT.i0_eq_f (by decide : ¬ (1 : Int32) = (0 : Int32))) kk) ?_
        refine own_st (G := T1434.setTop (mkF m 304 #[.val (.long p0), .second, .val (.long p1), .second, .val (.long p2), .second, .val (.long p3), .second, .val (.int p4), .val (.int p5), .val (.int W), .val (.ref a9), .val (.ref a971), .val (.ref a1012), .val (.ref a1054), .val (.ref a1098), .val (.ref a1144), .val (.ref a1193), .val (.int r1230), .val (.int r1252), .val (.int r1276)] [(.ref a1144)])) (fun _ kk => XS.aload X1436.here hx rfl (hb hby at_302) rfl rfl kk) ?_
        refine own_st (G := T1434.setTop (mkF m 306 #[.val (.long p0), .second, .val (.long p1), .second, .val (.long p2), .second, .val (.long p3), .second, .val (.int p4), .val (.int p5), .val (.int W), .val (.ref a9), .val (.ref a971), .val (.ref a1012), .val (.ref a1054), .val (.ref a1098), .val (.ref a1144), .val (.ref a1193), .val (.int r1230), .val (.int r1252), .val (.int r1276)] [(.ref a1012), (.ref a1144)])) (fun _ kk => XS.aload X1436.here hx rfl (hb hby at_304) rfl rfl kk) ?_
        refine own_st (G := T1434.setTop (mkF m 308 #[.val (.long p0), .second, .val (.long p1), .second, .val (.long p2), .second, .val (.long p3), .second, .val (.int p4), .val (.int p5), .val (.int W), .val (.ref a9), .val (.ref a971), .val (.ref a1012), .val (.ref a1054), .val (.ref a1098), .val (.ref a1144), .val (.ref a1193), .val (.int r1230), .val (.int r1252), .val (.int r1276)] [(.int W), (.ref a1012), (.ref a1144)])) (fun _ kk => XS.iload X1436.here hx rfl (hb hby at_306) rfl kk) ?_
        refine own_st (G := T1434.setTop (mkF m 310 #[.val (.long p0), .second, .val (.long p1), .second, .val (.long p2), .second, .val (.long p3), .second, .val (.int p4), .val (.int p5), .val (.int W), .val (.ref a9), .val (.ref a971), .val (.ref a1012), .val (.ref a1054), .val (.ref a1098), .val (.ref a1144), .val (.ref a1193), .val (.int r1230), .val (.int r1252), .val (.int r1276)] [(.long p3), (.int W), (.ref a1012), (.ref a1144)])) (fun _ kk => XS.lload X1436.here hx rfl (hb hby at_308) rfl kk) ?_
        refine own_callS X1436 hx hZ (y := (⟨"com/example/libbuchi/libbuchi/automata/PackedStatesGetPinLaw", "matches", "([J[JIJ)Z"⟩ : MethodName)) (as' := [(.ref a1144), (.ref a1012), (.int W), (.long p3)]) hown (own_w hw 39 rfl) (own_w hw 40 rfl) (own_w hw 41 rfl) (own_w hw 42 rfl) (by decide) (own_mat l Z a0 hw [] W p3 a1144 a1012 gf1388 (own_f3 p2 p0 p1) T1410.heap n0 F1418 F1416 hm1387.1 hm1387.2.1 hm1387.2.2) 0 (by decide) (by decide) (by decide) (by decide) (rest := []) (by rw [hml]; rfl) (lenOf (by decide : parseMethodDescriptor "([J[JIJ)Z" = some ⟨[.array (.long), .array (.long), .int, .long], some (.boolean)⟩) rfl) rfl (Nat.le_of_eq rfl) (hb hby at_310) eq1433 ?_
        intro T1441 L1442 v1444 X1443 hQ
        obtain ⟨rfl, rfl, eq1440⟩ := hQ
        show own_Out _ _ _ _ (T1441.setTop (mkF m 313 #[.val (.long p0), .second, .val (.long p1), .second, .val (.long p2), .second, .val (.long p3), .second, .val (.int p4), .val (.int p5), .val (.int W), .val (.ref a9), .val (.ref a971), .val (.ref a1012), .val (.ref a1054), .val (.ref a1098), .val (.ref a1144), .val (.ref a1193), .val (.int r1230), .val (.int r1252), .val (.int r1276)] [(.int (1 : Int32))]))
        have N1438 := Fr.app N1431 (Fr.nil n0)
        refine own_st (G := T1441.setTop (mkF m 316 #[.val (.long p0), .second, .val (.long p1), .second, .val (.long p2), .second, .val (.long p3), .second, .val (.int p4), .val (.int p5), .val (.int W), .val (.ref a9), .val (.ref a971), .val (.ref a1012), .val (.ref a1054), .val (.ref a1098), .val (.ref a1144), .val (.ref a1193), .val (.int r1230), .val (.int r1252), .val (.int r1276)] [])) (fun _ kk => XS.ifNo X1443.here hx rfl (hb hby at_313) rfl (XT.i0_eq_f (by decide : ¬ (1 : Int32) = (0 : Int32))) kk) ?_
        refine own_st (G := T1441.setTop (mkF m 317 #[.val (.long p0), .second, .val (.long p1), .second, .val (.long p2), .second, .val (.long p3), .second, .val (.int p4), .val (.int p5), .val (.int W), .val (.ref a9), .val (.ref a971), .val (.ref a1012), .val (.ref a1054), .val (.ref a1098), .val (.ref a1144), .val (.ref a1193), .val (.int r1230), .val (.int r1252), .val (.int r1276)] [(.int (1 : Int32))])) (fun _ kk => XT.iconstV X1443.here hx rfl (1 : Int32) (hb hby at_316) (by decide) kk) ?_
        refine own_st (G := T1441.setTop (mkF m 321 #[.val (.long p0), .second, .val (.long p1), .second, .val (.long p2), .second, .val (.long p3), .second, .val (.int p4), .val (.int p5), .val (.int W), .val (.ref a9), .val (.ref a971), .val (.ref a1012), .val (.ref a1054), .val (.ref a1098), .val (.ref a1144), .val (.ref a1193), .val (.int r1230), .val (.int r1252), .val (.int r1276)] [(.int (1 : Int32))])) (fun _ kk => XS.goto X1443.here hx rfl (pc0 := 317) (pc' := 321) rfl (hb hby at_317) (by decide) (by decide) kk) ?_
        refine own_retB X1443 hx hret (by simp) hlk (hb hby at_321) (by decide) (by decide) ?_
        exact ⟨rfl, N1438⟩
    · skip
      refine own_st (G := T991.setTop (mkF m 75 #[.val (.long p0), .second, .val (.long p1), .second, .val (.long p2), .second, .val (.long p3), .second, .val (.int p4), .val (.int p5), .val (.int W), .val (.ref a9), .val (.ref a971), .unset, .unset, .unset, .unset, .unset, .unset, .unset, .unset] [])) (fun _ kk => XS.ifNo X993.here hx rfl (hb hby at_72) rfl (XT.i0_eq_f hc1003) kk) ?_
      refine own_st (G := T991.setTop (mkF m 76 #[.val (.long p0), .second, .val (.long p1), .second, .val (.long p2), .second, .val (.long p3), .second, .val (.int p4), .val (.int p5), .val (.int W), .val (.ref a9), .val (.ref a971), .unset, .unset, .unset, .unset, .unset, .unset, .unset, .unset] [(.int (3 : Int32))])) (fun _ kk => XT.iconstV X993.here hx rfl (3 : Int32) (hb hby at_75) (by decide) kk) ?_
      obtain ⟨T1445, h1446, cA1447, X1448, e1449, E1450, A1451, st1452⟩ := newP X993 hx hZ (own_w hw 0 rfl) e994 (g := (mkF m 76 #[.val (.long p0), .second, .val (.long p1), .second, .val (.long p2), .second, .val (.long p3), .second, .val (.int p4), .val (.int p5), .val (.int W), .val (.ref a9), .val (.ref a971), .unset, .unset, .unset, .unset, .unset, .unset, .unset, .unset] [(.int (3 : Int32))])) rfl (hb hby at_76) rfl (by decide) (cap := 3) (by decide) (by decide) (by decide) (by decide)
      obtain ⟨a1453, g1454⟩ : ∃ z, z = h992.size := ⟨_, rfl⟩
      rw [← g1454] at A1451 st1452
      have S1455 : (newA cA1447 .long (3 : Int32)).slots.size = 3 := (sz_new _ _ _).trans (by decide)
      refine own_st st1452 ?_
      show own_Out _ _ _ _ (T1445.setTop (mkF m 78 #[.val (.long p0), .second, .val (.long p1), .second, .val (.long p2), .second, .val (.long p3), .second, .val (.int p4), .val (.int p5), .val (.int W), .val (.ref a9), .val (.ref a971), .unset, .unset, .unset, .unset, .unset, .unset, .unset, .unset] [(.ref a1453)]))
      have F1456 := own_AJ_new (n := 3) A1451 (by decide) rfl
      refine own_st (G := T1445.setTop (mkF m 79 #[.val (.long p0), .second, .val (.long p1), .second, .val (.long p2), .second, .val (.long p3), .second, .val (.int p4), .val (.int p5), .val (.int W), .val (.ref a9), .val (.ref a971), .unset, .unset, .unset, .unset, .unset, .unset, .unset, .unset] [(.ref a1453), (.ref a1453)])) (fun _ kk => XS.dup X1448.here hx rfl (hb hby at_78) rfl rfl kk) ?_
      refine own_st (G := T1445.setTop (mkF m 80 #[.val (.long p0), .second, .val (.long p1), .second, .val (.long p2), .second, .val (.long p3), .second, .val (.int p4), .val (.int p5), .val (.int W), .val (.ref a9), .val (.ref a971), .unset, .unset, .unset, .unset, .unset, .unset, .unset, .unset] [(.int (0 : Int32)), (.ref a1453), (.ref a1453)])) (fun _ kk => XT.iconstV X1448.here hx rfl (0 : Int32) (hb hby at_79) (by decide) kk) ?_
      refine own_st (G := T1445.setTop (mkF m 81 #[.val (.long p0), .second, .val (.long p1), .second, .val (.long p2), .second, .val (.long p3), .second, .val (.int p4), .val (.int p5), .val (.int W), .val (.ref a9), .val (.ref a971), .unset, .unset, .unset, .unset, .unset, .unset, .unset, .unset] [(.long p0), (.int (0 : Int32)), (.ref a1453), (.ref a1453)])) (fun _ kk => XS.lloadN X1448.here hx rfl (hb hby at_80) rfl kk) ?_
      refine own_lastore X1448 hx hZ e1449 F1456 (j := (0 : Int32)) (i := 0) (by decide) rfl (by decide) (hb hby at_81) ?_
      intro T1457 h1458 X1459 e1460 W1461 F1462
      show own_Out _ _ _ _ (T1457.setTop (mkF m 82 #[.val (.long p0), .second, .val (.long p1), .second, .val (.long p2), .second, .val (.long p3), .second, .val (.int p4), .val (.int p5), .val (.int W), .val (.ref a9), .val (.ref a971), .unset, .unset, .unset, .unset, .unset, .unset, .unset, .unset] [(.ref a1453)]))
      have E1463 := own_ext_wr E1450 W1461 (Nat.le_of_eq g1454.symm)
      have gea1453 : n0 ≤ a1453 := by rw [g1454]; exact Nat.le_trans Z0 sz1002
      have N1464 := Fr.snoc X1459 N998 gea1453
      refine own_st (G := T1457.setTop (mkF m 83 #[.val (.long p0), .second, .val (.long p1), .second, .val (.long p2), .second, .val (.long p3), .second, .val (.int p4), .val (.int p5), .val (.int W), .val (.ref a9), .val (.ref a971), .unset, .unset, .unset, .unset, .unset, .unset, .unset, .unset] [(.ref a1453), (.ref a1453)])) (fun _ kk => XS.dup X1459.here hx rfl (hb hby at_82) rfl rfl kk) ?_
      refine own_st (G := T1457.setTop (mkF m 84 #[.val (.long p0), .second, .val (.long p1), .second, .val (.long p2), .second, .val (.long p3), .second, .val (.int p4), .val (.int p5), .val (.int W), .val (.ref a9), .val (.ref a971), .unset, .unset, .unset, .unset, .unset, .unset, .unset, .unset] [(.int (1 : Int32)), (.ref a1453), (.ref a1453)])) (fun _ kk => XT.iconstV X1459.here hx rfl (1 : Int32) (hb hby at_83) (by decide) kk) ?_
      refine own_st (G := T1457.setTop (mkF m 85 #[.val (.long p0), .second, .val (.long p1), .second, .val (.long p2), .second, .val (.long p3), .second, .val (.int p4), .val (.int p5), .val (.int W), .val (.ref a9), .val (.ref a971), .unset, .unset, .unset, .unset, .unset, .unset, .unset, .unset] [(.long p1), (.int (1 : Int32)), (.ref a1453), (.ref a1453)])) (fun _ kk => XS.lloadN X1459.here hx rfl (hb hby at_84) rfl kk) ?_
      refine own_lastore X1459 hx hZ e1460 F1462 (j := (1 : Int32)) (i := 1) (by decide) rfl (by decide) (hb hby at_85) ?_
      intro T1465 h1466 X1467 e1468 W1469 F1470
      show own_Out _ _ _ _ (T1465.setTop (mkF m 86 #[.val (.long p0), .second, .val (.long p1), .second, .val (.long p2), .second, .val (.long p3), .second, .val (.int p4), .val (.int p5), .val (.int W), .val (.ref a9), .val (.ref a971), .unset, .unset, .unset, .unset, .unset, .unset, .unset, .unset] [(.ref a1453)]))
      have E1471 := own_ext_wr E1463 W1469 (Nat.le_of_eq g1454.symm)
      have N1472 := Fr.snoc X1467 N1464 gea1453
      refine own_st (G := T1465.setTop (mkF m 87 #[.val (.long p0), .second, .val (.long p1), .second, .val (.long p2), .second, .val (.long p3), .second, .val (.int p4), .val (.int p5), .val (.int W), .val (.ref a9), .val (.ref a971), .unset, .unset, .unset, .unset, .unset, .unset, .unset, .unset] [(.ref a1453), (.ref a1453)])) (fun _ kk => XS.dup X1467.here hx rfl (hb hby at_86) rfl rfl kk) ?_
      refine own_st (G := T1465.setTop (mkF m 88 #[.val (.long p0), .second, .val (.long p1), .second, .val (.long p2), .second, .val (.long p3), .second, .val (.int p4), .val (.int p5), .val (.int W), .val (.ref a9), .val (.ref a971), .unset, .unset, .unset, .unset, .unset, .unset, .unset, .unset] [(.int (2 : Int32)), (.ref a1453), (.ref a1453)])) (fun _ kk => XT.iconstV X1467.here hx rfl (2 : Int32) (hb hby at_87) (by decide) kk) ?_
      refine own_st (G := T1465.setTop (mkF m 90 #[.val (.long p0), .second, .val (.long p1), .second, .val (.long p2), .second, .val (.long p3), .second, .val (.int p4), .val (.int p5), .val (.int W), .val (.ref a9), .val (.ref a971), .unset, .unset, .unset, .unset, .unset, .unset, .unset, .unset] [(.long p2), (.int (2 : Int32)), (.ref a1453), (.ref a1453)])) (fun _ kk => XS.lload X1467.here hx rfl (hb hby at_88) rfl kk) ?_
      refine own_lastore X1467 hx hZ e1468 F1470 (j := (2 : Int32)) (i := 2) (by decide) rfl (by decide) (hb hby at_90) ?_
      intro T1473 h1474 X1475 e1476 W1477 F1478
      show own_Out _ _ _ _ (T1473.setTop (mkF m 91 #[.val (.long p0), .second, .val (.long p1), .second, .val (.long p2), .second, .val (.long p3), .second, .val (.int p4), .val (.int p5), .val (.int W), .val (.ref a9), .val (.ref a971), .unset, .unset, .unset, .unset, .unset, .unset, .unset, .unset] [(.ref a1453)]))
      have E1479 := own_ext_wr E1471 W1477 (Nat.le_of_eq g1454.symm)
      have N1480 := Fr.snoc X1475 N1472 gea1453
      have F1481 : own_AJ Z h1474 a1453 3 (own_f3 p0 p1 p2) := own_AJ_congr F1478 (own_all3 (Nat.le_refl 3) rfl rfl rfl)
      have lt1482 : a9 < a1453 := by rw [g1454]; exact own_AJ_lt F1001
      have F1483 := own_AJ_ext F1001 E1479
      have lt1484 : a971 < a1453 := by rw [g1454]; exact own_AJ_lt F999
      have F1485 := own_AJ_ext F999 E1479
      have sz1486 : h0.size ≤ h1474.size := Nat.le_trans sz1002 E1479.1
      refine own_st (G := T1473.setTop (mkF m 110 #[.val (.long p0), .second, .val (.long p1), .second, .val (.long p2), .second, .val (.long p3), .second, .val (.int p4), .val (.int p5), .val (.int W), .val (.ref a9), .val (.ref a971), .unset, .unset, .unset, .unset, .unset, .unset, .unset, .unset] [(.ref a1453)])) (fun _ kk => XS.goto X1475.here hx rfl (pc0 := 91) (pc' := 110) rfl (hb hby at_91) (by decide) (by decide) kk) ?_
      refine own_st (G := T1473.setTop (mkF m 112 #[.val (.long p0), .second, .val (.long p1), .second, .val (.long p2), .second, .val (.long p3), .second, .val (.int p4), .val (.int p5), .val (.int W), .val (.ref a9), .val (.ref a971), .val (.ref a1453), .unset, .unset, .unset, .unset, .unset, .unset, .unset] [])) (fun _ kk => XS.astore X1475.here hx rfl (hb hby at_110) rfl rfl (l' := #[.val (.long p0), .second, .val (.long p1), .second, .val (.long p2), .second, .val (.long p3), .second, .val (.int p4), .val (.int p5), .val (.int W), .val (.ref a9), .val (.ref a971), .val (.ref a1453), .unset, .unset, .unset, .unset, .unset, .unset, .unset]) rfl kk) ?_
      refine own_st (G := T1473.setTop (mkF m 113 #[.val (.long p0), .second, .val (.long p1), .second, .val (.long p2), .second, .val (.long p3), .second, .val (.int p4), .val (.int p5), .val (.int W), .val (.ref a9), .val (.ref a971), .val (.ref a1453), .unset, .unset, .unset, .unset, .unset, .unset, .unset] [(.int (3 : Int32))])) (fun _ kk => XT.iconstV X1475.here hx rfl (3 : Int32) (hb hby at_112) (by decide) kk) ?_
      obtain ⟨T1487, h1488, cA1489, X1490, e1491, E1492, A1493, st1494⟩ := newP X1475 hx hZ (own_w hw 0 rfl) e1476 (g := (mkF m 113 #[.val (.long p0), .second, .val (.long p1), .second, .val (.long p2), .second, .val (.long p3), .second, .val (.int p4), .val (.int p5), .val (.int W), .val (.ref a9), .val (.ref a971), .val (.ref a1453), .unset, .unset, .unset, .unset, .unset, .unset, .unset] [(.int (3 : Int32))])) rfl (hb hby at_113) rfl (by decide) (cap := 3) (by decide) (by decide) (by decide) (by decide)
      obtain ⟨a1495, g1496⟩ : ∃ z, z = h1474.size := ⟨_, rfl⟩
      rw [← g1496] at A1493 st1494
      have S1497 : (newA cA1489 .long (3 : Int32)).slots.size = 3 := (sz_new _ _ _).trans (by decide)
      refine own_st st1494 ?_
      show own_Out _ _ _ _ (T1487.setTop (mkF m 115 #[.val (.long p0), .second, .val (.long p1), .second, .val (.long p2), .second, .val (.long p3), .second, .val (.int p4), .val (.int p5), .val (.int W), .val (.ref a9), .val (.ref a971), .val (.ref a1453), .unset, .unset, .unset, .unset, .unset, .unset, .unset] [(.ref a1495)]))
      have F1498 := own_AJ_new (n := 3) A1493 (by decide) rfl
      refine own_st (G := T1487.setTop (mkF m 116 #[.val (.long p0), .second, .val (.long p1), .second, .val (.long p2), .second, .val (.long p3), .second, .val (.int p4), .val (.int p5), .val (.int W), .val (.ref a9), .val (.ref a971), .val (.ref a1453), .unset, .unset, .unset, .unset, .unset, .unset, .unset] [(.ref a1495), (.ref a1495)])) (fun _ kk => XS.dup X1490.here hx rfl (hb hby at_115) rfl rfl kk) ?_
      refine own_st (G := T1487.setTop (mkF m 117 #[.val (.long p0), .second, .val (.long p1), .second, .val (.long p2), .second, .val (.long p3), .second, .val (.int p4), .val (.int p5), .val (.int W), .val (.ref a9), .val (.ref a971), .val (.ref a1453), .unset, .unset, .unset, .unset, .unset, .unset, .unset] [(.int (0 : Int32)), (.ref a1495), (.ref a1495)])) (fun _ kk => XT.iconstV X1490.here hx rfl (0 : Int32) (hb hby at_116) (by decide) kk) ?_
      refine own_st (G := T1487.setTop (mkF m 119 #[.val (.long p0), .second, .val (.long p1), .second, .val (.long p2), .second, .val (.long p3), .second, .val (.int p4), .val (.int p5), .val (.int W), .val (.ref a9), .val (.ref a971), .val (.ref a1453), .unset, .unset, .unset, .unset, .unset, .unset, .unset] [(.long p3), (.int (0 : Int32)), (.ref a1495), (.ref a1495)])) (fun _ kk => XS.lload X1490.here hx rfl (hb hby at_117) rfl kk) ?_
      refine own_lastore X1490 hx hZ e1491 F1498 (j := (0 : Int32)) (i := 0) (by decide) rfl (by decide) (hb hby at_119) ?_
      intro T1499 h1500 X1501 e1502 W1503 F1504
      show own_Out _ _ _ _ (T1499.setTop (mkF m 120 #[.val (.long p0), .second, .val (.long p1), .second, .val (.long p2), .second, .val (.long p3), .second, .val (.int p4), .val (.int p5), .val (.int W), .val (.ref a9), .val (.ref a971), .val (.ref a1453), .unset, .unset, .unset, .unset, .unset, .unset, .unset] [(.ref a1495)]))
      have E1505 := own_ext_wr E1492 W1503 (Nat.le_of_eq g1496.symm)
      have gea1495 : n0 ≤ a1495 := by rw [g1496]; exact Nat.le_trans Z0 sz1486
      have N1506 := Fr.snoc X1501 N1480 gea1495
      refine own_st (G := T1499.setTop (mkF m 121 #[.val (.long p0), .second, .val (.long p1), .second, .val (.long p2), .second, .val (.long p3), .second, .val (.int p4), .val (.int p5), .val (.int W), .val (.ref a9), .val (.ref a971), .val (.ref a1453), .unset, .unset, .unset, .unset, .unset, .unset, .unset] [(.ref a1495), (.ref a1495)])) (fun _ kk => XS.dup X1501.here hx rfl (hb hby at_120) rfl rfl kk) ?_
      refine own_st (G := T1499.setTop (mkF m 122 #[.val (.long p0), .second, .val (.long p1), .second, .val (.long p2), .second, .val (.long p3), .second, .val (.int p4), .val (.int p5), .val (.int W), .val (.ref a9), .val (.ref a971), .val (.ref a1453), .unset, .unset, .unset, .unset, .unset, .unset, .unset] [(.int (1 : Int32)), (.ref a1495), (.ref a1495)])) (fun _ kk => XT.iconstV X1501.here hx rfl (1 : Int32) (hb hby at_121) (by decide) kk) ?_
      refine own_st (G := T1499.setTop (mkF m 124 #[.val (.long p0), .second, .val (.long p1), .second, .val (.long p2), .second, .val (.long p3), .second, .val (.int p4), .val (.int p5), .val (.int W), .val (.ref a9), .val (.ref a971), .val (.ref a1453), .unset, .unset, .unset, .unset, .unset, .unset, .unset] [(.long p3), (.int (1 : Int32)), (.ref a1495), (.ref a1495)])) (fun _ kk => XS.lload X1501.here hx rfl (hb hby at_122) rfl kk) ?_
      refine own_lastore X1501 hx hZ e1502 F1504 (j := (1 : Int32)) (i := 1) (by decide) rfl (by decide) (hb hby at_124) ?_
      intro T1507 h1508 X1509 e1510 W1511 F1512
      show own_Out _ _ _ _ (T1507.setTop (mkF m 125 #[.val (.long p0), .second, .val (.long p1), .second, .val (.long p2), .second, .val (.long p3), .second, .val (.int p4), .val (.int p5), .val (.int W), .val (.ref a9), .val (.ref a971), .val (.ref a1453), .unset, .unset, .unset, .unset, .unset, .unset, .unset] [(.ref a1495)]))
      have E1513 := own_ext_wr E1505 W1511 (Nat.le_of_eq g1496.symm)
      have N1514 := Fr.snoc X1509 N1506 gea1495
      refine own_st (G := T1507.setTop (mkF m 126 #[.val (.long p0), .second, .val (.long p1), .second, .val (.long p2), .second, .val (.long p3), .second, .val (.int p4), .val (.int p5), .val (.int W), .val (.ref a9), .val (.ref a971), .val (.ref a1453), .unset, .unset, .unset, .unset, .unset, .unset, .unset] [(.ref a1495), (.ref a1495)])) (fun _ kk => XS.dup X1509.here hx rfl (hb hby at_125) rfl rfl kk) ?_
      refine own_st (G := T1507.setTop (mkF m 127 #[.val (.long p0), .second, .val (.long p1), .second, .val (.long p2), .second, .val (.long p3), .second, .val (.int p4), .val (.int p5), .val (.int W), .val (.ref a9), .val (.ref a971), .val (.ref a1453), .unset, .unset, .unset, .unset, .unset, .unset, .unset] [(.int (2 : Int32)), (.ref a1495), (.ref a1495)])) (fun _ kk => XT.iconstV X1509.here hx rfl (2 : Int32) (hb hby at_126) (by decide) kk) ?_
      refine own_st (G := T1507.setTop (mkF m 129 #[.val (.long p0), .second, .val (.long p1), .second, .val (.long p2), .second, .val (.long p3), .second, .val (.int p4), .val (.int p5), .val (.int W), .val (.ref a9), .val (.ref a971), .val (.ref a1453), .unset, .unset, .unset, .unset, .unset, .unset, .unset] [(.long p3), (.int (2 : Int32)), (.ref a1495), (.ref a1495)])) (fun _ kk => XS.lload X1509.here hx rfl (hb hby at_127) rfl kk) ?_
      refine own_lastore X1509 hx hZ e1510 F1512 (j := (2 : Int32)) (i := 2) (by decide) rfl (by decide) (hb hby at_129) ?_
      intro T1515 h1516 X1517 e1518 W1519 F1520
      show own_Out _ _ _ _ (T1515.setTop (mkF m 130 #[.val (.long p0), .second, .val (.long p1), .second, .val (.long p2), .second, .val (.long p3), .second, .val (.int p4), .val (.int p5), .val (.int W), .val (.ref a9), .val (.ref a971), .val (.ref a1453), .unset, .unset, .unset, .unset, .unset, .unset, .unset] [(.ref a1495)]))
      have E1521 := own_ext_wr E1513 W1519 (Nat.le_of_eq g1496.symm)
      have N1522 := Fr.snoc X1517 N1514 gea1495
      have F1523 : own_AJ Z h1516 a1495 3 (own_f3 p3 p3 p3) := own_AJ_congr F1520 (own_all3 (Nat.le_refl 3) rfl rfl rfl)
      have lt1524 : a9 < a1495 := by rw [g1496]; exact own_AJ_lt F1483
      have F1525 := own_AJ_ext F1483 E1521
      have lt1526 : a971 < a1495 := by rw [g1496]; exact own_AJ_lt F1485
      have F1527 := own_AJ_ext F1485 E1521
      have lt1528 : a1453 < a1495 := by rw [g1496]; exact own_AJ_lt F1481
      have F1529 := own_AJ_ext F1481 E1521
      have sz1530 : h0.size ≤ h1516.size := Nat.le_trans sz1486 E1521.1
      refine own_st (G := T1515.setTop (mkF m 132 #[.val (.long p0), .second, .val (.long p1), .second, .val (.long p2), .second, .val (.long p3), .second, .val (.int p4), .val (.int p5), .val (.int W), .val (.ref a9), .val (.ref a971), .val (.ref a1453), .val (.ref a1495), .unset, .unset, .unset, .unset, .unset, .unset] [])) (fun _ kk => XS.astore X1517.here hx rfl (hb hby at_130) rfl rfl (l' := #[.val (.long p0), .second, .val (.long p1), .second, .val (.long p2), .second, .val (.long p3), .second, .val (.int p4), .val (.int p5), .val (.int W), .val (.ref a9), .val (.ref a971), .val (.ref a1453), .val (.ref a1495), .unset, .unset, .unset, .unset, .unset, .unset]) rfl kk) ?_
      refine own_st (G := T1515.setTop (mkF m 133 #[.val (.long p0), .second, .val (.long p1), .second, .val (.long p2), .second, .val (.long p3), .second, .val (.int p4), .val (.int p5), .val (.int W), .val (.ref a9), .val (.ref a971), .val (.ref a1453), .val (.ref a1495), .unset, .unset, .unset, .unset, .unset, .unset] [(.int (3 : Int32))])) (fun _ kk => XT.iconstV X1517.here hx rfl (3 : Int32) (hb hby at_132) (by decide) kk) ?_
      obtain ⟨T1531, h1532, cA1533, X1534, e1535, E1536, A1537, st1538⟩ := newP X1517 hx hZ (own_w hw 0 rfl) e1518 (g := (mkF m 133 #[.val (.long p0), .second, .val (.long p1), .second, .val (.long p2), .second, .val (.long p3), .second, .val (.int p4), .val (.int p5), .val (.int W), .val (.ref a9), .val (.ref a971), .val (.ref a1453), .val (.ref a1495), .unset, .unset, .unset, .unset, .unset, .unset] [(.int (3 : Int32))])) rfl (hb hby at_133) rfl (by decide) (cap := 3) (by decide) (by decide) (by decide) (by decide)
      obtain ⟨a1539, g1540⟩ : ∃ z, z = h1516.size := ⟨_, rfl⟩
      rw [← g1540] at A1537 st1538
      have S1541 : (newA cA1533 .long (3 : Int32)).slots.size = 3 := (sz_new _ _ _).trans (by decide)
      refine own_st st1538 ?_
      show own_Out _ _ _ _ (T1531.setTop (mkF m 135 #[.val (.long p0), .second, .val (.long p1), .second, .val (.long p2), .second, .val (.long p3), .second, .val (.int p4), .val (.int p5), .val (.int W), .val (.ref a9), .val (.ref a971), .val (.ref a1453), .val (.ref a1495), .unset, .unset, .unset, .unset, .unset, .unset] [(.ref a1539)]))
      have F1542 := own_AJ_new (n := 3) A1537 (by decide) rfl
      refine own_st (G := T1531.setTop (mkF m 136 #[.val (.long p0), .second, .val (.long p1), .second, .val (.long p2), .second, .val (.long p3), .second, .val (.int p4), .val (.int p5), .val (.int W), .val (.ref a9), .val (.ref a971), .val (.ref a1453), .val (.ref a1495), .unset, .unset, .unset, .unset, .unset, .unset] [(.ref a1539), (.ref a1539)])) (fun _ kk => XS.dup X1534.here hx rfl (hb hby at_135) rfl rfl kk) ?_
      refine own_st (G := T1531.setTop (mkF m 137 #[.val (.long p0), .second, .val (.long p1), .second, .val (.long p2), .second, .val (.long p3), .second, .val (.int p4), .val (.int p5), .val (.int W), .val (.ref a9), .val (.ref a971), .val (.ref a1453), .val (.ref a1495), .unset, .unset, .unset, .unset, .unset, .unset] [(.int (0 : Int32)), (.ref a1539), (.ref a1539)])) (fun _ kk => XT.iconstV X1534.here hx rfl (0 : Int32) (hb hby at_136) (by decide) kk) ?_
      refine own_st (G := T1531.setTop (mkF m 139 #[.val (.long p0), .second, .val (.long p1), .second, .val (.long p2), .second, .val (.long p3), .second, .val (.int p4), .val (.int p5), .val (.int W), .val (.ref a9), .val (.ref a971), .val (.ref a1453), .val (.ref a1495), .unset, .unset, .unset, .unset, .unset, .unset] [(.long p3), (.int (0 : Int32)), (.ref a1539), (.ref a1539)])) (fun _ kk => XS.lload X1534.here hx rfl (hb hby at_137) rfl kk) ?_
      refine own_lastore X1534 hx hZ e1535 F1542 (j := (0 : Int32)) (i := 0) (by decide) rfl (by decide) (hb hby at_139) ?_
      intro T1543 h1544 X1545 e1546 W1547 F1548
      show own_Out _ _ _ _ (T1543.setTop (mkF m 140 #[.val (.long p0), .second, .val (.long p1), .second, .val (.long p2), .second, .val (.long p3), .second, .val (.int p4), .val (.int p5), .val (.int W), .val (.ref a9), .val (.ref a971), .val (.ref a1453), .val (.ref a1495), .unset, .unset, .unset, .unset, .unset, .unset] [(.ref a1539)]))
      have E1549 := own_ext_wr E1536 W1547 (Nat.le_of_eq g1540.symm)
      have gea1539 : n0 ≤ a1539 := by rw [g1540]; exact Nat.le_trans Z0 sz1530
      have N1550 := Fr.snoc X1545 N1522 gea1539
      refine own_st (G := T1543.setTop (mkF m 141 #[.val (.long p0), .second, .val (.long p1), .second, .val (.long p2), .second, .val (.long p3), .second, .val (.int p4), .val (.int p5), .val (.int W), .val (.ref a9), .val (.ref a971), .val (.ref a1453), .val (.ref a1495), .unset, .unset, .unset, .unset, .unset, .unset] [(.ref a1539), (.ref a1539)])) (fun _ kk => XS.dup X1545.here hx rfl (hb hby at_140) rfl rfl kk) ?_
      refine own_st (G := T1543.setTop (mkF m 142 #[.val (.long p0), .second, .val (.long p1), .second, .val (.long p2), .second, .val (.long p3), .second, .val (.int p4), .val (.int p5), .val (.int W), .val (.ref a9), .val (.ref a971), .val (.ref a1453), .val (.ref a1495), .unset, .unset, .unset, .unset, .unset, .unset] [(.int (1 : Int32)), (.ref a1539), (.ref a1539)])) (fun _ kk => XT.iconstV X1545.here hx rfl (1 : Int32) (hb hby at_141) (by decide) kk) ?_
      refine own_st (G := T1543.setTop (mkF m 144 #[.val (.long p0), .second, .val (.long p1), .second, .val (.long p2), .second, .val (.long p3), .second, .val (.int p4), .val (.int p5), .val (.int W), .val (.ref a9), .val (.ref a971), .val (.ref a1453), .val (.ref a1495), .unset, .unset, .unset, .unset, .unset, .unset] [(.long p3), (.int (1 : Int32)), (.ref a1539), (.ref a1539)])) (fun _ kk => XS.lload X1545.here hx rfl (hb hby at_142) rfl kk) ?_
      refine own_lastore X1545 hx hZ e1546 F1548 (j := (1 : Int32)) (i := 1) (by decide) rfl (by decide) (hb hby at_144) ?_
      intro T1551 h1552 X1553 e1554 W1555 F1556
      show own_Out _ _ _ _ (T1551.setTop (mkF m 145 #[.val (.long p0), .second, .val (.long p1), .second, .val (.long p2), .second, .val (.long p3), .second, .val (.int p4), .val (.int p5), .val (.int W), .val (.ref a9), .val (.ref a971), .val (.ref a1453), .val (.ref a1495), .unset, .unset, .unset, .unset, .unset, .unset] [(.ref a1539)]))
      have E1557 := own_ext_wr E1549 W1555 (Nat.le_of_eq g1540.symm)
      have N1558 := Fr.snoc X1553 N1550 gea1539
      refine own_st (G := T1551.setTop (mkF m 146 #[.val (.long p0), .second, .val (.long p1), .second, .val (.long p2), .second, .val (.long p3), .second, .val (.int p4), .val (.int p5), .val (.int W), .val (.ref a9), .val (.ref a971), .val (.ref a1453), .val (.ref a1495), .unset, .unset, .unset, .unset, .unset, .unset] [(.ref a1539), (.ref a1539)])) (fun _ kk => XS.dup X1553.here hx rfl (hb hby at_145) rfl rfl kk) ?_
      refine own_st (G := T1551.setTop (mkF m 147 #[.val (.long p0), .second, .val (.long p1), .second, .val (.long p2), .second, .val (.long p3), .second, .val (.int p4), .val (.int p5), .val (.int W), .val (.ref a9), .val (.ref a971), .val (.ref a1453), .val (.ref a1495), .unset, .unset, .unset, .unset, .unset, .unset] [(.int (2 : Int32)), (.ref a1539), (.ref a1539)])) (fun _ kk => XT.iconstV X1553.here hx rfl (2 : Int32) (hb hby at_146) (by decide) kk) ?_
      refine own_st (G := T1551.setTop (mkF m 149 #[.val (.long p0), .second, .val (.long p1), .second, .val (.long p2), .second, .val (.long p3), .second, .val (.int p4), .val (.int p5), .val (.int W), .val (.ref a9), .val (.ref a971), .val (.ref a1453), .val (.ref a1495), .unset, .unset, .unset, .unset, .unset, .unset] [(.long p3), (.int (2 : Int32)), (.ref a1539), (.ref a1539)])) (fun _ kk => XS.lload X1553.here hx rfl (hb hby at_147) rfl kk) ?_
      refine own_lastore X1553 hx hZ e1554 F1556 (j := (2 : Int32)) (i := 2) (by decide) rfl (by decide) (hb hby at_149) ?_
      intro T1559 h1560 X1561 e1562 W1563 F1564
      show own_Out _ _ _ _ (T1559.setTop (mkF m 150 #[.val (.long p0), .second, .val (.long p1), .second, .val (.long p2), .second, .val (.long p3), .second, .val (.int p4), .val (.int p5), .val (.int W), .val (.ref a9), .val (.ref a971), .val (.ref a1453), .val (.ref a1495), .unset, .unset, .unset, .unset, .unset, .unset] [(.ref a1539)]))
      have E1565 := own_ext_wr E1557 W1563 (Nat.le_of_eq g1540.symm)
      have N1566 := Fr.snoc X1561 N1558 gea1539
      have F1567 : own_AJ Z h1560 a1539 3 (own_f3 p3 p3 p3) := own_AJ_congr F1564 (own_all3 (Nat.le_refl 3) rfl rfl rfl)
      have lt1568 : a9 < a1539 := by rw [g1540]; exact own_AJ_lt F1525
      have F1569 := own_AJ_ext F1525 E1565
      have lt1570 : a971 < a1539 := by rw [g1540]; exact own_AJ_lt F1527
      have F1571 := own_AJ_ext F1527 E1565
      have lt1572 : a1453 < a1539 := by rw [g1540]; exact own_AJ_lt F1529
      have F1573 := own_AJ_ext F1529 E1565
      have lt1574 : a1495 < a1539 := by rw [g1540]; exact own_AJ_lt F1523
      have F1575 := own_AJ_ext F1523 E1565
      have sz1576 : h0.size ≤ h1560.size := Nat.le_trans sz1530 E1565.1
      refine own_st (G := T1559.setTop (mkF m 152 #[.val (.long p0), .second, .val (.long p1), .second, .val (.long p2), .second, .val (.long p3), .second, .val (.int p4), .val (.int p5), .val (.int W), .val (.ref a9), .val (.ref a971), .val (.ref a1453), .val (.ref a1495), .val (.ref a1539), .unset, .unset, .unset, .unset, .unset] [])) (fun _ kk => XS.astore X1561.here hx rfl (hb hby at_150) rfl rfl (l' := #[.val (.long p0), .second, .val (.long p1), .second, .val (.long p2), .second, .val (.long p3), .second, .val (.int p4), .val (.int p5), .val (.int W), .val (.ref a9), .val (.ref a971), .val (.ref a1453), .val (.ref a1495), .val (.ref a1539), .unset, .unset, .unset, .unset, .unset]) rfl kk) ?_
      refine own_st (G := T1559.setTop (mkF m 153 #[.val (.long p0), .second, .val (.long p1), .second, .val (.long p2), .second, .val (.long p3), .second, .val (.int p4), .val (.int p5), .val (.int W), .val (.ref a9), .val (.ref a971), .val (.ref a1453), .val (.ref a1495), .val (.ref a1539), .unset, .unset, .unset, .unset, .unset] [(.int (3 : Int32))])) (fun _ kk => XT.iconstV X1561.here hx rfl (3 : Int32) (hb hby at_152) (by decide) kk) ?_
      obtain ⟨T1577, h1578, cA1579, X1580, e1581, E1582, A1583, st1584⟩ := newP X1561 hx hZ (own_w hw 0 rfl) e1562 (g := (mkF m 153 #[.val (.long p0), .second, .val (.long p1), .second, .val (.long p2), .second, .val (.long p3), .second, .val (.int p4), .val (.int p5), .val (.int W), .val (.ref a9), .val (.ref a971), .val (.ref a1453), .val (.ref a1495), .val (.ref a1539), .unset, .unset, .unset, .unset, .unset] [(.int (3 : Int32))])) rfl (hb hby at_153) rfl (by decide) (cap := 3) (by decide) (by decide) (by decide) (by decide)
      obtain ⟨a1585, g1586⟩ : ∃ z, z = h1560.size := ⟨_, rfl⟩
      rw [← g1586] at A1583 st1584
      have S1587 : (newA cA1579 .long (3 : Int32)).slots.size = 3 := (sz_new _ _ _).trans (by decide)
      refine own_st st1584 ?_
      show own_Out _ _ _ _ (T1577.setTop (mkF m 155 #[.val (.long p0), .second, .val (.long p1), .second, .val (.long p2), .second, .val (.long p3), .second, .val (.int p4), .val (.int p5), .val (.int W), .val (.ref a9), .val (.ref a971), .val (.ref a1453), .val (.ref a1495), .val (.ref a1539), .unset, .unset, .unset, .unset, .unset] [(.ref a1585)]))
      have F1588 := own_AJ_new (n := 3) A1583 (by decide) rfl
      refine own_st (G := T1577.setTop (mkF m 156 #[.val (.long p0), .second, .val (.long p1), .second, .val (.long p2), .second, .val (.long p3), .second, .val (.int p4), .val (.int p5), .val (.int W), .val (.ref a9), .val (.ref a971), .val (.ref a1453), .val (.ref a1495), .val (.ref a1539), .unset, .unset, .unset, .unset, .unset] [(.ref a1585), (.ref a1585)])) (fun _ kk => XS.dup X1580.here hx rfl (hb hby at_155) rfl rfl kk) ?_
      refine own_st (G := T1577.setTop (mkF m 157 #[.val (.long p0), .second, .val (.long p1), .second, .val (.long p2), .second, .val (.long p3), .second, .val (.int p4), .val (.int p5), .val (.int W), .val (.ref a9), .val (.ref a971), .val (.ref a1453), .val (.ref a1495), .val (.ref a1539), .unset, .unset, .unset, .unset, .unset] [(.int (0 : Int32)), (.ref a1585), (.ref a1585)])) (fun _ kk => XT.iconstV X1580.here hx rfl (0 : Int32) (hb hby at_156) (by decide) kk) ?_
      refine own_st (G := T1577.setTop (mkF m 159 #[.val (.long p0), .second, .val (.long p1), .second, .val (.long p2), .second, .val (.long p3), .second, .val (.int p4), .val (.int p5), .val (.int W), .val (.ref a9), .val (.ref a971), .val (.ref a1453), .val (.ref a1495), .val (.ref a1539), .unset, .unset, .unset, .unset, .unset] [(.long p3), (.int (0 : Int32)), (.ref a1585), (.ref a1585)])) (fun _ kk => XS.lload X1580.here hx rfl (hb hby at_157) rfl kk) ?_
      refine own_lastore X1580 hx hZ e1581 F1588 (j := (0 : Int32)) (i := 0) (by decide) rfl (by decide) (hb hby at_159) ?_
      intro T1589 h1590 X1591 e1592 W1593 F1594
      show own_Out _ _ _ _ (T1589.setTop (mkF m 160 #[.val (.long p0), .second, .val (.long p1), .second, .val (.long p2), .second, .val (.long p3), .second, .val (.int p4), .val (.int p5), .val (.int W), .val (.ref a9), .val (.ref a971), .val (.ref a1453), .val (.ref a1495), .val (.ref a1539), .unset, .unset, .unset, .unset, .unset] [(.ref a1585)]))
      have E1595 := own_ext_wr E1582 W1593 (Nat.le_of_eq g1586.symm)
      have gea1585 : n0 ≤ a1585 := by rw [g1586]; exact Nat.le_trans Z0 sz1576
      have N1596 := Fr.snoc X1591 N1566 gea1585
      refine own_st (G := T1589.setTop (mkF m 161 #[.val (.long p0), .second, .val (.long p1), .second, .val (.long p2), .second, .val (.long p3), .second, .val (.int p4), .val (.int p5), .val (.int W), .val (.ref a9), .val (.ref a971), .val (.ref a1453), .val (.ref a1495), .val (.ref a1539), .unset, .unset, .unset, .unset, .unset] [(.ref a1585), (.ref a1585)])) (fun _ kk => XS.dup X1591.here hx rfl (hb hby at_160) rfl rfl kk) ?_
      refine own_st (G := T1589.setTop (mkF m 162 #[.val (.long p0), .second, .val (.long p1), .second, .val (.long p2), .second, .val (.long p3), .second, .val (.int p4), .val (.int p5), .val (.int W), .val (.ref a9), .val (.ref a971), .val (.ref a1453), .val (.ref a1495), .val (.ref a1539), .unset, .unset, .unset, .unset, .unset] [(.int (1 : Int32)), (.ref a1585), (.ref a1585)])) (fun _ kk => XT.iconstV X1591.here hx rfl (1 : Int32) (hb hby at_161) (by decide) kk) ?_
      refine own_st (G := T1589.setTop (mkF m 164 #[.val (.long p0), .second, .val (.long p1), .second, .val (.long p2), .second, .val (.long p3), .second, .val (.int p4), .val (.int p5), .val (.int W), .val (.ref a9), .val (.ref a971), .val (.ref a1453), .val (.ref a1495), .val (.ref a1539), .unset, .unset, .unset, .unset, .unset] [(.long p3), (.int (1 : Int32)), (.ref a1585), (.ref a1585)])) (fun _ kk => XS.lload X1591.here hx rfl (hb hby at_162) rfl kk) ?_
      refine own_lastore X1591 hx hZ e1592 F1594 (j := (1 : Int32)) (i := 1) (by decide) rfl (by decide) (hb hby at_164) ?_
      intro T1597 h1598 X1599 e1600 W1601 F1602
      show own_Out _ _ _ _ (T1597.setTop (mkF m 165 #[.val (.long p0), .second, .val (.long p1), .second, .val (.long p2), .second, .val (.long p3), .second, .val (.int p4), .val (.int p5), .val (.int W), .val (.ref a9), .val (.ref a971), .val (.ref a1453), .val (.ref a1495), .val (.ref a1539), .unset, .unset, .unset, .unset, .unset] [(.ref a1585)]))
      have E1603 := own_ext_wr E1595 W1601 (Nat.le_of_eq g1586.symm)
      have N1604 := Fr.snoc X1599 N1596 gea1585
      refine own_st (G := T1597.setTop (mkF m 166 #[.val (.long p0), .second, .val (.long p1), .second, .val (.long p2), .second, .val (.long p3), .second, .val (.int p4), .val (.int p5), .val (.int W), .val (.ref a9), .val (.ref a971), .val (.ref a1453), .val (.ref a1495), .val (.ref a1539), .unset, .unset, .unset, .unset, .unset] [(.ref a1585), (.ref a1585)])) (fun _ kk => XS.dup X1599.here hx rfl (hb hby at_165) rfl rfl kk) ?_
      refine own_st (G := T1597.setTop (mkF m 167 #[.val (.long p0), .second, .val (.long p1), .second, .val (.long p2), .second, .val (.long p3), .second, .val (.int p4), .val (.int p5), .val (.int W), .val (.ref a9), .val (.ref a971), .val (.ref a1453), .val (.ref a1495), .val (.ref a1539), .unset, .unset, .unset, .unset, .unset] [(.int (2 : Int32)), (.ref a1585), (.ref a1585)])) (fun _ kk => XT.iconstV X1599.here hx rfl (2 : Int32) (hb hby at_166) (by decide) kk) ?_
      refine own_st (G := T1597.setTop (mkF m 169 #[.val (.long p0), .second, .val (.long p1), .second, .val (.long p2), .second, .val (.long p3), .second, .val (.int p4), .val (.int p5), .val (.int W), .val (.ref a9), .val (.ref a971), .val (.ref a1453), .val (.ref a1495), .val (.ref a1539), .unset, .unset, .unset, .unset, .unset] [(.long p3), (.int (2 : Int32)), (.ref a1585), (.ref a1585)])) (fun _ kk => XS.lload X1599.here hx rfl (hb hby at_167) rfl kk) ?_
      refine own_lastore X1599 hx hZ e1600 F1602 (j := (2 : Int32)) (i := 2) (by decide) rfl (by decide) (hb hby at_169) ?_
      intro T1605 h1606 X1607 e1608 W1609 F1610
      show own_Out _ _ _ _ (T1605.setTop (mkF m 170 #[.val (.long p0), .second, .val (.long p1), .second, .val (.long p2), .second, .val (.long p3), .second, .val (.int p4), .val (.int p5), .val (.int W), .val (.ref a9), .val (.ref a971), .val (.ref a1453), .val (.ref a1495), .val (.ref a1539), .unset, .unset, .unset, .unset, .unset] [(.ref a1585)]))
      have E1611 := own_ext_wr E1603 W1609 (Nat.le_of_eq g1586.symm)
      have N1612 := Fr.snoc X1607 N1604 gea1585
      have F1613 : own_AJ Z h1606 a1585 3 (own_f3 p3 p3 p3) := own_AJ_congr F1610 (own_all3 (Nat.le_refl 3) rfl rfl rfl)
      have lt1614 : a9 < a1585 := by rw [g1586]; exact own_AJ_lt F1569
      have F1615 := own_AJ_ext F1569 E1611
      have lt1616 : a971 < a1585 := by rw [g1586]; exact own_AJ_lt F1571
      have F1617 := own_AJ_ext F1571 E1611
      have lt1618 : a1453 < a1585 := by rw [g1586]; exact own_AJ_lt F1573
      have F1619 := own_AJ_ext F1573 E1611
      have lt1620 : a1495 < a1585 := by rw [g1586]; exact own_AJ_lt F1575
      have F1621 := own_AJ_ext F1575 E1611
      have lt1622 : a1539 < a1585 := by rw [g1586]; exact own_AJ_lt F1567
      have F1623 := own_AJ_ext F1567 E1611
      have sz1624 : h0.size ≤ h1606.size := Nat.le_trans sz1576 E1611.1
      refine own_st (G := T1605.setTop (mkF m 172 #[.val (.long p0), .second, .val (.long p1), .second, .val (.long p2), .second, .val (.long p3), .second, .val (.int p4), .val (.int p5), .val (.int W), .val (.ref a9), .val (.ref a971), .val (.ref a1453), .val (.ref a1495), .val (.ref a1539), .val (.ref a1585), .unset, .unset, .unset, .unset] [])) (fun _ kk => XS.astore X1607.here hx rfl (hb hby at_170) rfl rfl (l' := #[.val (.long p0), .second, .val (.long p1), .second, .val (.long p2), .second, .val (.long p3), .second, .val (.int p4), .val (.int p5), .val (.int W), .val (.ref a9), .val (.ref a971), .val (.ref a1453), .val (.ref a1495), .val (.ref a1539), .val (.ref a1585), .unset, .unset, .unset, .unset]) rfl kk) ?_
      obtain ⟨T1625, h1626, X1627, e1628, E1629, A1630, D1631, U1633, st1632⟩ := newO X1607 hx hZ hown (own_w hw 1 rfl) (own_w hw 2 rfl) (own_w hw 3 rfl) e1608 (g := (mkF m 172 #[.val (.long p0), .second, .val (.long p1), .second, .val (.long p2), .second, .val (.long p3), .second, .val (.int p4), .val (.int p5), .val (.int W), .val (.ref a9), .val (.ref a971), .val (.ref a1453), .val (.ref a1495), .val (.ref a1539), .val (.ref a1585), .unset, .unset, .unset, .unset] [])) rfl (hb hby at_172) (by decide) (by decide)
      obtain ⟨a1634, g1635⟩ : ∃ z, z = h1606.size := ⟨_, rfl⟩
      rw [← g1635] at A1630 D1631 U1633 st1632
      refine own_st st1632 ?_
      show own_Out _ _ _ _ (T1625.setTop (mkF m 175 #[.val (.long p0), .second, .val (.long p1), .second, .val (.long p2), .second, .val (.long p3), .second, .val (.int p4), .val (.int p5), .val (.int W), .val (.ref a9), .val (.ref a971), .val (.ref a1453), .val (.ref a1495), .val (.ref a1539), .val (.ref a1585), .unset, .unset, .unset, .unset] [(.ref a1634)]))
      have O1636 : own_P Z h1626 a1634 (0 : Int32) .null .null (0 : Int32) := ⟨A1630, D1631 (Or.inr (own_w hw 11 rfl)) (ty := .int) (by decide), D1631 (Or.inl (own_w hw 13 rfl)) (ty := .array (.long)) (by decide), D1631 (Or.inl (own_w hw 16 rfl)) (ty := .array (.int)) (by decide), D1631 (Or.inl (own_w hw 28 rfl)) (ty := .int) (by decide)⟩
      have ga : n0 ≤ a1634 := by rw [g1635]; exact Nat.le_trans Z0 sz1624
      have lt1637 : a9 < a1634 := by rw [g1635]; exact own_AJ_lt F1615
      have F1638 := own_AJ_ext F1615 E1629
      have lt1639 : a971 < a1634 := by rw [g1635]; exact own_AJ_lt F1617
      have F1640 := own_AJ_ext F1617 E1629
      have lt1641 : a1453 < a1634 := by rw [g1635]; exact own_AJ_lt F1619
      have F1642 := own_AJ_ext F1619 E1629
      have lt1643 : a1495 < a1634 := by rw [g1635]; exact own_AJ_lt F1621
      have F1644 := own_AJ_ext F1621 E1629
      have lt1645 : a1539 < a1634 := by rw [g1635]; exact own_AJ_lt F1623
      have F1646 := own_AJ_ext F1623 E1629
      have lt1647 : a1585 < a1634 := by rw [g1635]; exact own_AJ_lt F1613
      have F1648 := own_AJ_ext F1613 E1629
      have sz1649 : h0.size ≤ h1626.size := Nat.le_trans sz1624 E1629.1
      refine own_st (G := T1625.setTop (mkF m 176 #[.val (.long p0), .second, .val (.long p1), .second, .val (.long p2), .second, .val (.long p3), .second, .val (.int p4), .val (.int p5), .val (.int W), .val (.ref a9), .val (.ref a971), .val (.ref a1453), .val (.ref a1495), .val (.ref a1539), .val (.ref a1585), .unset, .unset, .unset, .unset] [(.ref a1634), (.ref a1634)])) (fun _ kk => XS.dup X1627.here hx rfl (hb hby at_175) rfl rfl kk) ?_
      refine own_st (G := T1625.setTop (mkF m 178 #[.val (.long p0), .second, .val (.long p1), .second, .val (.long p2), .second, .val (.long p3), .second, .val (.int p4), .val (.int p5), .val (.int W), .val (.ref a9), .val (.ref a971), .val (.ref a1453), .val (.ref a1495), .val (.ref a1539), .val (.ref a1585), .unset, .unset, .unset, .unset] [(.int W), (.ref a1634), (.ref a1634)])) (fun _ kk => XS.iload X1627.here hx rfl (hb hby at_176) rfl kk) ?_
      have la : a1634 < h1626.size := (O1636).1.lt
      refine own_callI X1627 hx hZ (y := (⟨"com/example/libbuchi/libbuchi/automata/PackedStates", "<init>", "(I)V"⟩ : MethodName)) (b := a1634) (as' := [(.int W)]) rfl hown (own_w hw 4 rfl) (own_w hw 5 rfl) (own_w hw 6 rfl) (own_w hw 3 rfl) (by decide) (own_ini l Z a0 hw [] W a1634 h1626 n0 ga O1636 hW) 1 (by decide) (by decide) (by decide) (by decide) (rest := [(.ref a1634)]) (by rw [hml]; rfl) (lenOf (by decide : parseMethodDescriptor "(I)V" = some ⟨[.int], none⟩) rfl) rfl (Nat.le_of_eq rfl) (hb hby at_178) e1628 ?_
      intro T1659 L1660 v1662 X1661 hQ
      obtain ⟨rfl, N1650', wa1652, sa1653, g1657, g1658, K1651, O1654, Fw1655, Fs1656⟩ := hQ
      show own_Out _ _ _ _ (T1659.setTop (mkF m 181 #[.val (.long p0), .second, .val (.long p1), .second, .val (.long p2), .second, .val (.long p3), .second, .val (.int p4), .val (.int p5), .val (.int W), .val (.ref a9), .val (.ref a971), .val (.ref a1453), .val (.ref a1495), .val (.ref a1539), .val (.ref a1585), .unset, .unset, .unset, .unset] [(.ref a1634)]))
      have N1650 := Fr.app N1612 N1650'
      have gwa : n0 ≤ wa1652 := Nat.le_trans Z0 (Nat.le_trans sz1649 g1657)
      have gsa : n0 ≤ sa1653 := Nat.le_trans gwa (Nat.le_of_lt g1658)
      have F1663 := own_AJ_keep F1638 K1651 (ninS (own_ne (by omega)) (nin0))
      have F1664 := own_AJ_keep F1640 K1651 (ninS (own_ne (by omega)) (nin0))
      have F1665 := own_AJ_keep F1642 K1651 (ninS (own_ne (by omega)) (nin0))
      have F1666 := own_AJ_keep F1644 K1651 (ninS (own_ne (by omega)) (nin0))
      have F1667 := own_AJ_keep F1646 K1651 (ninS (own_ne (by omega)) (nin0))
      have F1668 := own_AJ_keep F1648 K1651 (ninS (own_ne (by omega)) (nin0))
      have hK0 : own_K (0 : Int32) 0 := ⟨by decide, by decide⟩
      have hS0 : own_SI (fun _ => 0) (0 : Int32) := ⟨fun _ _ => ⟨(by decide : (0 : Int) ≤ (0 : Int32).toInt), (by decide : (0 : Int32).toInt ≤ (0 : Int32).toInt)⟩, fun _ _ _ _ _ z => absurd rfl z⟩
      refine own_st (G := T1659.setTop (mkF m 183 #[.val (.long p0), .second, .val (.long p1), .second, .val (.long p2), .second, .val (.long p3), .second, .val (.int p4), .val (.int p5), .val (.int W), .val (.ref a9), .val (.ref a971), .val (.ref a1453), .val (.ref a1495), .val (.ref a1539), .val (.ref a1585), .val (.ref a1634), .unset, .unset, .unset] [])) (fun _ kk => XS.astore X1661.here hx rfl (hb hby at_181) rfl rfl (l' := #[.val (.long p0), .second, .val (.long p1), .second, .val (.long p2), .second, .val (.long p3), .second, .val (.int p4), .val (.int p5), .val (.int W), .val (.ref a9), .val (.ref a971), .val (.ref a1453), .val (.ref a1495), .val (.ref a1539), .val (.ref a1585), .val (.ref a1634), .unset, .unset, .unset]) rfl kk) ?_
      refine own_st (G := T1659.setTop (mkF m 185 #[.val (.long p0), .second, .val (.long p1), .second, .val (.long p2), .second, .val (.long p3), .second, .val (.int p4), .val (.int p5), .val (.int W), .val (.ref a9), .val (.ref a971), .val (.ref a1453), .val (.ref a1495), .val (.ref a1539), .val (.ref a1585), .val (.ref a1634), .unset, .unset, .unset] [(.ref a1634)])) (fun _ kk => XS.aload X1661.here hx rfl (hb hby at_183) rfl rfl kk) ?_
      refine own_st (G := T1659.setTop (mkF m 187 #[.val (.long p0), .second, .val (.long p1), .second, .val (.long p2), .second, .val (.long p3), .second, .val (.int p4), .val (.int p5), .val (.int W), .val (.ref a9), .val (.ref a971), .val (.ref a1453), .val (.ref a1495), .val (.ref a1539), .val (.ref a1585), .val (.ref a1634), .unset, .unset, .unset] [(.ref a9), (.ref a1634)])) (fun _ kk => XS.aload X1661.here hx rfl (hb hby at_185) rfl rfl kk) ?_
      refine own_callV X1661 hx hZ (y := (⟨"com/example/libbuchi/libbuchi/automata/PackedStates", "add", "([J)I"⟩ : MethodName)) (b := a1634) (as' := [(.ref a9)]) hown (own_w hw 17 rfl) (own_w hw 18 rfl) (own_w hw 20 rfl) (own_w hw 19 rfl) (own_w hw 21 rfl) (own_w hw 3 rfl) (by decide) (own_add l Z a0 hw [] a1634 a9 wa1652 sa1653 W (0 : Int32) (fun _ => 0) (own_f3 p0 p1 p2) (fun _ => 0) T1659.heap n0 ga gwa gsa (own_ne (by omega)) (own_ne (by omega)) (own_ne (by omega)) O1654 Fw1655 Fs1656 F1663 hW ⟨hK0.1, Int.le_trans hK0.2 (by decide)⟩ hS0) (O1654).1 0 (by decide) (by decide) (by decide) (by decide) (rest := []) (by rw [hml]; rfl) (lenOf (by decide : parseMethodDescriptor "([J)I" = some ⟨[.array (.long)], some (.int)⟩) rfl) rfl (Nat.le_of_eq rfl) (hb hby at_187) rfl ?_
      intro T1679 L1680 v1682 X1681 hQ
      obtain ⟨r1671, k1672, fw1673, fs1674, rfl, N1669', K1670, O1675, Fw1676, Fs1677, R1678⟩ := hQ
      show own_Out _ _ _ _ (T1679.setTop (mkF m 190 #[.val (.long p0), .second, .val (.long p1), .second, .val (.long p2), .second, .val (.long p3), .second, .val (.int p4), .val (.int p5), .val (.int W), .val (.ref a9), .val (.ref a971), .val (.ref a1453), .val (.ref a1495), .val (.ref a1539), .val (.ref a1585), .val (.ref a1634), .unset, .unset, .unset] [(.int r1671)]))
      have N1669 := Fr.app N1650 N1669'
      have F1683 := own_AJ_keep F1663 K1670 (ninS (own_ne (by omega)) (ninS (own_ne (by omega)) (ninS (own_ne (by omega)) (nin0))))
      have F1684 := own_AJ_keep F1664 K1670 (ninS (own_ne (by omega)) (ninS (own_ne (by omega)) (ninS (own_ne (by omega)) (nin0))))
      have F1685 := own_AJ_keep F1665 K1670 (ninS (own_ne (by omega)) (ninS (own_ne (by omega)) (ninS (own_ne (by omega)) (nin0))))
      have F1686 := own_AJ_keep F1666 K1670 (ninS (own_ne (by omega)) (ninS (own_ne (by omega)) (ninS (own_ne (by omega)) (nin0))))
      have F1687 := own_AJ_keep F1667 K1670 (ninS (own_ne (by omega)) (ninS (own_ne (by omega)) (ninS (own_ne (by omega)) (nin0))))
      have F1688 := own_AJ_keep F1668 K1670 (ninS (own_ne (by omega)) (ninS (own_ne (by omega)) (ninS (own_ne (by omega)) (nin0))))
      have hK1689 : own_K k1672 1 := own_K_succ hK0 (by decide) R1678.1
      have at1690 := own_at_of hW R1678.2.2.2.1
      refine own_st (G := T1679.setTop (mkF m 192 #[.val (.long p0), .second, .val (.long p1), .second, .val (.long p2), .second, .val (.long p3), .second, .val (.int p4), .val (.int p5), .val (.int W), .val (.ref a9), .val (.ref a971), .val (.ref a1453), .val (.ref a1495), .val (.ref a1539), .val (.ref a1585), .val (.ref a1634), .val (.int r1671), .unset, .unset] [])) (fun _ kk => XS.istore X1681.here hx rfl (hb hby at_190) rfl (l' := #[.val (.long p0), .second, .val (.long p1), .second, .val (.long p2), .second, .val (.long p3), .second, .val (.int p4), .val (.int p5), .val (.int W), .val (.ref a9), .val (.ref a971), .val (.ref a1453), .val (.ref a1495), .val (.ref a1539), .val (.ref a1585), .val (.ref a1634), .val (.int r1671), .unset, .unset]) rfl kk) ?_
      refine own_st (G := T1679.setTop (mkF m 194 #[.val (.long p0), .second, .val (.long p1), .second, .val (.long p2), .second, .val (.long p3), .second, .val (.int p4), .val (.int p5), .val (.int W), .val (.ref a9), .val (.ref a971), .val (.ref a1453), .val (.ref a1495), .val (.ref a1539), .val (.ref a1585), .val (.ref a1634), .val (.int r1671), .unset, .unset] [(.ref a1634)])) (fun _ kk => XS.aload X1681.here hx rfl (hb hby at_192) rfl rfl kk) ?_
      refine own_st (G := T1679.setTop (mkF m 196 #[.val (.long p0), .second, .val (.long p1), .second, .val (.long p2), .second, .val (.long p3), .second, .val (.int p4), .val (.int p5), .val (.int W), .val (.ref a9), .val (.ref a971), .val (.ref a1453), .val (.ref a1495), .val (.ref a1539), .val (.ref a1585), .val (.ref a1634), .val (.int r1671), .unset, .unset] [(.ref a971), (.ref a1634)])) (fun _ kk => XS.aload X1681.here hx rfl (hb hby at_194) rfl rfl kk) ?_
      refine own_callV X1681 hx hZ (y := (⟨"com/example/libbuchi/libbuchi/automata/PackedStates", "add", "([J)I"⟩ : MethodName)) (b := a1634) (as' := [(.ref a971)]) hown (own_w hw 17 rfl) (own_w hw 18 rfl) (own_w hw 20 rfl) (own_w hw 19 rfl) (own_w hw 21 rfl) (own_w hw 3 rfl) (by decide) (own_add l Z a0 hw [] a1634 a971 wa1652 sa1653 W k1672 fw1673 (own_f3 p0 p1 p2) fs1674 T1679.heap n0 ga gwa gsa (own_ne (by omega)) (own_ne (by omega)) (own_ne (by omega)) O1675 Fw1676 Fs1677 F1684 hW ⟨hK1689.1, Int.le_trans hK1689.2 (by decide)⟩ R1678.2.1) (O1675).1 0 (by decide) (by decide) (by decide) (by decide) (rest := []) (by rw [hml]; rfl) (lenOf (by decide : parseMethodDescriptor "([J)I" = some ⟨[.array (.long)], some (.int)⟩) rfl) rfl (Nat.le_of_eq rfl) (hb hby at_196) rfl ?_
      intro T1701 L1702 v1704 X1703 hQ
      obtain ⟨r1693, k1694, fw1695, fs1696, rfl, N1691', K1692, O1697, Fw1698, Fs1699, R1700⟩ := hQ
      show own_Out _ _ _ _ (T1701.setTop (mkF m 199 #[.val (.long p0), .second, .val (.long p1), .second, .val (.long p2), .second, .val (.long p3), .second, .val (.int p4), .val (.int p5), .val (.int W), .val (.ref a9), .val (.ref a971), .val (.ref a1453), .val (.ref a1495), .val (.ref a1539), .val (.ref a1585), .val (.ref a1634), .val (.int r1671), .unset, .unset] [(.int r1693)]))
      have N1691 := Fr.app N1669 N1691'
      have F1705 := own_AJ_keep F1683 K1692 (ninS (own_ne (by omega)) (ninS (own_ne (by omega)) (ninS (own_ne (by omega)) (nin0))))
      have F1706 := own_AJ_keep F1684 K1692 (ninS (own_ne (by omega)) (ninS (own_ne (by omega)) (ninS (own_ne (by omega)) (nin0))))
      have F1707 := own_AJ_keep F1685 K1692 (ninS (own_ne (by omega)) (ninS (own_ne (by omega)) (ninS (own_ne (by omega)) (nin0))))
      have F1708 := own_AJ_keep F1686 K1692 (ninS (own_ne (by omega)) (ninS (own_ne (by omega)) (ninS (own_ne (by omega)) (nin0))))
      have F1709 := own_AJ_keep F1687 K1692 (ninS (own_ne (by omega)) (ninS (own_ne (by omega)) (ninS (own_ne (by omega)) (nin0))))
      have F1710 := own_AJ_keep F1688 K1692 (ninS (own_ne (by omega)) (ninS (own_ne (by omega)) (ninS (own_ne (by omega)) (nin0))))
      have hK1711 : own_K k1694 2 := own_K_succ hK1689 (by decide) R1700.1
      have hr1712 := own_chain (k' := 0) R1678.2.2.2.2.2 R1678.2.2.2.2.1 R1700.2.2.1
      have lr1713 := Nat.lt_of_lt_of_le R1678.2.2.2.2.1 (own_kle hK1689 (by decide) R1700.1)
      have at1714 := own_at_of hW R1700.2.2.2.1
      refine own_st (G := T1701.setTop (mkF m 201 #[.val (.long p0), .second, .val (.long p1), .second, .val (.long p2), .second, .val (.long p3), .second, .val (.int p4), .val (.int p5), .val (.int W), .val (.ref a9), .val (.ref a971), .val (.ref a1453), .val (.ref a1495), .val (.ref a1539), .val (.ref a1585), .val (.ref a1634), .val (.int r1671), .val (.int r1693), .unset] [])) (fun _ kk => XS.istore X1703.here hx rfl (hb hby at_199) rfl (l' := #[.val (.long p0), .second, .val (.long p1), .second, .val (.long p2), .second, .val (.long p3), .second, .val (.int p4), .val (.int p5), .val (.int W), .val (.ref a9), .val (.ref a971), .val (.ref a1453), .val (.ref a1495), .val (.ref a1539), .val (.ref a1585), .val (.ref a1634), .val (.int r1671), .val (.int r1693), .unset]) rfl kk) ?_
      refine own_st (G := T1701.setTop (mkF m 203 #[.val (.long p0), .second, .val (.long p1), .second, .val (.long p2), .second, .val (.long p3), .second, .val (.int p4), .val (.int p5), .val (.int W), .val (.ref a9), .val (.ref a971), .val (.ref a1453), .val (.ref a1495), .val (.ref a1539), .val (.ref a1585), .val (.ref a1634), .val (.int r1671), .val (.int r1693), .unset] [(.ref a1634)])) (fun _ kk => XS.aload X1703.here hx rfl (hb hby at_201) rfl rfl kk) ?_
      refine own_st (G := T1701.setTop (mkF m 205 #[.val (.long p0), .second, .val (.long p1), .second, .val (.long p2), .second, .val (.long p3), .second, .val (.int p4), .val (.int p5), .val (.int W), .val (.ref a9), .val (.ref a971), .val (.ref a1453), .val (.ref a1495), .val (.ref a1539), .val (.ref a1585), .val (.ref a1634), .val (.int r1671), .val (.int r1693), .unset] [(.ref a1453), (.ref a1634)])) (fun _ kk => XS.aload X1703.here hx rfl (hb hby at_203) rfl rfl kk) ?_
      refine own_callV X1703 hx hZ (y := (⟨"com/example/libbuchi/libbuchi/automata/PackedStates", "add", "([J)I"⟩ : MethodName)) (b := a1634) (as' := [(.ref a1453)]) hown (own_w hw 17 rfl) (own_w hw 18 rfl) (own_w hw 20 rfl) (own_w hw 19 rfl) (own_w hw 21 rfl) (own_w hw 3 rfl) (by decide) (own_add l Z a0 hw [] a1634 a1453 wa1652 sa1653 W k1694 fw1695 (own_f3 p0 p1 p2) fs1696 T1701.heap n0 ga gwa gsa (own_ne (by omega)) (own_ne (by omega)) (own_ne (by omega)) O1697 Fw1698 Fs1699 F1707 hW ⟨hK1711.1, Int.le_trans hK1711.2 (by decide)⟩ R1700.2.1) (O1697).1 0 (by decide) (by decide) (by decide) (by decide) (rest := []) (by rw [hml]; rfl) (lenOf (by decide : parseMethodDescriptor "([J)I" = some ⟨[.array (.long)], some (.int)⟩) rfl) rfl (Nat.le_of_eq rfl) (hb hby at_205) rfl ?_
      intro T1725 L1726 v1728 X1727 hQ
      obtain ⟨r1717, k1718, fw1719, fs1720, rfl, N1715', K1716, O1721, Fw1722, Fs1723, R1724⟩ := hQ
      show own_Out _ _ _ _ (T1725.setTop (mkF m 208 #[.val (.long p0), .second, .val (.long p1), .second, .val (.long p2), .second, .val (.long p3), .second, .val (.int p4), .val (.int p5), .val (.int W), .val (.ref a9), .val (.ref a971), .val (.ref a1453), .val (.ref a1495), .val (.ref a1539), .val (.ref a1585), .val (.ref a1634), .val (.int r1671), .val (.int r1693), .unset] [(.int r1717)]))
      have N1715 := Fr.app N1691 N1715'
      have F1729 := own_AJ_keep F1705 K1716 (ninS (own_ne (by omega)) (ninS (own_ne (by omega)) (ninS (own_ne (by omega)) (nin0))))
      have F1730 := own_AJ_keep F1706 K1716 (ninS (own_ne (by omega)) (ninS (own_ne (by omega)) (ninS (own_ne (by omega)) (nin0))))
      have F1731 := own_AJ_keep F1707 K1716 (ninS (own_ne (by omega)) (ninS (own_ne (by omega)) (ninS (own_ne (by omega)) (nin0))))
      have F1732 := own_AJ_keep F1708 K1716 (ninS (own_ne (by omega)) (ninS (own_ne (by omega)) (ninS (own_ne (by omega)) (nin0))))
      have F1733 := own_AJ_keep F1709 K1716 (ninS (own_ne (by omega)) (ninS (own_ne (by omega)) (ninS (own_ne (by omega)) (nin0))))
      have F1734 := own_AJ_keep F1710 K1716 (ninS (own_ne (by omega)) (ninS (own_ne (by omega)) (ninS (own_ne (by omega)) (nin0))))
      have hK1735 : own_K k1718 3 := own_K_succ hK1711 (by decide) R1724.1
      have hr1736 := own_chain (k' := 0) hr1712 lr1713 R1724.2.2.1
      have lr1737 := Nat.lt_of_lt_of_le lr1713 (own_kle hK1711 (by decide) R1724.1)
      have hr1738 := own_chain (k' := 0) R1700.2.2.2.2.2 R1700.2.2.2.2.1 R1724.2.2.1
      have lr1739 := Nat.lt_of_lt_of_le R1700.2.2.2.2.1 (own_kle hK1711 (by decide) R1724.1)
      have at1740 := own_at_of hW R1724.2.2.2.1
      refine own_st (G := T1725.setTop (mkF m 210 #[.val (.long p0), .second, .val (.long p1), .second, .val (.long p2), .second, .val (.long p3), .second, .val (.int p4), .val (.int p5), .val (.int W), .val (.ref a9), .val (.ref a971), .val (.ref a1453), .val (.ref a1495), .val (.ref a1539), .val (.ref a1585), .val (.ref a1634), .val (.int r1671), .val (.int r1693), .val (.int r1717)] [])) (fun _ kk => XS.istore X1727.here hx rfl (hb hby at_208) rfl (l' := #[.val (.long p0), .second, .val (.long p1), .second, .val (.long p2), .second, .val (.long p3), .second, .val (.int p4), .val (.int p5), .val (.int W), .val (.ref a9), .val (.ref a971), .val (.ref a1453), .val (.ref a1495), .val (.ref a1539), .val (.ref a1585), .val (.ref a1634), .val (.int r1671), .val (.int r1693), .val (.int r1717)]) rfl kk) ?_
      refine own_st (G := T1725.setTop (mkF m 212 #[.val (.long p0), .second, .val (.long p1), .second, .val (.long p2), .second, .val (.long p3), .second, .val (.int p4), .val (.int p5), .val (.int W), .val (.ref a9), .val (.ref a971), .val (.ref a1453), .val (.ref a1495), .val (.ref a1539), .val (.ref a1585), .val (.ref a1634), .val (.int r1671), .val (.int r1693), .val (.int r1717)] [(.int p5)])) (fun _ kk => XS.iload X1727.here hx rfl (hb hby at_210) rfl kk) ?_
      refine own_st (G := T1725.setTop (mkF m 213 #[.val (.long p0), .second, .val (.long p1), .second, .val (.long p2), .second, .val (.long p3), .second, .val (.int p4), .val (.int p5), .val (.int W), .val (.ref a9), .val (.ref a971), .val (.ref a1453), .val (.ref a1495), .val (.ref a1539), .val (.ref a1585), .val (.ref a1634), .val (.int r1671), .val (.int r1693), .val (.int r1717)] [(.int (4 : Int32)), (.int p5)])) (fun _ kk => XT.iconstV X1727.here hx rfl (4 : Int32) (hb hby at_212) (by decide) kk) ?_
      refine own_st (G := T1725.setTop (mkF m 214 #[.val (.long p0), .second, .val (.long p1), .second, .val (.long p2), .second, .val (.long p3), .second, .val (.int p4), .val (.int p5), .val (.int W), .val (.ref a9), .val (.ref a971), .val (.ref a1453), .val (.ref a1495), .val (.ref a1539), .val (.ref a1585), .val (.ref a1634), .val (.int r1671), .val (.int r1693), .val (.int r1717)] [(.int (p5 &&& (4 : Int32)))])) (fun _ kk => XS.iand X1727.here hx rfl (hb hby at_213) rfl kk) ?_
      by_cases hc1741 : (p5 &&& (4 : Int32)) = (0 : Int32)
      · skip
        refine own_st (G := T1725.setTop (mkF m 247 #[.val (.long p0), .second, .val (.long p1), .second, .val (.long p2), .second, .val (.long p3), .second, .val (.int p4), .val (.int p5), .val (.int W), .val (.ref a9), .val (.ref a971), .val (.ref a1453), .val (.ref a1495), .val (.ref a1539), .val (.ref a1585), .val (.ref a1634), .val (.int r1671), .val (.int r1693), .val (.int r1717)] [])) (fun _ kk => XS.ifYes X1727.here hx rfl (pc0 := 214) (pc' := 247) rfl (hb hby at_214) rfl (XT.i0_eq_t hc1741) (by decide) (by decide) kk) ?_
        refine own_st (G := T1725.setTop (mkF m 249 #[.val (.long p0), .second, .val (.long p1), .second, .val (.long p2), .second, .val (.long p3), .second, .val (.int p4), .val (.int p5), .val (.int W), .val (.ref a9), .val (.ref a971), .val (.ref a1453), .val (.ref a1495), .val (.ref a1539), .val (.ref a1585), .val (.ref a1634), .val (.int r1671), .val (.int r1693), .val (.int r1717)] [(.ref a1634)])) (fun _ kk => XS.aload X1727.here hx rfl (hb hby at_247) rfl rfl kk) ?_
        refine own_st (G := T1725.setTop (mkF m 251 #[.val (.long p0), .second, .val (.long p1), .second, .val (.long p2), .second, .val (.long p3), .second, .val (.int p4), .val (.int p5), .val (.int W), .val (.ref a9), .val (.ref a971), .val (.ref a1453), .val (.ref a1495), .val (.ref a1539), .val (.ref a1585), .val (.ref a1634), .val (.int r1671), .val (.int r1693), .val (.int r1717)] [(.int r1671), (.ref a1634)])) (fun _ kk => XS.iload X1727.here hx rfl (hb hby at_249) rfl kk) ?_
        refine own_st (G := T1725.setTop (mkF m 253 #[.val (.long p0), .second, .val (.long p1), .second, .val (.long p2), .second, .val (.long p3), .second, .val (.int p4), .val (.int p5), .val (.int W), .val (.ref a9), .val (.ref a971), .val (.ref a1453), .val (.ref a1495), .val (.ref a1539), .val (.ref a1585), .val (.ref a1634), .val (.int r1671), .val (.int r1693), .val (.int r1717)] [(.ref a1495), (.int r1671), (.ref a1634)])) (fun _ kk => XS.aload X1727.here hx rfl (hb hby at_251) rfl rfl kk) ?_
        refine own_callV X1727 hx hZ (y := (⟨"com/example/libbuchi/libbuchi/automata/PackedStates", "get", "(I[J)V"⟩ : MethodName)) (b := a1634) (as' := [(.int r1671), (.ref a1495)]) hown (own_w hw 34 rfl) (own_w hw 35 rfl) (own_w hw 37 rfl) (own_w hw 36 rfl) (own_w hw 38 rfl) (own_w hw 3 rfl) (by decide) (own_get l Z a0 hw [] r1671 a1634 a1495 wa1652 sa1653 W k1718 fw1719 (own_f3 p3 p3 p3) T1725.heap n0 gea1495 O1721 Fw1722 F1732 hW at1690) (O1721).1 0 (by decide) (by decide) (by decide) (by decide) (rest := []) (by rw [hml]; rfl) (lenOf (by decide : parseMethodDescriptor "(I[J)V" = some ⟨[.int, .array (.long)], none⟩) rfl) rfl (Nat.le_of_eq rfl) (hb hby at_253) rfl ?_
        intro T1745 L1746 v1748 X1747 hQ
        obtain ⟨rfl, N1742', K1743, F1744⟩ := hQ
        show own_Out _ _ _ _ (T1745.setTop (mkF m 256 #[.val (.long p0), .second, .val (.long p1), .second, .val (.long p2), .second, .val (.long p3), .second, .val (.int p4), .val (.int p5), .val (.int W), .val (.ref a9), .val (.ref a971), .val (.ref a1453), .val (.ref a1495), .val (.ref a1539), .val (.ref a1585), .val (.ref a1634), .val (.int r1671), .val (.int r1693), .val (.int r1717)] []))
        have N1742 := Fr.app N1715 N1742'
        have F1749 := own_AJ_keep F1729 K1743 (ninS (own_ne (by omega)) (nin0))
        have F1750 := own_AJ_keep F1730 K1743 (ninS (own_ne (by omega)) (nin0))
        have F1751 := own_AJ_keep F1731 K1743 (ninS (own_ne (by omega)) (nin0))
        have F1752 := own_AJ_keep F1733 K1743 (ninS (own_ne (by omega)) (nin0))
        have F1753 := own_AJ_keep F1734 K1743 (ninS (own_ne (by omega)) (nin0))
        have O1754 := own_P_keep K1743 (ninS (own_ne (by omega)) (nin0)) O1721
        have Fw1755 := own_AJ_keep Fw1722 K1743 (ninS (own_ne (by omega)) (nin0))
        obtain ⟨gf1757, gq1758⟩ : ∃ z : Nat → Int64, z = (fun i => if 0 ≤ i ∧ i < 0 + W.toNatClampNeg then fw1719 (r1671.toNatClampNeg * W.toNatClampNeg + (i - 0)) else (own_f3 p3 p3 p3) i) := ⟨_, rfl⟩
        rw [← gq1758] at F1744
        have hm1756 := own_fin hW hr1736 (sn := p3) rfl rfl rfl gf1757 gq1758
        refine own_st (G := T1745.setTop (mkF m 258 #[.val (.long p0), .second, .val (.long p1), .second, .val (.long p2), .second, .val (.long p3), .second, .val (.int p4), .val (.int p5), .val (.int W), .val (.ref a9), .val (.ref a971), .val (.ref a1453), .val (.ref a1495), .val (.ref a1539), .val (.ref a1585), .val (.ref a1634), .val (.int r1671), .val (.int r1693), .val (.int r1717)] [(.ref a1634)])) (fun _ kk => XS.aload X1747.here hx rfl (hb hby at_256) rfl rfl kk) ?_
        refine own_st (G := T1745.setTop (mkF m 260 #[.val (.long p0), .second, .val (.long p1), .second, .val (.long p2), .second, .val (.long p3), .second, .val (.int p4), .val (.int p5), .val (.int W), .val (.ref a9), .val (.ref a971), .val (.ref a1453), .val (.ref a1495), .val (.ref a1539), .val (.ref a1585), .val (.ref a1634), .val (.int r1671), .val (.int r1693), .val (.int r1717)] [(.int r1693), (.ref a1634)])) (fun _ kk => XS.iload X1747.here hx rfl (hb hby at_258) rfl kk) ?_
        refine own_st (G := T1745.setTop (mkF m 262 #[.val (.long p0), .second, .val (.long p1), .second, .val (.long p2), .second, .val (.long p3), .second, .val (.int p4), .val (.int p5), .val (.int W), .val (.ref a9), .val (.ref a971), .val (.ref a1453), .val (.ref a1495), .val (.ref a1539), .val (.ref a1585), .val (.ref a1634), .val (.int r1671), .val (.int r1693), .val (.int r1717)] [(.ref a1539), (.int r1693), (.ref a1634)])) (fun _ kk => XS.aload X1747.here hx rfl (hb hby at_260) rfl rfl kk) ?_
        refine own_callV X1747 hx hZ (y := (⟨"com/example/libbuchi/libbuchi/automata/PackedStates", "get", "(I[J)V"⟩ : MethodName)) (b := a1634) (as' := [(.int r1693), (.ref a1539)]) hown (own_w hw 34 rfl) (own_w hw 35 rfl) (own_w hw 37 rfl) (own_w hw 36 rfl) (own_w hw 38 rfl) (own_w hw 3 rfl) (by decide) (own_get l Z a0 hw [] r1693 a1634 a1539 wa1652 sa1653 W k1718 fw1719 (own_f3 p3 p3 p3) T1745.heap n0 gea1539 O1754 Fw1755 F1752 hW at1714) (O1754).1 0 (by decide) (by decide) (by decide) (by decide) (rest := []) (by rw [hml]; rfl) (lenOf (by decide : parseMethodDescriptor "(I[J)V" = some ⟨[.int, .array (.long)], none⟩) rfl) rfl (Nat.le_of_eq rfl) (hb hby at_262) rfl ?_
        intro T1762 L1763 v1765 X1764 hQ
        obtain ⟨rfl, N1759', K1760, F1761⟩ := hQ
        show own_Out _ _ _ _ (T1762.setTop (mkF m 265 #[.val (.long p0), .second, .val (.long p1), .second, .val (.long p2), .second, .val (.long p3), .second, .val (.int p4), .val (.int p5), .val (.int W), .val (.ref a9), .val (.ref a971), .val (.ref a1453), .val (.ref a1495), .val (.ref a1539), .val (.ref a1585), .val (.ref a1634), .val (.int r1671), .val (.int r1693), .val (.int r1717)] []))
        have N1759 := Fr.app N1742 N1759'
        have F1766 := own_AJ_keep F1749 K1760 (ninS (own_ne (by omega)) (nin0))
        have F1767 := own_AJ_keep F1750 K1760 (ninS (own_ne (by omega)) (nin0))
        have F1768 := own_AJ_keep F1751 K1760 (ninS (own_ne (by omega)) (nin0))
        have F1769 := own_AJ_keep F1744 K1760 (ninS (own_ne (by omega)) (nin0))
        have F1770 := own_AJ_keep F1753 K1760 (ninS (own_ne (by omega)) (nin0))
        have O1771 := own_P_keep K1760 (ninS (own_ne (by omega)) (nin0)) O1754
        have Fw1772 := own_AJ_keep Fw1755 K1760 (ninS (own_ne (by omega)) (nin0))
        obtain ⟨gf1774, gq1775⟩ : ∃ z : Nat → Int64, z = (fun i => if 0 ≤ i ∧ i < 0 + W.toNatClampNeg then fw1719 (r1693.toNatClampNeg * W.toNatClampNeg + (i - 0)) else (own_f3 p3 p3 p3) i) := ⟨_, rfl⟩
        rw [← gq1775] at F1761
        have hm1773 := own_fin hW hr1738 (sn := p3) rfl rfl rfl gf1774 gq1775
        refine own_st (G := T1762.setTop (mkF m 267 #[.val (.long p0), .second, .val (.long p1), .second, .val (.long p2), .second, .val (.long p3), .second, .val (.int p4), .val (.int p5), .val (.int W), .val (.ref a9), .val (.ref a971), .val (.ref a1453), .val (.ref a1495), .val (.ref a1539), .val (.ref a1585), .val (.ref a1634), .val (.int r1671), .val (.int r1693), .val (.int r1717)] [(.ref a1634)])) (fun _ kk => XS.aload X1764.here hx rfl (hb hby at_265) rfl rfl kk) ?_
        refine own_st (G := T1762.setTop (mkF m 269 #[.val (.long p0), .second, .val (.long p1), .second, .val (.long p2), .second, .val (.long p3), .second, .val (.int p4), .val (.int p5), .val (.int W), .val (.ref a9), .val (.ref a971), .val (.ref a1453), .val (.ref a1495), .val (.ref a1539), .val (.ref a1585), .val (.ref a1634), .val (.int r1671), .val (.int r1693), .val (.int r1717)] [(.int r1717), (.ref a1634)])) (fun _ kk => XS.iload X1764.here hx rfl (hb hby at_267) rfl kk) ?_
        refine own_st (G := T1762.setTop (mkF m 271 #[.val (.long p0), .second, .val (.long p1), .second, .val (.long p2), .second, .val (.long p3), .second, .val (.int p4), .val (.int p5), .val (.int W), .val (.ref a9), .val (.ref a971), .val (.ref a1453), .val (.ref a1495), .val (.ref a1539), .val (.ref a1585), .val (.ref a1634), .val (.int r1671), .val (.int r1693), .val (.int r1717)] [(.ref a1585), (.int r1717), (.ref a1634)])) (fun _ kk => XS.aload X1764.here hx rfl (hb hby at_269) rfl rfl kk) ?_
        refine own_callV X1764 hx hZ (y := (⟨"com/example/libbuchi/libbuchi/automata/PackedStates", "get", "(I[J)V"⟩ : MethodName)) (b := a1634) (as' := [(.int r1717), (.ref a1585)]) hown (own_w hw 34 rfl) (own_w hw 35 rfl) (own_w hw 37 rfl) (own_w hw 36 rfl) (own_w hw 38 rfl) (own_w hw 3 rfl) (by decide) (own_get l Z a0 hw [] r1717 a1634 a1585 wa1652 sa1653 W k1718 fw1719 (own_f3 p3 p3 p3) T1762.heap n0 gea1585 O1771 Fw1772 F1770 hW at1740) (O1771).1 0 (by decide) (by decide) (by decide) (by decide) (rest := []) (by rw [hml]; rfl) (lenOf (by decide : parseMethodDescriptor "(I[J)V" = some ⟨[.int, .array (.long)], none⟩) rfl) rfl (Nat.le_of_eq rfl) (hb hby at_271) rfl ?_
        intro T1779 L1780 v1782 X1781 hQ
        obtain ⟨rfl, N1776', K1777, F1778⟩ := hQ
        show own_Out _ _ _ _ (T1779.setTop (mkF m 274 #[.val (.long p0), .second, .val (.long p1), .second, .val (.long p2), .second, .val (.long p3), .second, .val (.int p4), .val (.int p5), .val (.int W), .val (.ref a9), .val (.ref a971), .val (.ref a1453), .val (.ref a1495), .val (.ref a1539), .val (.ref a1585), .val (.ref a1634), .val (.int r1671), .val (.int r1693), .val (.int r1717)] []))
        have N1776 := Fr.app N1759 N1776'
        have F1783 := own_AJ_keep F1766 K1777 (ninS (own_ne (by omega)) (nin0))
        have F1784 := own_AJ_keep F1767 K1777 (ninS (own_ne (by omega)) (nin0))
        have F1785 := own_AJ_keep F1768 K1777 (ninS (own_ne (by omega)) (nin0))
        have F1786 := own_AJ_keep F1769 K1777 (ninS (own_ne (by omega)) (nin0))
        have F1787 := own_AJ_keep F1761 K1777 (ninS (own_ne (by omega)) (nin0))
        have O1788 := own_P_keep K1777 (ninS (own_ne (by omega)) (nin0)) O1771
        have Fw1789 := own_AJ_keep Fw1772 K1777 (ninS (own_ne (by omega)) (nin0))
        obtain ⟨gf1791, gq1792⟩ : ∃ z : Nat → Int64, z = (fun i => if 0 ≤ i ∧ i < 0 + W.toNatClampNeg then fw1719 (r1717.toNatClampNeg * W.toNatClampNeg + (i - 0)) else (own_f3 p3 p3 p3) i) := ⟨_, rfl⟩
        rw [← gq1792] at F1778
        have hm1790 := own_fin hW R1724.2.2.2.2.2 (sn := p3) rfl rfl rfl gf1791 gq1792
        refine own_st (G := T1779.setTop (mkF m 276 #[.val (.long p0), .second, .val (.long p1), .second, .val (.long p2), .second, .val (.long p3), .second, .val (.int p4), .val (.int p5), .val (.int W), .val (.ref a9), .val (.ref a971), .val (.ref a1453), .val (.ref a1495), .val (.ref a1539), .val (.ref a1585), .val (.ref a1634), .val (.int r1671), .val (.int r1693), .val (.int r1717)] [(.ref a1495)])) (fun _ kk => XS.aload X1781.here hx rfl (hb hby at_274) rfl rfl kk) ?_
        refine own_st (G := T1779.setTop (mkF m 278 #[.val (.long p0), .second, .val (.long p1), .second, .val (.long p2), .second, .val (.long p3), .second, .val (.int p4), .val (.int p5), .val (.int W), .val (.ref a9), .val (.ref a971), .val (.ref a1453), .val (.ref a1495), .val (.ref a1539), .val (.ref a1585), .val (.ref a1634), .val (.int r1671), .val (.int r1693), .val (.int r1717)] [(.ref a9), (.ref a1495)])) (fun _ kk => XS.aload X1781.here hx rfl (hb hby at_276) rfl rfl kk) ?_
        refine own_st (G := T1779.setTop (mkF m 280 #[.val (.long p0), .second, .val (.long p1), .second, .val (.long p2), .second, .val (.long p3), .second, .val (.int p4), .val (.int p5), .val (.int W), .val (.ref a9), .val (.ref a971), .val (.ref a1453), .val (.ref a1495), .val (.ref a1539), .val (.ref a1585), .val (.ref a1634), .val (.int r1671), .val (.int r1693), .val (.int r1717)] [(.int W), (.ref a9), (.ref a1495)])) (fun _ kk => XS.iload X1781.here hx rfl (hb hby at_278) rfl kk) ?_
        refine own_st (G := T1779.setTop (mkF m 282 #[.val (.long p0), .second, .val (.long p1), .second, .val (.long p2), .second, .val (.long p3), .second, .val (.int p4), .val (.int p5), .val (.int W), .val (.ref a9), .val (.ref a971), .val (.ref a1453), .val (.ref a1495), .val (.ref a1539), .val (.ref a1585), .val (.ref a1634), .val (.int r1671), .val (.int r1693), .val (.int r1717)] [(.long p3), (.int W), (.ref a9), (.ref a1495)])) (fun _ kk => XS.lload X1781.here hx rfl (hb hby at_280) rfl kk) ?_
        refine own_callS X1781 hx hZ (y := (⟨"com/example/libbuchi/libbuchi/automata/PackedStatesGetPinLaw", "matches", "([J[JIJ)Z"⟩ : MethodName)) (as' := [(.ref a1495), (.ref a9), (.int W), (.long p3)]) hown (own_w hw 39 rfl) (own_w hw 40 rfl) (own_w hw 41 rfl) (own_w hw 42 rfl) (by decide) (own_mat l Z a0 hw [] W p3 a1495 a9 gf1757 (own_f3 p0 p1 p2) T1779.heap n0 F1786 F1783 hm1756.1 hm1756.2.1 hm1756.2.2) 0 (by decide) (by decide) (by decide) (by decide) (rest := []) (by rw [hml]; rfl) (lenOf (by decide : parseMethodDescriptor "([J[JIJ)Z" = some ⟨[.array (.long), .array (.long), .int, .long], some (.boolean)⟩) rfl) rfl (Nat.le_of_eq rfl) (hb hby at_282) rfl ?_
        intro T1796 L1797 v1799 X1798 hQ
        obtain ⟨rfl, rfl, eq1795⟩ := hQ
        show own_Out _ _ _ _ (T1796.setTop (mkF m 285 #[.val (.long p0), .second, .val (.long p1), .second, .val (.long p2), .second, .val (.long p3), .second, .val (.int p4), .val (.int p5), .val (.int W), .val (.ref a9), .val (.ref a971), .val (.ref a1453), .val (.ref a1495), .val (.ref a1539), .val (.ref a1585), .val (.ref a1634), .val (.int r1671), .val (.int r1693), .val (.int r1717)] [(.int (1 : Int32))]))
        have N1793 := Fr.app N1776 (Fr.nil n0)
        refine own_st (G := T1796.setTop (mkF m 288 #[.val (.long p0), .second, .val (.long p1), .second, .val (.long p2), .second, .val (.long p3), .second, .val (.int p4), .val (.int p5), .val (.int W), .val (.ref a9), .val (.ref a971), .val (.ref a1453), .val (.ref a1495), .val (.ref a1539), .val (.ref a1585), .val (.ref a1634), .val (.int r1671), .val (.int r1693), .val (.int r1717)] [])) (fun _ kk => XS.ifNo X1798.here hx rfl (hb hby at_285) rfl (XT.i0_eq_f (by decide : ¬ (1 : Int32) = (0 : Int32))) kk) ?_
        refine own_st (G := T1796.setTop (mkF m 290 #[.val (.long p0), .second, .val (.long p1), .second, .val (.long p2), .second, .val (.long p3), .second, .val (.int p4), .val (.int p5), .val (.int W), .val (.ref a9), .val (.ref a971), .val (.ref a1453), .val (.ref a1495), .val (.ref a1539), .val (.ref a1585), .val (.ref a1634), .val (.int r1671), .val (.int r1693), .val (.int r1717)] [(.ref a1539)])) (fun _ kk => XS.aload X1798.here hx rfl (hb hby at_288) rfl rfl kk) ?_
        refine own_st (G := T1796.setTop (mkF m 292 #[.val (.long p0), .second, .val (.long p1), .second, .val (.long p2), .second, .val (.long p3), .second, .val (.int p4), .val (.int p5), .val (.int W), .val (.ref a9), .val (.ref a971), .val (.ref a1453), .val (.ref a1495), .val (.ref a1539), .val (.ref a1585), .val (.ref a1634), .val (.int r1671), .val (.int r1693), .val (.int r1717)] [(.ref a971), (.ref a1539)])) (fun _ kk => XS.aload X1798.here hx rfl (hb hby at_290) rfl rfl kk) ?_
        refine own_st (G := T1796.setTop (mkF m 294 #[.val (.long p0), .second, .val (.long p1), .second, .val (.long p2), .second, .val (.long p3), .second, .val (.int p4), .val (.int p5), .val (.int W), .val (.ref a9), .val (.ref a971), .val (.ref a1453), .val (.ref a1495), .val (.ref a1539), .val (.ref a1585), .val (.ref a1634), .val (.int r1671), .val (.int r1693), .val (.int r1717)] [(.int W), (.ref a971), (.ref a1539)])) (fun _ kk => XS.iload X1798.here hx rfl (hb hby at_292) rfl kk) ?_
        refine own_st (G := T1796.setTop (mkF m 296 #[.val (.long p0), .second, .val (.long p1), .second, .val (.long p2), .second, .val (.long p3), .second, .val (.int p4), .val (.int p5), .val (.int W), .val (.ref a9), .val (.ref a971), .val (.ref a1453), .val (.ref a1495), .val (.ref a1539), .val (.ref a1585), .val (.ref a1634), .val (.int r1671), .val (.int r1693), .val (.int r1717)] [(.long p3), (.int W), (.ref a971), (.ref a1539)])) (fun _ kk => XS.lload X1798.here hx rfl (hb hby at_294) rfl kk) ?_
        refine own_callS X1798 hx hZ (y := (⟨"com/example/libbuchi/libbuchi/automata/PackedStatesGetPinLaw", "matches", "([J[JIJ)Z"⟩ : MethodName)) (as' := [(.ref a1539), (.ref a971), (.int W), (.long p3)]) hown (own_w hw 39 rfl) (own_w hw 40 rfl) (own_w hw 41 rfl) (own_w hw 42 rfl) (by decide) (own_mat l Z a0 hw [] W p3 a1539 a971 gf1774 (own_f3 p0 p1 p2) T1779.heap n0 F1787 F1784 hm1773.1 hm1773.2.1 hm1773.2.2) 0 (by decide) (by decide) (by decide) (by decide) (rest := []) (by rw [hml]; rfl) (lenOf (by decide : parseMethodDescriptor "([J[JIJ)Z" = some ⟨[.array (.long), .array (.long), .int, .long], some (.boolean)⟩) rfl) rfl (Nat.le_of_eq rfl) (hb hby at_296) eq1795 ?_
        intro T1803 L1804 v1806 X1805 hQ
        obtain ⟨rfl, rfl, eq1802⟩ := hQ
        show own_Out _ _ _ _ (T1803.setTop (mkF m 299 #[.val (.long p0), .second, .val (.long p1), .second, .val (.long p2), .second, .val (.long p3), .second, .val (.int p4), .val (.int p5), .val (.int W), .val (.ref a9), .val (.ref a971), .val (.ref a1453), .val (.ref a1495), .val (.ref a1539), .val (.ref a1585), .val (.ref a1634), .val (.int r1671), .val (.int r1693), .val (.int r1717)] [(.int (1 : Int32))]))
        have N1800 := Fr.app N1793 (Fr.nil n0)
        refine own_st (G := T1803.setTop (mkF m 302 #[.val (.long p0), .second, .val (.long p1), .second, .val (.long p2), .second, .val (.long p3), .second, .val (.int p4), .val (.int p5), .val (.int W), .val (.ref a9), .val (.ref a971), .val (.ref a1453), .val (.ref a1495), .val (.ref a1539), .val (.ref a1585), .val (.ref a1634), .val (.int r1671), .val (.int r1693), .val (.int r1717)] [])) (fun _ kk => XS.ifNo X1805.here hx rfl (hb hby at_299) rfl (XT.i0_eq_f (by decide : ¬ (1 : Int32) = (0 : Int32))) kk) ?_
        refine own_st (G := T1803.setTop (mkF m 304 #[.val (.long p0), .second, .val (.long p1), .second, .val (.long p2), .second, .val (.long p3), .second, .val (.int p4), .val (.int p5), .val (.int W), .val (.ref a9), .val (.ref a971), .val (.ref a1453), .val (.ref a1495), .val (.ref a1539), .val (.ref a1585), .val (.ref a1634), .val (.int r1671), .val (.int r1693), .val (.int r1717)] [(.ref a1585)])) (fun _ kk => XS.aload X1805.here hx rfl (hb hby at_302) rfl rfl kk) ?_
        refine own_st (G := T1803.setTop (mkF m 306 #[.val (.long p0), .second, .val (.long p1), .second, .val (.long p2), .second, .val (.long p3), .second, .val (.int p4), .val (.int p5), .val (.int W), .val (.ref a9), .val (.ref a971), .val (.ref a1453), .val (.ref a1495), .val (.ref a1539), .val (.ref a1585), .val (.ref a1634), .val (.int r1671), .val (.int r1693), .val (.int r1717)] [(.ref a1453), (.ref a1585)])) (fun _ kk => XS.aload X1805.here hx rfl (hb hby at_304) rfl rfl kk) ?_
        refine own_st (G := T1803.setTop (mkF m 308 #[.val (.long p0), .second, .val (.long p1), .second, .val (.long p2), .second, .val (.long p3), .second, .val (.int p4), .val (.int p5), .val (.int W), .val (.ref a9), .val (.ref a971), .val (.ref a1453), .val (.ref a1495), .val (.ref a1539), .val (.ref a1585), .val (.ref a1634), .val (.int r1671), .val (.int r1693), .val (.int r1717)] [(.int W), (.ref a1453), (.ref a1585)])) (fun _ kk => XS.iload X1805.here hx rfl (hb hby at_306) rfl kk) ?_
        refine own_st (G := T1803.setTop (mkF m 310 #[.val (.long p0), .second, .val (.long p1), .second, .val (.long p2), .second, .val (.long p3), .second, .val (.int p4), .val (.int p5), .val (.int W), .val (.ref a9), .val (.ref a971), .val (.ref a1453), .val (.ref a1495), .val (.ref a1539), .val (.ref a1585), .val (.ref a1634), .val (.int r1671), .val (.int r1693), .val (.int r1717)] [(.long p3), (.int W), (.ref a1453), (.ref a1585)])) (fun _ kk => XS.lload X1805.here hx rfl (hb hby at_308) rfl kk) ?_
        refine own_callS X1805 hx hZ (y := (⟨"com/example/libbuchi/libbuchi/automata/PackedStatesGetPinLaw", "matches", "([J[JIJ)Z"⟩ : MethodName)) (as' := [(.ref a1585), (.ref a1453), (.int W), (.long p3)]) hown (own_w hw 39 rfl) (own_w hw 40 rfl) (own_w hw 41 rfl) (own_w hw 42 rfl) (by decide) (own_mat l Z a0 hw [] W p3 a1585 a1453 gf1791 (own_f3 p0 p1 p2) T1779.heap n0 F1778 F1785 hm1790.1 hm1790.2.1 hm1790.2.2) 0 (by decide) (by decide) (by decide) (by decide) (rest := []) (by rw [hml]; rfl) (lenOf (by decide : parseMethodDescriptor "([J[JIJ)Z" = some ⟨[.array (.long), .array (.long), .int, .long], some (.boolean)⟩) rfl) rfl (Nat.le_of_eq rfl) (hb hby at_310) eq1802 ?_
        intro T1810 L1811 v1813 X1812 hQ
        obtain ⟨rfl, rfl, eq1809⟩ := hQ
        show own_Out _ _ _ _ (T1810.setTop (mkF m 313 #[.val (.long p0), .second, .val (.long p1), .second, .val (.long p2), .second, .val (.long p3), .second, .val (.int p4), .val (.int p5), .val (.int W), .val (.ref a9), .val (.ref a971), .val (.ref a1453), .val (.ref a1495), .val (.ref a1539), .val (.ref a1585), .val (.ref a1634), .val (.int r1671), .val (.int r1693), .val (.int r1717)] [(.int (1 : Int32))]))
        have N1807 := Fr.app N1800 (Fr.nil n0)
        refine own_st (G := T1810.setTop (mkF m 316 #[.val (.long p0), .second, .val (.long p1), .second, .val (.long p2), .second, .val (.long p3), .second, .val (.int p4), .val (.int p5), .val (.int W), .val (.ref a9), .val (.ref a971), .val (.ref a1453), .val (.ref a1495), .val (.ref a1539), .val (.ref a1585), .val (.ref a1634), .val (.int r1671), .val (.int r1693), .val (.int r1717)] [])) (fun _ kk => XS.ifNo X1812.here hx rfl (hb hby at_313) rfl (XT.i0_eq_f (by decide : ¬ (1 : Int32) = (0 : Int32))) kk) ?_
        refine own_st (G := T1810.setTop (mkF m 317 #[.val (.long p0), .second, .val (.long p1), .second, .val (.long p2), .second, .val (.long p3), .second, .val (.int p4), .val (.int p5), .val (.int W), .val (.ref a9), .val (.ref a971), .val (.ref a1453), .val (.ref a1495), .val (.ref a1539), .val (.ref a1585), .val (.ref a1634), .val (.int r1671), .val (.int r1693), .val (.int r1717)] [(.int (1 : Int32))])) (fun _ kk => XT.iconstV X1812.here hx rfl (1 : Int32) (hb hby at_316) (by decide) kk) ?_
        refine own_st (G := T1810.setTop (mkF m 321 #[.val (.long p0), .second, .val (.long p1), .second, .val (.long p2), .second, .val (.long p3), .second, .val (.int p4), .val (.int p5), .val (.int W), .val (.ref a9), .val (.ref a971), .val (.ref a1453), .val (.ref a1495), .val (.ref a1539), .val (.ref a1585), .val (.ref a1634), .val (.int r1671), .val (.int r1693), .val (.int r1717)] [(.int (1 : Int32))])) (fun _ kk => XS.goto X1812.here hx rfl (pc0 := 317) (pc' := 321) rfl (hb hby at_317) (by decide) (by decide) kk) ?_
        refine own_retB X1812 hx hret (by simp) hlk (hb hby at_321) (by decide) (by decide) ?_
        exact ⟨rfl, N1807⟩
      · skip
        refine own_st (G := T1725.setTop (mkF m 217 #[.val (.long p0), .second, .val (.long p1), .second, .val (.long p2), .second, .val (.long p3), .second, .val (.int p4), .val (.int p5), .val (.int W), .val (.ref a9), .val (.ref a971), .val (.ref a1453), .val (.ref a1495), .val (.ref a1539), .val (.ref a1585), .val (.ref a1634), .val (.int r1671), .val (.int r1693), .val (.int r1717)] [])) (fun _ kk => XS.ifNo X1727.here hx rfl (hb hby at_214) rfl (XT.i0_eq_f hc1741) kk) ?_
        refine own_st (G := T1725.setTop (mkF m 219 #[.val (.long p0), .second, .val (.long p1), .second, .val (.long p2), .second, .val (.long p3), .second, .val (.int p4), .val (.int p5), .val (.int W), .val (.ref a9), .val (.ref a971), .val (.ref a1453), .val (.ref a1495), .val (.ref a1539), .val (.ref a1585), .val (.ref a1634), .val (.int r1671), .val (.int r1693), .val (.int r1717)] [(.ref a1634)])) (fun _ kk => XS.aload X1727.here hx rfl (hb hby at_217) rfl rfl kk) ?_
        refine own_st (G := T1725.setTop (mkF m 221 #[.val (.long p0), .second, .val (.long p1), .second, .val (.long p2), .second, .val (.long p3), .second, .val (.int p4), .val (.int p5), .val (.int W), .val (.ref a9), .val (.ref a971), .val (.ref a1453), .val (.ref a1495), .val (.ref a1539), .val (.ref a1585), .val (.ref a1634), .val (.int r1671), .val (.int r1693), .val (.int r1717)] [(.int r1717), (.ref a1634)])) (fun _ kk => XS.iload X1727.here hx rfl (hb hby at_219) rfl kk) ?_
        refine own_st (G := T1725.setTop (mkF m 223 #[.val (.long p0), .second, .val (.long p1), .second, .val (.long p2), .second, .val (.long p3), .second, .val (.int p4), .val (.int p5), .val (.int W), .val (.ref a9), .val (.ref a971), .val (.ref a1453), .val (.ref a1495), .val (.ref a1539), .val (.ref a1585), .val (.ref a1634), .val (.int r1671), .val (.int r1693), .val (.int r1717)] [(.ref a1585), (.int r1717), (.ref a1634)])) (fun _ kk => XS.aload X1727.here hx rfl (hb hby at_221) rfl rfl kk) ?_
        refine own_callV X1727 hx hZ (y := (⟨"com/example/libbuchi/libbuchi/automata/PackedStates", "get", "(I[J)V"⟩ : MethodName)) (b := a1634) (as' := [(.int r1717), (.ref a1585)]) hown (own_w hw 34 rfl) (own_w hw 35 rfl) (own_w hw 37 rfl) (own_w hw 36 rfl) (own_w hw 38 rfl) (own_w hw 3 rfl) (by decide) (own_get l Z a0 hw [] r1717 a1634 a1585 wa1652 sa1653 W k1718 fw1719 (own_f3 p3 p3 p3) T1725.heap n0 gea1585 O1721 Fw1722 F1734 hW at1740) (O1721).1 0 (by decide) (by decide) (by decide) (by decide) (rest := []) (by rw [hml]; rfl) (lenOf (by decide : parseMethodDescriptor "(I[J)V" = some ⟨[.int, .array (.long)], none⟩) rfl) rfl (Nat.le_of_eq rfl) (hb hby at_223) rfl ?_
        intro T1817 L1818 v1820 X1819 hQ
        obtain ⟨rfl, N1814', K1815, F1816⟩ := hQ
        show own_Out _ _ _ _ (T1817.setTop (mkF m 226 #[.val (.long p0), .second, .val (.long p1), .second, .val (.long p2), .second, .val (.long p3), .second, .val (.int p4), .val (.int p5), .val (.int W), .val (.ref a9), .val (.ref a971), .val (.ref a1453), .val (.ref a1495), .val (.ref a1539), .val (.ref a1585), .val (.ref a1634), .val (.int r1671), .val (.int r1693), .val (.int r1717)] []))
        have N1814 := Fr.app N1715 N1814'
        have F1821 := own_AJ_keep F1729 K1815 (ninS (own_ne (by omega)) (nin0))
        have F1822 := own_AJ_keep F1730 K1815 (ninS (own_ne (by omega)) (nin0))
        have F1823 := own_AJ_keep F1731 K1815 (ninS (own_ne (by omega)) (nin0))
        have F1824 := own_AJ_keep F1732 K1815 (ninS (own_ne (by omega)) (nin0))
        have F1825 := own_AJ_keep F1733 K1815 (ninS (own_ne (by omega)) (nin0))
        have O1826 := own_P_keep K1815 (ninS (own_ne (by omega)) (nin0)) O1721
        have Fw1827 := own_AJ_keep Fw1722 K1815 (ninS (own_ne (by omega)) (nin0))
        obtain ⟨gf1829, gq1830⟩ : ∃ z : Nat → Int64, z = (fun i => if 0 ≤ i ∧ i < 0 + W.toNatClampNeg then fw1719 (r1717.toNatClampNeg * W.toNatClampNeg + (i - 0)) else (own_f3 p3 p3 p3) i) := ⟨_, rfl⟩
        rw [← gq1830] at F1816
        have hm1828 := own_fin hW R1724.2.2.2.2.2 (sn := p3) rfl rfl rfl gf1829 gq1830
        refine own_st (G := T1817.setTop (mkF m 228 #[.val (.long p0), .second, .val (.long p1), .second, .val (.long p2), .second, .val (.long p3), .second, .val (.int p4), .val (.int p5), .val (.int W), .val (.ref a9), .val (.ref a971), .val (.ref a1453), .val (.ref a1495), .val (.ref a1539), .val (.ref a1585), .val (.ref a1634), .val (.int r1671), .val (.int r1693), .val (.int r1717)] [(.ref a1634)])) (fun _ kk => XS.aload X1819.here hx rfl (hb hby at_226) rfl rfl kk) ?_
        refine own_st (G := T1817.setTop (mkF m 230 #[.val (.long p0), .second, .val (.long p1), .second, .val (.long p2), .second, .val (.long p3), .second, .val (.int p4), .val (.int p5), .val (.int W), .val (.ref a9), .val (.ref a971), .val (.ref a1453), .val (.ref a1495), .val (.ref a1539), .val (.ref a1585), .val (.ref a1634), .val (.int r1671), .val (.int r1693), .val (.int r1717)] [(.int r1693), (.ref a1634)])) (fun _ kk => XS.iload X1819.here hx rfl (hb hby at_228) rfl kk) ?_
        refine own_st (G := T1817.setTop (mkF m 232 #[.val (.long p0), .second, .val (.long p1), .second, .val (.long p2), .second, .val (.long p3), .second, .val (.int p4), .val (.int p5), .val (.int W), .val (.ref a9), .val (.ref a971), .val (.ref a1453), .val (.ref a1495), .val (.ref a1539), .val (.ref a1585), .val (.ref a1634), .val (.int r1671), .val (.int r1693), .val (.int r1717)] [(.ref a1539), (.int r1693), (.ref a1634)])) (fun _ kk => XS.aload X1819.here hx rfl (hb hby at_230) rfl rfl kk) ?_
        refine own_callV X1819 hx hZ (y := (⟨"com/example/libbuchi/libbuchi/automata/PackedStates", "get", "(I[J)V"⟩ : MethodName)) (b := a1634) (as' := [(.int r1693), (.ref a1539)]) hown (own_w hw 34 rfl) (own_w hw 35 rfl) (own_w hw 37 rfl) (own_w hw 36 rfl) (own_w hw 38 rfl) (own_w hw 3 rfl) (by decide) (own_get l Z a0 hw [] r1693 a1634 a1539 wa1652 sa1653 W k1718 fw1719 (own_f3 p3 p3 p3) T1817.heap n0 gea1539 O1826 Fw1827 F1825 hW at1714) (O1826).1 0 (by decide) (by decide) (by decide) (by decide) (rest := []) (by rw [hml]; rfl) (lenOf (by decide : parseMethodDescriptor "(I[J)V" = some ⟨[.int, .array (.long)], none⟩) rfl) rfl (Nat.le_of_eq rfl) (hb hby at_232) rfl ?_
        intro T1834 L1835 v1837 X1836 hQ
        obtain ⟨rfl, N1831', K1832, F1833⟩ := hQ
        show own_Out _ _ _ _ (T1834.setTop (mkF m 235 #[.val (.long p0), .second, .val (.long p1), .second, .val (.long p2), .second, .val (.long p3), .second, .val (.int p4), .val (.int p5), .val (.int W), .val (.ref a9), .val (.ref a971), .val (.ref a1453), .val (.ref a1495), .val (.ref a1539), .val (.ref a1585), .val (.ref a1634), .val (.int r1671), .val (.int r1693), .val (.int r1717)] []))
        have N1831 := Fr.app N1814 N1831'
        have F1838 := own_AJ_keep F1821 K1832 (ninS (own_ne (by omega)) (nin0))
        have F1839 := own_AJ_keep F1822 K1832 (ninS (own_ne (by omega)) (nin0))
        have F1840 := own_AJ_keep F1823 K1832 (ninS (own_ne (by omega)) (nin0))
        have F1841 := own_AJ_keep F1824 K1832 (ninS (own_ne (by omega)) (nin0))
        have F1842 := own_AJ_keep F1816 K1832 (ninS (own_ne (by omega)) (nin0))
        have O1843 := own_P_keep K1832 (ninS (own_ne (by omega)) (nin0)) O1826
        have Fw1844 := own_AJ_keep Fw1827 K1832 (ninS (own_ne (by omega)) (nin0))
        obtain ⟨gf1846, gq1847⟩ : ∃ z : Nat → Int64, z = (fun i => if 0 ≤ i ∧ i < 0 + W.toNatClampNeg then fw1719 (r1693.toNatClampNeg * W.toNatClampNeg + (i - 0)) else (own_f3 p3 p3 p3) i) := ⟨_, rfl⟩
        rw [← gq1847] at F1833
        have hm1845 := own_fin hW hr1738 (sn := p3) rfl rfl rfl gf1846 gq1847
        refine own_st (G := T1834.setTop (mkF m 237 #[.val (.long p0), .second, .val (.long p1), .second, .val (.long p2), .second, .val (.long p3), .second, .val (.int p4), .val (.int p5), .val (.int W), .val (.ref a9), .val (.ref a971), .val (.ref a1453), .val (.ref a1495), .val (.ref a1539), .val (.ref a1585), .val (.ref a1634), .val (.int r1671), .val (.int r1693), .val (.int r1717)] [(.ref a1634)])) (fun _ kk => XS.aload X1836.here hx rfl (hb hby at_235) rfl rfl kk) ?_
        refine own_st (G := T1834.setTop (mkF m 239 #[.val (.long p0), .second, .val (.long p1), .second, .val (.long p2), .second, .val (.long p3), .second, .val (.int p4), .val (.int p5), .val (.int W), .val (.ref a9), .val (.ref a971), .val (.ref a1453), .val (.ref a1495), .val (.ref a1539), .val (.ref a1585), .val (.ref a1634), .val (.int r1671), .val (.int r1693), .val (.int r1717)] [(.int r1671), (.ref a1634)])) (fun _ kk => XS.iload X1836.here hx rfl (hb hby at_237) rfl kk) ?_
        refine own_st (G := T1834.setTop (mkF m 241 #[.val (.long p0), .second, .val (.long p1), .second, .val (.long p2), .second, .val (.long p3), .second, .val (.int p4), .val (.int p5), .val (.int W), .val (.ref a9), .val (.ref a971), .val (.ref a1453), .val (.ref a1495), .val (.ref a1539), .val (.ref a1585), .val (.ref a1634), .val (.int r1671), .val (.int r1693), .val (.int r1717)] [(.ref a1495), (.int r1671), (.ref a1634)])) (fun _ kk => XS.aload X1836.here hx rfl (hb hby at_239) rfl rfl kk) ?_
        refine own_callV X1836 hx hZ (y := (⟨"com/example/libbuchi/libbuchi/automata/PackedStates", "get", "(I[J)V"⟩ : MethodName)) (b := a1634) (as' := [(.int r1671), (.ref a1495)]) hown (own_w hw 34 rfl) (own_w hw 35 rfl) (own_w hw 37 rfl) (own_w hw 36 rfl) (own_w hw 38 rfl) (own_w hw 3 rfl) (by decide) (own_get l Z a0 hw [] r1671 a1634 a1495 wa1652 sa1653 W k1718 fw1719 (own_f3 p3 p3 p3) T1834.heap n0 gea1495 O1843 Fw1844 F1841 hW at1690) (O1843).1 0 (by decide) (by decide) (by decide) (by decide) (rest := []) (by rw [hml]; rfl) (lenOf (by decide : parseMethodDescriptor "(I[J)V" = some ⟨[.int, .array (.long)], none⟩) rfl) rfl (Nat.le_of_eq rfl) (hb hby at_241) rfl ?_
        intro T1851 L1852 v1854 X1853 hQ
        obtain ⟨rfl, N1848', K1849, F1850⟩ := hQ
        show own_Out _ _ _ _ (T1851.setTop (mkF m 244 #[.val (.long p0), .second, .val (.long p1), .second, .val (.long p2), .second, .val (.long p3), .second, .val (.int p4), .val (.int p5), .val (.int W), .val (.ref a9), .val (.ref a971), .val (.ref a1453), .val (.ref a1495), .val (.ref a1539), .val (.ref a1585), .val (.ref a1634), .val (.int r1671), .val (.int r1693), .val (.int r1717)] []))
        have N1848 := Fr.app N1831 N1848'
        have F1855 := own_AJ_keep F1838 K1849 (ninS (own_ne (by omega)) (nin0))
        have F1856 := own_AJ_keep F1839 K1849 (ninS (own_ne (by omega)) (nin0))
        have F1857 := own_AJ_keep F1840 K1849 (ninS (own_ne (by omega)) (nin0))
        have F1858 := own_AJ_keep F1833 K1849 (ninS (own_ne (by omega)) (nin0))
        have F1859 := own_AJ_keep F1842 K1849 (ninS (own_ne (by omega)) (nin0))
        have O1860 := own_P_keep K1849 (ninS (own_ne (by omega)) (nin0)) O1843
        have Fw1861 := own_AJ_keep Fw1844 K1849 (ninS (own_ne (by omega)) (nin0))
        obtain ⟨gf1863, gq1864⟩ : ∃ z : Nat → Int64, z = (fun i => if 0 ≤ i ∧ i < 0 + W.toNatClampNeg then fw1719 (r1671.toNatClampNeg * W.toNatClampNeg + (i - 0)) else (own_f3 p3 p3 p3) i) := ⟨_, rfl⟩
        rw [← gq1864] at F1850
        have hm1862 := own_fin hW hr1736 (sn := p3) rfl rfl rfl gf1863 gq1864
        refine own_st (G := T1851.setTop (mkF m 274 #[.val (.long p0), .second, .val (.long p1), .second, .val (.long p2), .second, .val (.long p3), .second, .val (.int p4), .val (.int p5), .val (.int W), .val (.ref a9), .val (.ref a971), .val (.ref a1453), .val (.ref a1495), .val (.ref a1539), .val (.ref a1585), .val (.ref a1634), .val (.int r1671), .val (.int r1693), .val (.int r1717)] [])) (fun _ kk => XS.goto X1853.here hx rfl (pc0 := 244) (pc' := 274) rfl (hb hby at_244) (by decide) (by decide) kk) ?_
        refine own_st (G := T1851.setTop (mkF m 276 #[.val (.long p0), .second, .val (.long p1), .second, .val (.long p2), .second, .val (.long p3), .second, .val (.int p4), .val (.int p5), .val (.int W), .val (.ref a9), .val (.ref a971), .val (.ref a1453), .val (.ref a1495), .val (.ref a1539), .val (.ref a1585), .val (.ref a1634), .val (.int r1671), .val (.int r1693), .val (.int r1717)] [(.ref a1495)])) (fun _ kk => XS.aload X1853.here hx rfl (hb hby at_274) rfl rfl kk) ?_
        refine own_st (G := T1851.setTop (mkF m 278 #[.val (.long p0), .second, .val (.long p1), .second, .val (.long p2), .second, .val (.long p3), .second, .val (.int p4), .val (.int p5), .val (.int W), .val (.ref a9), .val (.ref a971), .val (.ref a1453), .val (.ref a1495), .val (.ref a1539), .val (.ref a1585), .val (.ref a1634), .val (.int r1671), .val (.int r1693), .val (.int r1717)] [(.ref a9), (.ref a1495)])) (fun _ kk => XS.aload X1853.here hx rfl (hb hby at_276) rfl rfl kk) ?_
        refine own_st (G := T1851.setTop (mkF m 280 #[.val (.long p0), .second, .val (.long p1), .second, .val (.long p2), .second, .val (.long p3), .second, .val (.int p4), .val (.int p5), .val (.int W), .val (.ref a9), .val (.ref a971), .val (.ref a1453), .val (.ref a1495), .val (.ref a1539), .val (.ref a1585), .val (.ref a1634), .val (.int r1671), .val (.int r1693), .val (.int r1717)] [(.int W), (.ref a9), (.ref a1495)])) (fun _ kk => XS.iload X1853.here hx rfl (hb hby at_278) rfl kk) ?_
        refine own_st (G := T1851.setTop (mkF m 282 #[.val (.long p0), .second, .val (.long p1), .second, .val (.long p2), .second, .val (.long p3), .second, .val (.int p4), .val (.int p5), .val (.int W), .val (.ref a9), .val (.ref a971), .val (.ref a1453), .val (.ref a1495), .val (.ref a1539), .val (.ref a1585), .val (.ref a1634), .val (.int r1671), .val (.int r1693), .val (.int r1717)] [(.long p3), (.int W), (.ref a9), (.ref a1495)])) (fun _ kk => XS.lload X1853.here hx rfl (hb hby at_280) rfl kk) ?_
        refine own_callS X1853 hx hZ (y := (⟨"com/example/libbuchi/libbuchi/automata/PackedStatesGetPinLaw", "matches", "([J[JIJ)Z"⟩ : MethodName)) (as' := [(.ref a1495), (.ref a9), (.int W), (.long p3)]) hown (own_w hw 39 rfl) (own_w hw 40 rfl) (own_w hw 41 rfl) (own_w hw 42 rfl) (by decide) (own_mat l Z a0 hw [] W p3 a1495 a9 gf1863 (own_f3 p0 p1 p2) T1851.heap n0 F1850 F1855 hm1862.1 hm1862.2.1 hm1862.2.2) 0 (by decide) (by decide) (by decide) (by decide) (rest := []) (by rw [hml]; rfl) (lenOf (by decide : parseMethodDescriptor "([J[JIJ)Z" = some ⟨[.array (.long), .array (.long), .int, .long], some (.boolean)⟩) rfl) rfl (Nat.le_of_eq rfl) (hb hby at_282) rfl ?_
        intro T1868 L1869 v1871 X1870 hQ
        obtain ⟨rfl, rfl, eq1867⟩ := hQ
        show own_Out _ _ _ _ (T1868.setTop (mkF m 285 #[.val (.long p0), .second, .val (.long p1), .second, .val (.long p2), .second, .val (.long p3), .second, .val (.int p4), .val (.int p5), .val (.int W), .val (.ref a9), .val (.ref a971), .val (.ref a1453), .val (.ref a1495), .val (.ref a1539), .val (.ref a1585), .val (.ref a1634), .val (.int r1671), .val (.int r1693), .val (.int r1717)] [(.int (1 : Int32))]))
        have N1865 := Fr.app N1848 (Fr.nil n0)
        refine own_st (G := T1868.setTop (mkF m 288 #[.val (.long p0), .second, .val (.long p1), .second, .val (.long p2), .second, .val (.long p3), .second, .val (.int p4), .val (.int p5), .val (.int W), .val (.ref a9), .val (.ref a971), .val (.ref a1453), .val (.ref a1495), .val (.ref a1539), .val (.ref a1585), .val (.ref a1634), .val (.int r1671), .val (.int r1693), .val (.int r1717)] [])) (fun _ kk => XS.ifNo X1870.here hx rfl (hb hby at_285) rfl (XT.i0_eq_f (by decide : ¬ (1 : Int32) = (0 : Int32))) kk) ?_
        refine own_st (G := T1868.setTop (mkF m 290 #[.val (.long p0), .second, .val (.long p1), .second, .val (.long p2), .second, .val (.long p3), .second, .val (.int p4), .val (.int p5), .val (.int W), .val (.ref a9), .val (.ref a971), .val (.ref a1453), .val (.ref a1495), .val (.ref a1539), .val (.ref a1585), .val (.ref a1634), .val (.int r1671), .val (.int r1693), .val (.int r1717)] [(.ref a1539)])) (fun _ kk => XS.aload X1870.here hx rfl (hb hby at_288) rfl rfl kk) ?_
        refine own_st (G := T1868.setTop (mkF m 292 #[.val (.long p0), .second, .val (.long p1), .second, .val (.long p2), .second, .val (.long p3), .second, .val (.int p4), .val (.int p5), .val (.int W), .val (.ref a9), .val (.ref a971), .val (.ref a1453), .val (.ref a1495), .val (.ref a1539), .val (.ref a1585), .val (.ref a1634), .val (.int r1671), .val (.int r1693), .val (.int r1717)] [(.ref a971), (.ref a1539)])) (fun _ kk => XS.aload X1870.here hx rfl (hb hby at_290) rfl rfl kk) ?_
        refine own_st (G := T1868.setTop (mkF m 294 #[.val (.long p0), .second, .val (.long p1), .second, .val (.long p2), .second, .val (.long p3), .second, .val (.int p4), .val (.int p5), .val (.int W), .val (.ref a9), .val (.ref a971), .val (.ref a1453), .val (.ref a1495), .val (.ref a1539), .val (.ref a1585), .val (.ref a1634), .val (.int r1671), .val (.int r1693), .val (.int r1717)] [(.int W), (.ref a971), (.ref a1539)])) (fun _ kk => XS.iload X1870.here hx rfl (hb hby at_292) rfl kk) ?_
        refine own_st (G := T1868.setTop (mkF m 296 #[.val (.long p0), .second, .val (.long p1), .second, .val (.long p2), .second, .val (.long p3), .second, .val (.int p4), .val (.int p5), .val (.int W), .val (.ref a9), .val (.ref a971), .val (.ref a1453), .val (.ref a1495), .val (.ref a1539), .val (.ref a1585), .val (.ref a1634), .val (.int r1671), .val (.int r1693), .val (.int r1717)] [(.long p3), (.int W), (.ref a971), (.ref a1539)])) (fun _ kk => XS.lload X1870.here hx rfl (hb hby at_294) rfl kk) ?_
        refine own_callS X1870 hx hZ (y := (⟨"com/example/libbuchi/libbuchi/automata/PackedStatesGetPinLaw", "matches", "([J[JIJ)Z"⟩ : MethodName)) (as' := [(.ref a1539), (.ref a971), (.int W), (.long p3)]) hown (own_w hw 39 rfl) (own_w hw 40 rfl) (own_w hw 41 rfl) (own_w hw 42 rfl) (by decide) (own_mat l Z a0 hw [] W p3 a1539 a971 gf1846 (own_f3 p0 p1 p2) T1851.heap n0 F1858 F1856 hm1845.1 hm1845.2.1 hm1845.2.2) 0 (by decide) (by decide) (by decide) (by decide) (rest := []) (by rw [hml]; rfl) (lenOf (by decide : parseMethodDescriptor "([J[JIJ)Z" = some ⟨[.array (.long), .array (.long), .int, .long], some (.boolean)⟩) rfl) rfl (Nat.le_of_eq rfl) (hb hby at_296) eq1867 ?_
        intro T1875 L1876 v1878 X1877 hQ
        obtain ⟨rfl, rfl, eq1874⟩ := hQ
        show own_Out _ _ _ _ (T1875.setTop (mkF m 299 #[.val (.long p0), .second, .val (.long p1), .second, .val (.long p2), .second, .val (.long p3), .second, .val (.int p4), .val (.int p5), .val (.int W), .val (.ref a9), .val (.ref a971), .val (.ref a1453), .val (.ref a1495), .val (.ref a1539), .val (.ref a1585), .val (.ref a1634), .val (.int r1671), .val (.int r1693), .val (.int r1717)] [(.int (1 : Int32))]))
        have N1872 := Fr.app N1865 (Fr.nil n0)
        refine own_st (G := T1875.setTop (mkF m 302 #[.val (.long p0), .second, .val (.long p1), .second, .val (.long p2), .second, .val (.long p3), .second, .val (.int p4), .val (.int p5), .val (.int W), .val (.ref a9), .val (.ref a971), .val (.ref a1453), .val (.ref a1495), .val (.ref a1539), .val (.ref a1585), .val (.ref a1634), .val (.int r1671), .val (.int r1693), .val (.int r1717)] [])) (fun _ kk => XS.ifNo X1877.here hx rfl (hb hby at_299) rfl (XT.i0_eq_f (by decide : ¬ (1 : Int32) = (0 : Int32))) kk) ?_
        refine own_st (G := T1875.setTop (mkF m 304 #[.val (.long p0), .second, .val (.long p1), .second, .val (.long p2), .second, .val (.long p3), .second, .val (.int p4), .val (.int p5), .val (.int W), .val (.ref a9), .val (.ref a971), .val (.ref a1453), .val (.ref a1495), .val (.ref a1539), .val (.ref a1585), .val (.ref a1634), .val (.int r1671), .val (.int r1693), .val (.int r1717)] [(.ref a1585)])) (fun _ kk => XS.aload X1877.here hx rfl (hb hby at_302) rfl rfl kk) ?_
        refine own_st (G := T1875.setTop (mkF m 306 #[.val (.long p0), .second, .val (.long p1), .second, .val (.long p2), .second, .val (.long p3), .second, .val (.int p4), .val (.int p5), .val (.int W), .val (.ref a9), .val (.ref a971), .val (.ref a1453), .val (.ref a1495), .val (.ref a1539), .val (.ref a1585), .val (.ref a1634), .val (.int r1671), .val (.int r1693), .val (.int r1717)] [(.ref a1453), (.ref a1585)])) (fun _ kk => XS.aload X1877.here hx rfl (hb hby at_304) rfl rfl kk) ?_
        refine own_st (G := T1875.setTop (mkF m 308 #[.val (.long p0), .second, .val (.long p1), .second, .val (.long p2), .second, .val (.long p3), .second, .val (.int p4), .val (.int p5), .val (.int W), .val (.ref a9), .val (.ref a971), .val (.ref a1453), .val (.ref a1495), .val (.ref a1539), .val (.ref a1585), .val (.ref a1634), .val (.int r1671), .val (.int r1693), .val (.int r1717)] [(.int W), (.ref a1453), (.ref a1585)])) (fun _ kk => XS.iload X1877.here hx rfl (hb hby at_306) rfl kk) ?_
        refine own_st (G := T1875.setTop (mkF m 310 #[.val (.long p0), .second, .val (.long p1), .second, .val (.long p2), .second, .val (.long p3), .second, .val (.int p4), .val (.int p5), .val (.int W), .val (.ref a9), .val (.ref a971), .val (.ref a1453), .val (.ref a1495), .val (.ref a1539), .val (.ref a1585), .val (.ref a1634), .val (.int r1671), .val (.int r1693), .val (.int r1717)] [(.long p3), (.int W), (.ref a1453), (.ref a1585)])) (fun _ kk => XS.lload X1877.here hx rfl (hb hby at_308) rfl kk) ?_
        refine own_callS X1877 hx hZ (y := (⟨"com/example/libbuchi/libbuchi/automata/PackedStatesGetPinLaw", "matches", "([J[JIJ)Z"⟩ : MethodName)) (as' := [(.ref a1585), (.ref a1453), (.int W), (.long p3)]) hown (own_w hw 39 rfl) (own_w hw 40 rfl) (own_w hw 41 rfl) (own_w hw 42 rfl) (by decide) (own_mat l Z a0 hw [] W p3 a1585 a1453 gf1829 (own_f3 p0 p1 p2) T1851.heap n0 F1859 F1857 hm1828.1 hm1828.2.1 hm1828.2.2) 0 (by decide) (by decide) (by decide) (by decide) (rest := []) (by rw [hml]; rfl) (lenOf (by decide : parseMethodDescriptor "([J[JIJ)Z" = some ⟨[.array (.long), .array (.long), .int, .long], some (.boolean)⟩) rfl) rfl (Nat.le_of_eq rfl) (hb hby at_310) eq1874 ?_
        intro T1882 L1883 v1885 X1884 hQ
        obtain ⟨rfl, rfl, eq1881⟩ := hQ
        show own_Out _ _ _ _ (T1882.setTop (mkF m 313 #[.val (.long p0), .second, .val (.long p1), .second, .val (.long p2), .second, .val (.long p3), .second, .val (.int p4), .val (.int p5), .val (.int W), .val (.ref a9), .val (.ref a971), .val (.ref a1453), .val (.ref a1495), .val (.ref a1539), .val (.ref a1585), .val (.ref a1634), .val (.int r1671), .val (.int r1693), .val (.int r1717)] [(.int (1 : Int32))]))
        have N1879 := Fr.app N1872 (Fr.nil n0)
        refine own_st (G := T1882.setTop (mkF m 316 #[.val (.long p0), .second, .val (.long p1), .second, .val (.long p2), .second, .val (.long p3), .second, .val (.int p4), .val (.int p5), .val (.int W), .val (.ref a9), .val (.ref a971), .val (.ref a1453), .val (.ref a1495), .val (.ref a1539), .val (.ref a1585), .val (.ref a1634), .val (.int r1671), .val (.int r1693), .val (.int r1717)] [])) (fun _ kk => XS.ifNo X1884.here hx rfl (hb hby at_313) rfl (XT.i0_eq_f (by decide : ¬ (1 : Int32) = (0 : Int32))) kk) ?_
        refine own_st (G := T1882.setTop (mkF m 317 #[.val (.long p0), .second, .val (.long p1), .second, .val (.long p2), .second, .val (.long p3), .second, .val (.int p4), .val (.int p5), .val (.int W), .val (.ref a9), .val (.ref a971), .val (.ref a1453), .val (.ref a1495), .val (.ref a1539), .val (.ref a1585), .val (.ref a1634), .val (.int r1671), .val (.int r1693), .val (.int r1717)] [(.int (1 : Int32))])) (fun _ kk => XT.iconstV X1884.here hx rfl (1 : Int32) (hb hby at_316) (by decide) kk) ?_
        refine own_st (G := T1882.setTop (mkF m 321 #[.val (.long p0), .second, .val (.long p1), .second, .val (.long p2), .second, .val (.long p3), .second, .val (.int p4), .val (.int p5), .val (.int W), .val (.ref a9), .val (.ref a971), .val (.ref a1453), .val (.ref a1495), .val (.ref a1539), .val (.ref a1585), .val (.ref a1634), .val (.int r1671), .val (.int r1693), .val (.int r1717)] [(.int (1 : Int32))])) (fun _ kk => XS.goto X1884.here hx rfl (pc0 := 317) (pc' := 321) rfl (hb hby at_317) (by decide) (by decide) kk) ?_
        refine own_retB X1884 hx hret (by simp) hlk (hb hby at_321) (by decide) (by decide) ?_
        exact ⟨rfl, N1879⟩
set_option maxRecDepth 65536 in
set_option maxHeartbeats 40000000 in
theorem comes_1 {Post : Tables → Env → Array Value → State → Outcome → State → Prop} (hpost : ∀ tb e args s v u, (limb_1_1.after args s (.returned v) u = true ∧ limb_1_2.after args s (.returned v) u = true ∧ True) → FrameEnd s (.returned v) u (Jvm.fieldLocs frame_1_writes args s ++ Jvm.arrayLocs frame_1_arrays args s ++ Jvm.staticLocs frame_1_statics s) 32 320 → Post tb e args s (.returned v) u) :
    ArmFor flags0 classFile x code maxLocals ret World_1 tables_1 room_1 Calls_1 rest_1 Pre_1 Post := by
  intro l hfl _ _ p e ha hc hk s m args below hf hA hF happ hP
  obtain ⟨hcalls, hrest, hpre⟩ := hP
  obtain ⟨-, -, -, hnamed, -, -, -, hat⟩ := (Spec.applies_iff hf).mp happ
  obtain ⟨hg, hn⟩ := and_e (Cond.before_iff.mp (show (Jvm.Cond.and given_1 narrow_1).before args s = true from hpre))
  obtain ⟨hct, hk0⟩ := and_e hg
  obtain ⟨ha0, hk1⟩ := and_e hk0
  obtain ⟨ha1, hk2⟩ := and_e hk1
  obtain ⟨ha2, hk3⟩ := and_e hk2
  obtain ⟨ha3, hk4⟩ := and_e hk3
  obtain ⟨ha4, hk5⟩ := and_e hk4
  have ha5 := hk5
  obtain ⟨w0, w1, w2, w3, w4, w5, rfl⟩ : ∃ w0 w1 w2 w3 w4 w5 : Value, args = #[w0, w1, w2, w3, w4, w5] := by
    have hs : args.size = 6 := by simpa [Cond.value, given_1] using hct
    obtain ⟨L⟩ := args
    match L, hs with
    | [w0, w1, w2, w3, w4, w5], _ => exact ⟨w0, w1, w2, w3, w4, w5, rfl⟩
  have hw := fun d (hd : d ∈ tables_1) => atoms_spec (ws := Jvm.Cond.code x code maxLocals ret :: tables_1) hat d (List.mem_cons_of_mem _ hd)
  obtain ⟨i0, e0⟩ := isL_v ha0
  obtain rfl : w0 = (.long i0) := Option.some.inj e0
  obtain ⟨i1, e1⟩ := isL_v ha1
  obtain rfl : w1 = (.long i1) := Option.some.inj e1
  obtain ⟨i2, e2⟩ := isL_v ha2
  obtain rfl : w2 = (.long i2) := Option.some.inj e2
  obtain ⟨i3, e3⟩ := isL_v ha3
  obtain rfl : w3 = (.long i3) := Option.some.inj e3
  obtain ⟨i4, e4⟩ := is_v ha4
  obtain rfl : w4 = (.int i4) := Option.some.inj e4
  obtain ⟨i5, e5⟩ := is_v ha5
  obtain rfl : w5 = (.int i5) := Option.some.inj e5
  obtain ⟨n, o, h1, h2, h3, _, L, rfl, ⟨rfl, N⟩, hq⟩ := own_law l s _ hw tables_1 i0 i1 i2 i3 i4 i5 s.heap s.heap.size (Nat.le_refl _) p e ha hc hk s m _ below hf ((Spec.applies_iff_loose hf).mp happ).1 ⟨rfl, State.Warmed39.refl s, rfl⟩ trivial
  refine ⟨n, _, h1, h2, h3, hpost _ _ _ _ _ _ ⟨Cond.after_iff.mpr rfl, Cond.after_iff.mpr (eq_i res_at (Term.int_eval (1)) rfl), trivial⟩ ⟨hq.1, hq.2.1, (hq.2.2.sift fun y hy => Or.inr (N y hy)).mono (by decide) (by decide)⟩⟩
theorem main_1_1 : Claimed_1_1 := comes_1 fun _ _ _ _ _ _ h hF => ⟨h.1, hF⟩
theorem main_1_2 : Claimed_1_2 := comes_1 fun _ _ _ _ _ _ h hF => ⟨h.2.1, hF⟩
end Jvm.Pilot.@@N@@
namespace Jvm.Pilot.@@N@@
open Jvm Jvm.ClassFile Sem Op Lib Jvm.Free Jvm.Stand Jvm.Pilot.@@N@@.Jvm.D
/-! MADE BY PROGRAM (witnessworld.py) out of the Statement's table words and the real class files: 12 classes; the members and pool entries that the words name. The judged class is class 1, her method 2. -/
namespace start1
open Jvm.ClassFile
def u (s : String) : CpInfo := .utf8 (stringToUtf16 s)
/-- a pool by its gaps: so many unusable entries, then the entry; so many at the end -/
def gap : Nat → List CpInfo → List CpInfo
  | 0, r => r
  | n + 1, r => .unusable :: gap n r
def poolList (es : List (Nat × CpInfo)) (last : Nat) : List CpInfo := es.foldr (fun e r => gap e.1 (e.2 :: r)) (gap last [])
def pool (es : List (Nat × CpInfo)) (last : Nat) : Array CpInfo := ⟨poolList es last⟩
def fileOf (pool : Array CpInfo) (this : Nat) (attrs : Array Attribute := #[]) (ms : Array MethodInfo := #[]) (fl : Nat := 33) (sup : Nat := 0) (ifs : Array Nat := #[]) (fds : Array FieldInfo := #[]) : ClassFile where
  minorVersion := 0
  majorVersion := 65
  constantPool := pool
  accessFlags := fl
  thisClass := this
  superClass := sup
  interfaces := ifs
  fields := fds
  methods := ms
  attributes := attrs
def plain (name : String) (sup : Option ClassId) : Class where
  name := name
  kind := .ordinary
  loader := none
  accessFlags := 33
  super := sup
  interfaces := #[]
  cf := none
  fields := #[]
  methods := #[]
  instanceTypes := #[]
  staticTypes := #[]
  resolved := #[]
  callSites := []
  init := .initialized
  statics := none
  mirror := none

def pool0 : Array CpInfo := pool [(5, u "<init>"), (0, u "()V"), (1, .class_ 10), (1, u "java/lang/Object")] 113

def k0c0 : Code := { maxStack := 0, maxLocals := 1, code := object_method_1_code, exceptionTable := #[], attributes := #[] }
def k0m0 : Method := { name := "<init>", desc := "()V", sig := { parameters := [], returnType := none }, accessFlags := 1, code := some k0c0 }
/-- java/lang/Object -/
def k0 : Class := { plain "java/lang/Object" none with
  accessFlags := 33
  interfaces := #[]
  cf := some (fileOf pool0 8 #[] #[{ accessFlags := 1, nameIndex := 5, descriptorIndex := 6, attributes := #[] }] 33 0 #[] #[])
  fields := #[]
  methods := #[k0m0]
  instanceTypes := #[]
  staticTypes := #[]
  resolved := Array.replicate 124 none
  statics := none }

def pool1 : Array CpInfo := pool [(2, .class_ 4), (1, u "java/lang/Object"), (0, u "<init>"), (0, u "()V"), (0, .class_ 8), (0, u "com/example/libbuchi/libbuchi/automata/PackedStates"), (0, .methodref 7 10), (0, .nameAndType 5 11), (0, u "(I)V"), (0, .methodref 7 13), (0, .nameAndType 14 15), (0, u "add"), (0, u "([J)I"), (0, .methodref 7 17), (0, .nameAndType 18 19), (0, u "get"), (0, u "(I[J)V"), (0, .methodref 21 22), (0, .class_ 23), (0, .nameAndType 24 25), (0, u "com/example/libbuchi/libbuchi/automata/PackedStatesGetPinLaw"), (0, u "matches"), (0, u "([J[JIJ)Z"), (3, u "law"), (0, u "(JJJJII)Z")] 4

def k1m0 : Method := { name := "<init>", desc := "()V", sig := { parameters := [], returnType := none }, accessFlags := 1, code := none }
def k1c1 : Code := { maxStack := 4, maxLocals := 8, code := method_2_code, exceptionTable := #[], attributes := #[] }
def k1m1 : Method := { name := "matches", desc := "([J[JIJ)Z", sig := { parameters := [(.array .long), (.array .long), .int, .long], returnType := some .boolean }, accessFlags := 10, code := some k1c1 }
def k1c2 : Code := { maxStack := 5, maxLocals := 21, code := code, exceptionTable := #[], attributes := #[] }
def k1m2 : Method := { name := "law", desc := "(JJJJII)Z", sig := { parameters := [.long, .long, .long, .long, .int, .int], returnType := some .boolean }, accessFlags := 9, code := some k1c2 }
/-- com/example/libbuchi/libbuchi/automata/PackedStatesGetPinLaw -/
def k1 : Class := { plain "com/example/libbuchi/libbuchi/automata/PackedStatesGetPinLaw" (some 0) with
  accessFlags := 49
  interfaces := #[]
  cf := some (fileOf pool1 21 #[] #[{ accessFlags := 1, nameIndex := 5, descriptorIndex := 6, attributes := #[] }, { accessFlags := 10, nameIndex := 24, descriptorIndex := 25, attributes := #[] }, { accessFlags := 9, nameIndex := 29, descriptorIndex := 30, attributes := #[] }] 49 2 #[] #[])
  fields := #[]
  methods := #[k1m0, k1m1, k1m2]
  instanceTypes := #[]
  staticTypes := #[]
  resolved := Array.replicate 35 none
  statics := none }

def pool2 : Array CpInfo := pool [(3, .methodref 4 5), (0, .class_ 6), (0, .nameAndType 7 8), (0, u "java/lang/Object"), (0, u "<init>"), (0, u "()V"), (0, .fieldref 10 11), (0, .class_ 12), (0, .nameAndType 13 14), (0, u "com/example/libbuchi/libbuchi/automata/PackedStates"), (0, u "width"), (0, u "I"), (0, .fieldref 10 16), (0, .nameAndType 17 18), (0, u "words"), (0, u "[J"), (0, .fieldref 10 20), (0, .nameAndType 21 22), (0, u "slots"), (0, u "[I"), (0, .fieldref 10 24), (0, .nameAndType 25 14), (0, u "size"), (0, .methodref 10 27), (0, .nameAndType 28 29), (0, u "hash"), (0, u "([JI)I"), (0, .methodref 10 31), (0, .nameAndType 32 33), (0, u "holds"), (0, u "(I[J)Z"), (0, .long 2147483639), (8, .long 2), (10, .methodref 55 56), (0, .class_ 57), (0, .nameAndType 58 59), (0, u "java/lang/System"), (0, u "arraycopy"), (0, u "(Ljava/lang/Object;ILjava/lang/Object;II)V"), (6, .long 11400714819323198485), (1, u "MAX_SLOTS"), (1, u "MAX_WORDS"), (1, u "(I)V"), (3, u "add"), (0, u "([J)I"), (1, u "get"), (0, u "(I[J)V")] 3

def k2c0 : Code := { maxStack := 3, maxLocals := 2, code := prog_34_method_1_code, exceptionTable := #[], attributes := #[] }
def k2m0 : Method := { name := "<init>", desc := "(I)V", sig := { parameters := [.int], returnType := none }, accessFlags := 0, code := some k2c0 }
def k2c1 : Code := { maxStack := 8, maxLocals := 6, code := prog_34_method_3_code, exceptionTable := #[], attributes := #[] }
def k2m1 : Method := { name := "add", desc := "([J)I", sig := { parameters := [(.array .long)], returnType := some .int }, accessFlags := 0, code := some k2c1 }
def k2c2 : Code := { maxStack := 5, maxLocals := 3, code := prog_34_method_4_code, exceptionTable := #[], attributes := #[] }
def k2m2 : Method := { name := "get", desc := "(I[J)V", sig := { parameters := [.int, (.array .long)], returnType := none }, accessFlags := 0, code := some k2c2 }
def k2c3 : Code := { maxStack := 4, maxLocals := 5, code := prog_34_method_5_code, exceptionTable := #[], attributes := #[] }
def k2m3 : Method := { name := "holds", desc := "(I[J)Z", sig := { parameters := [.int, (.array .long)], returnType := some .boolean }, accessFlags := 2, code := some k2c3 }
def k2c4 : Code := { maxStack := 5, maxLocals := 6, code := prog_34_method_7_code, exceptionTable := #[], attributes := #[] }
def k2m4 : Method := { name := "hash", desc := "([JI)I", sig := { parameters := [(.array .long), .int], returnType := some .int }, accessFlags := 2, code := some k2c4 }
/-- com/example/libbuchi/libbuchi/automata/PackedStates -/
def k2 : Class := { plain "com/example/libbuchi/libbuchi/automata/PackedStates" (some 0) with
  accessFlags := 32
  interfaces := #[]
  cf := some (fileOf pool2 10 #[] #[{ accessFlags := 0, nameIndex := 7, descriptorIndex := 72, attributes := #[] }, { accessFlags := 0, nameIndex := 76, descriptorIndex := 77, attributes := #[] }, { accessFlags := 0, nameIndex := 79, descriptorIndex := 80, attributes := #[] }, { accessFlags := 2, nameIndex := 32, descriptorIndex := 33, attributes := #[] }, { accessFlags := 2, nameIndex := 28, descriptorIndex := 29, attributes := #[] }] 32 4 #[] #[{ accessFlags := 26, nameIndex := 68, descriptorIndex := 14, attributes := #[] }, { accessFlags := 26, nameIndex := 70, descriptorIndex := 14, attributes := #[] }, { accessFlags := 18, nameIndex := 13, descriptorIndex := 14, attributes := #[] }, { accessFlags := 2, nameIndex := 17, descriptorIndex := 18, attributes := #[] }, { accessFlags := 2, nameIndex := 21, descriptorIndex := 22, attributes := #[] }, { accessFlags := 2, nameIndex := 25, descriptorIndex := 14, attributes := #[] }])
  fields := #[{ name := "MAX_SLOTS", type := .int, accessFlags := 26, slot := 0, constantValue := 0 }, { name := "MAX_WORDS", type := .int, accessFlags := 26, slot := 1, constantValue := 0 }, { name := "width", type := .int, accessFlags := 18, slot := 0, constantValue := 0 }, { name := "words", type := (.array .long), accessFlags := 2, slot := 1, constantValue := 0 }, { name := "slots", type := (.array .int), accessFlags := 2, slot := 2, constantValue := 0 }, { name := "size", type := .int, accessFlags := 2, slot := 3, constantValue := 0 }]
  methods := #[k2m0, k2m1, k2m2, k2m3, k2m4]
  instanceTypes := #[.int, (.array .long), (.array .int), .int]
  staticTypes := #[.int, .int]
  resolved := Array.replicate 84 none
  statics := none }

def pool3 : Array CpInfo := pool [(2, .class_ 4), (1, u "java/lang/Object"), (0, u "<init>"), (0, u "()V"), (1, .class_ 10), (1, u "java/lang/System"), (0, u "allowSecurityManager"), (0, u "I"), (16, u "cons"), (0, u "Ljava/io/Console;"), (77, .class_ 110), (1, u "java/lang/System$CallersHolder"), (43, u "initialErrStream"), (0, u "Ljava/io/PrintStream;"), (19, u "security"), (0, u "Ljava/lang/SecurityManager;"), (31, .class_ 209), (0, u "java/lang/System$1"), (7, u "props"), (0, u "Ljava/util/Properties;"), (2, u "lineSeparator"), (0, u "Ljava/lang/String;"), (96, .class_ 321), (1, u "java/lang/System$LoggerFinder"), (5, .class_ 328), (0, u "java/lang/System$Logger"), (67, u "err"), (2, u "out"), (91, u "notSupportedJnuEncoding"), (15, u "in"), (17, u "initialIn"), (0, u "Ljava/io/InputStream;"), (35, u "bootLayer"), (0, u "Ljava/lang/ModuleLayer;"), (99, .class_ 664), (0, u "java/lang/System$2"), (9, u "NEVER"), (2, u "MAYBE"), (49, u "arraycopy"), (0, u "(Ljava/lang/Object;ILjava/lang/Object;II)V"), (72, .class_ 802), (0, u "java/lang/System$Logger$Level")] 31

def k3m0 : Method := { name := "<init>", desc := "()V", sig := { parameters := [], returnType := none }, accessFlags := 2, code := none }
def k3m1 : Method := { name := "arraycopy", desc := "(Ljava/lang/Object;ILjava/lang/Object;II)V", sig := { parameters := [(.object "java/lang/Object"), .int, (.object "java/lang/Object"), .int, .int], returnType := none }, accessFlags := 265, code := none }
/-- java/lang/System -/
def k3 : Class := { plain "java/lang/System" (some 0) with
  accessFlags := 49
  interfaces := #[]
  cf := some (fileOf pool3 8 #[.nestMembers #[319, 327, 801, 108, 663, 208]] #[{ accessFlags := 2, nameIndex := 5, descriptorIndex := 6, attributes := #[] }, { accessFlags := 265, nameIndex := 727, descriptorIndex := 728, attributes := #[] }] 49 2 #[] #[{ accessFlags := 25, nameIndex := 507, descriptorIndex := 526, attributes := #[] }, { accessFlags := 25, nameIndex := 399, descriptorIndex := 155, attributes := #[] }, { accessFlags := 25, nameIndex := 396, descriptorIndex := 155, attributes := #[] }, { accessFlags := 10, nameIndex := 525, descriptorIndex := 526, attributes := #[] }, { accessFlags := 26, nameIndex := 674, descriptorIndex := 12, attributes := #[] }, { accessFlags := 26, nameIndex := 677, descriptorIndex := 12, attributes := #[] }, { accessFlags := 10, nameIndex := 11, descriptorIndex := 12, attributes := #[] }, { accessFlags := 74, nameIndex := 175, descriptorIndex := 176, attributes := #[] }, { accessFlags := 10, nameIndex := 491, descriptorIndex := 222, attributes := #[] }, { accessFlags := 74, nameIndex := 29, descriptorIndex := 30, attributes := #[] }, { accessFlags := 74, nameIndex := 154, descriptorIndex := 155, attributes := #[] }, { accessFlags := 10, nameIndex := 217, descriptorIndex := 218, attributes := #[] }, { accessFlags := 10, nameIndex := 221, descriptorIndex := 222, attributes := #[] }, { accessFlags := 8, nameIndex := 562, descriptorIndex := 563, attributes := #[] }])
  fields := #[{ name := "in", type := (.object "java/io/InputStream"), accessFlags := 25, slot := 0, constantValue := 0 }, { name := "out", type := (.object "java/io/PrintStream"), accessFlags := 25, slot := 1, constantValue := 0 }, { name := "err", type := (.object "java/io/PrintStream"), accessFlags := 25, slot := 2, constantValue := 0 }, { name := "initialIn", type := (.object "java/io/InputStream"), accessFlags := 10, slot := 3, constantValue := 0 }, { name := "NEVER", type := .int, accessFlags := 26, slot := 4, constantValue := 0 }, { name := "MAYBE", type := .int, accessFlags := 26, slot := 5, constantValue := 0 }, { name := "allowSecurityManager", type := .int, accessFlags := 10, slot := 6, constantValue := 0 }, { name := "security", type := (.object "java/lang/SecurityManager"), accessFlags := 74, slot := 7, constantValue := 0 }, { name := "notSupportedJnuEncoding", type := (.object "java/lang/String"), accessFlags := 10, slot := 8, constantValue := 0 }, { name := "cons", type := (.object "java/io/Console"), accessFlags := 74, slot := 9, constantValue := 0 }, { name := "initialErrStream", type := (.object "java/io/PrintStream"), accessFlags := 74, slot := 10, constantValue := 0 }, { name := "props", type := (.object "java/util/Properties"), accessFlags := 10, slot := 11, constantValue := 0 }, { name := "lineSeparator", type := (.object "java/lang/String"), accessFlags := 10, slot := 12, constantValue := 0 }, { name := "bootLayer", type := (.object "java/lang/ModuleLayer"), accessFlags := 8, slot := 13, constantValue := 0 }]
  methods := #[k3m0, k3m1]
  instanceTypes := #[]
  staticTypes := #[(.object "java/io/InputStream"), (.object "java/io/PrintStream"), (.object "java/io/PrintStream"), (.object "java/io/InputStream"), .int, .int, .int, (.object "java/lang/SecurityManager"), (.object "java/lang/String"), (.object "java/io/Console"), (.object "java/io/PrintStream"), (.object "java/util/Properties"), (.object "java/lang/String"), (.object "java/lang/ModuleLayer")]
  resolved := Array.replicate 834 none
  statics := none }

def pool4 : Array CpInfo := pool [(1, u "java/lang/Cloneable"), (0, .class_ 1), (0, u "java/lang/Object"), (0, .class_ 3)] 3

/-- java/lang/Cloneable -/
def k4 : Class := { plain "java/lang/Cloneable" (some 0) with
  accessFlags := 1537
  interfaces := #[]
  cf := some (fileOf pool4 2 #[] #[] 1537 4 #[] #[])
  fields := #[]
  methods := #[]
  instanceTypes := #[]
  staticTypes := #[]
  resolved := Array.replicate 8 none
  statics := none }

def pool5 : Array CpInfo := pool [(1, u "java/io/Serializable"), (0, .class_ 1), (0, u "java/lang/Object"), (0, .class_ 3)] 3

/-- java/io/Serializable -/
def k5 : Class := { plain "java/io/Serializable" (some 0) with
  accessFlags := 1537
  interfaces := #[]
  cf := some (fileOf pool5 2 #[] #[] 1537 4 #[] #[])
  fields := #[]
  methods := #[]
  instanceTypes := #[]
  staticTypes := #[]
  resolved := Array.replicate 8 none
  statics := none }

/-- the primitive byte -/
def k6 : Class := { plain "byte" none with kind := .primitive 'B', accessFlags := 0x411 }
/-- [B -/
def k7 : Class := { plain "[B" (some 0) with kind := .array 6 .byte, interfaces := #[4, 5], accessFlags := 1041 }

/-- the primitive int -/
def k8 : Class := { plain "int" none with kind := .primitive 'I', accessFlags := 0x411 }
/-- [I -/
def k9 : Class := { plain "[I" (some 0) with kind := .array 8 .int, interfaces := #[4, 5], accessFlags := 1041 }

/-- the primitive long -/
def k10 : Class := { plain "long" none with kind := .primitive 'J', accessFlags := 0x411 }
/-- [J -/
def k11 : Class := { plain "[J" (some 0) with kind := .array 10 .long, interfaces := #[4, 5], accessFlags := 1041 }

def heap : Heap := #[]
def classes : Array Class := #[k0, k1, k2, k3, k4, k5, k6, k7, k8, k9, k10, k11]
def interned : List (Array UInt16 × Addr) := []
def slotsUsed : Nat := 0
def theMethod : MethodId := ⟨1, 2⟩
def args0 : Array Value := #[.long 5, .long 6, .long 7, .long 9, .int 2, .int 0]
def aboutOver (below : List Frame) : State where
  vm := { classes := classes, interned := interned.toArray }
  heap := heap
  slotsUsed := slotsUsed
  threads := #[{ frames := .invoking theMethod args0 :: below }]
def below0 : List Frame := [.native { method := ⟨0, 0⟩, args := #[] }]
def about1 : State := aboutOver below0
def p0 : Program := .bare "" "" ""
def e0 : Env := launch0.env 0 0 0
theorem w_frames : about1.frames = Frame.invoking theMethod args0 :: below0 := rfl
set_option maxRecDepth 65536 in
theorem w_args : argsFit about1.vm theMethod args0 = true := by decide +kernel
set_option maxRecDepth 65536 in
theorem w_heap : heapFits about1 = true := by decide +kernel
set_option maxRecDepth 65536 in
theorem w_runnable : about1.curStatus? = some .runnable := by decide +kernel
set_option maxRecDepth 65536 in
theorem w_alone : about1.alone = true := by decide +kernel
set_option maxRecDepth 65536 in
theorem w_named : about1.methodNamed? x = some theMethod := by decide +kernel
set_option maxRecDepth 65536 in
theorem w_hears : about1.hears theMethod below0 = true := by decide +kernel
set_option maxRecDepth 65536 in
theorem w_ripe : about1.ripe theMethod args0 below0 = true := by decide +kernel
theorem w_running : about1.status = .running := rfl
set_option maxRecDepth 65536 in
theorem w_room : about1.hasRoom e0.platform room_1 = true :=
  launch0.hasRoom_least _ room_1 (by decide +kernel) (by decide +kernel) (by decide +kernel) (by decide +kernel) (by decide +kernel) (by decide +kernel)
theorem allAtoms_all (ts : List Jvm.Cond) (a : Array Jvm.Value) (st : Jvm.State) : (allAtoms ts).before a st = ts.all (fun c => c.before a st) := by
  induction ts with
  | nil => rfl
  | cons c t ih =>
    show (Jvm.Cond.and c (allAtoms t)).before a st = _
    rw [Jvm.Cond.before_and, ih, List.all_cons]
def words1 : List Jvm.Cond := Jvm.Cond.code x code maxLocals ret :: tables_1
/-- a 'code' word, met by the world's own term for the bytes: nothing is compared byte by byte -/
theorem code_word {y : MethodName} {bytes : ByteArray} {mx : Nat} {rt : Option FieldType} {a : Array Value} {s : State} {m : MethodId} {meth : Method} {c : Code} (h1 : s.methodNamed? y = some m) (h2 : s.vm.method? m = some meth) (h3 : meth.code = some c) (h4 : c.code = bytes)
    (h5 : (c.maxLocals == mx && c.exceptionTable.isEmpty && decide (c.maxStack ≤ mostOperands) && decide (meth.sig.returnType = rt) && !meth.locks && decide (parseMethodDescriptor y.desc = some meth.sig)) = true) : (Jvm.Cond.code y bytes mx rt).before a s = true := by
  simp only [Bool.and_eq_true, beq_iff_eq, Bool.not_eq_true', decide_eq_true_eq] at h5
  obtain ⟨⟨⟨⟨⟨g1, g2⟩, g3⟩, g4⟩, g5⟩, g6⟩ := h5
  simp [Cond.before, Cond.holds, Cond.value, h1, h2, h3, h4, g1, g2, g3, g4, g5, g6]
def isCode : Jvm.Cond → Bool
  | .code _ _ _ _ => true
  | _ => false
theorem all_split {L : List Jvm.Cond} {P : Jvm.Cond → Bool} (h1 : L.all (fun c => isCode c || P c) = true) (h2 : ∀ c ∈ L.filter isCode, P c = true) : L.all P = true := by
  refine List.all_eq_true.mpr fun c hc => ?_
  have h := List.all_eq_true.mp h1 c hc
  rcases Bool.eq_false_or_eq_true (isCode c) with hi | hi
  · exact h2 c (List.mem_filter.mpr ⟨hc, hi⟩)
  · simpa [hi] using h
set_option maxRecDepth 65536 in
theorem w_c0 : (Jvm.Cond.code x code maxLocals ret).before args0 about1 = true := code_word (m := ⟨1, 2⟩) (meth := k1m2) (c := k1c2) (by decide +kernel) rfl rfl rfl (by decide +kernel)
set_option maxRecDepth 65536 in
theorem w_c1 : (Jvm.Cond.code ({ cls := "com/example/libbuchi/libbuchi/automata/PackedStates", name := "<init>", desc := "(I)V" } : Jvm.MethodName) prog_34_method_1_code (2 : Nat) (Option.none : Option Jvm.ClassFile.FieldType)).before args0 about1 = true := code_word (m := ⟨2, 0⟩) (meth := k2m0) (c := k2c0) (by decide +kernel) rfl rfl rfl (by decide +kernel)
set_option maxRecDepth 65536 in
theorem w_c2 : (Jvm.Cond.code ({ cls := "java/lang/Object", name := "<init>", desc := "()V" } : Jvm.MethodName) object_method_1_code (1 : Nat) (Option.none : Option Jvm.ClassFile.FieldType)).before args0 about1 = true := code_word (m := ⟨0, 0⟩) (meth := k0m0) (c := k0c0) (by decide +kernel) rfl rfl rfl (by decide +kernel)
set_option maxRecDepth 65536 in
theorem w_c3 : (Jvm.Cond.code ({ cls := "com/example/libbuchi/libbuchi/automata/PackedStates", name := "add", desc := "([J)I" } : Jvm.MethodName) prog_34_method_3_code (6 : Nat) (Option.some Jvm.ClassFile.FieldType.int)).before args0 about1 = true := code_word (m := ⟨2, 1⟩) (meth := k2m1) (c := k2c1) (by decide +kernel) rfl rfl rfl (by decide +kernel)
set_option maxRecDepth 65536 in
theorem w_c4 : (Jvm.Cond.code ({ cls := "com/example/libbuchi/libbuchi/automata/PackedStates", name := "hash", desc := "([JI)I" } : Jvm.MethodName) prog_34_method_7_code (6 : Nat) (Option.some Jvm.ClassFile.FieldType.int)).before args0 about1 = true := code_word (m := ⟨2, 4⟩) (meth := k2m4) (c := k2c4) (by decide +kernel) rfl rfl rfl (by decide +kernel)
set_option maxRecDepth 65536 in
theorem w_c5 : (Jvm.Cond.code ({ cls := "com/example/libbuchi/libbuchi/automata/PackedStates", name := "get", desc := "(I[J)V" } : Jvm.MethodName) prog_34_method_4_code (3 : Nat) (Option.none : Option Jvm.ClassFile.FieldType)).before args0 about1 = true := code_word (m := ⟨2, 2⟩) (meth := k2m2) (c := k2c2) (by decide +kernel) rfl rfl rfl (by decide +kernel)
set_option maxRecDepth 65536 in
theorem w_c6 : (Jvm.Cond.code ({ cls := "com/example/libbuchi/libbuchi/automata/PackedStatesGetPinLaw", name := "matches", desc := "([J[JIJ)Z" } : Jvm.MethodName) method_2_code (8 : Nat) (Option.some Jvm.ClassFile.FieldType.boolean)).before args0 about1 = true := code_word (m := ⟨1, 1⟩) (meth := k1m1) (c := k1c1) (by decide +kernel) rfl rfl rfl (by decide +kernel)
set_option maxRecDepth 65536 in
theorem w_c7 : (Jvm.Cond.code ({ cls := "com/example/libbuchi/libbuchi/automata/PackedStates", name := "holds", desc := "(I[J)Z" } : Jvm.MethodName) prog_34_method_5_code (5 : Nat) (Option.some Jvm.ClassFile.FieldType.boolean)).before args0 about1 = true := code_word (m := ⟨2, 3⟩) (meth := k2m3) (c := k2c3) (by decide +kernel) rfl rfl rfl (by decide +kernel)
def codes1 : List Jvm.Cond := [Jvm.Cond.code x code maxLocals ret, Jvm.Cond.code ({ cls := "com/example/libbuchi/libbuchi/automata/PackedStates", name := "<init>", desc := "(I)V" } : Jvm.MethodName) prog_34_method_1_code (2 : Nat) (Option.none : Option Jvm.ClassFile.FieldType), Jvm.Cond.code ({ cls := "java/lang/Object", name := "<init>", desc := "()V" } : Jvm.MethodName) object_method_1_code (1 : Nat) (Option.none : Option Jvm.ClassFile.FieldType), Jvm.Cond.code ({ cls := "com/example/libbuchi/libbuchi/automata/PackedStates", name := "add", desc := "([J)I" } : Jvm.MethodName) prog_34_method_3_code (6 : Nat) (Option.some Jvm.ClassFile.FieldType.int), Jvm.Cond.code ({ cls := "com/example/libbuchi/libbuchi/automata/PackedStates", name := "hash", desc := "([JI)I" } : Jvm.MethodName) prog_34_method_7_code (6 : Nat) (Option.some Jvm.ClassFile.FieldType.int), Jvm.Cond.code ({ cls := "com/example/libbuchi/libbuchi/automata/PackedStates", name := "get", desc := "(I[J)V" } : Jvm.MethodName) prog_34_method_4_code (3 : Nat) (Option.none : Option Jvm.ClassFile.FieldType), Jvm.Cond.code ({ cls := "com/example/libbuchi/libbuchi/automata/PackedStatesGetPinLaw", name := "matches", desc := "([J[JIJ)Z" } : Jvm.MethodName) method_2_code (8 : Nat) (Option.some Jvm.ClassFile.FieldType.boolean), Jvm.Cond.code ({ cls := "com/example/libbuchi/libbuchi/automata/PackedStates", name := "holds", desc := "(I[J)Z" } : Jvm.MethodName) prog_34_method_5_code (5 : Nat) (Option.some Jvm.ClassFile.FieldType.boolean)]
set_option maxRecDepth 65536 in
theorem codes_eq : words1.filter isCode = codes1 := rfl
theorem w_codes : ∀ c ∈ words1.filter isCode, c.before args0 about1 = true := by
  rw [codes_eq]
  intro c hc
  simp only [codes1, List.mem_cons, List.not_mem_nil, or_false] at hc
  rcases hc with rfl | rfl | rfl | rfl | rfl | rfl | rfl | rfl
  · exact w_c0
  · exact w_c1
  · exact w_c2
  · exact w_c3
  · exact w_c4
  · exact w_c5
  · exact w_c6
  · exact w_c7
set_option maxRecDepth 65536 in
theorem w_t1 : (words1.take 24).all (fun c => isCode c || c.before args0 about1) = true := by decide +kernel
set_option maxRecDepth 65536 in
theorem w_t2 : ((words1.drop 24).take 24).all (fun c => isCode c || c.before args0 about1) = true := by decide +kernel
set_option maxRecDepth 65536 in
theorem w_t3 : ((words1.drop 24).drop 24).all (fun c => isCode c || c.before args0 about1) = true := by decide +kernel
theorem w_tables : (allAtoms (Jvm.Cond.code x code maxLocals ret :: tables_1)).before args0 about1 = true := by
  rw [allAtoms_all]
  show words1.all (fun c => c.before args0 about1) = true
  refine all_split ?_ w_codes
  rw [← List.take_append_drop 24 words1, List.all_append, w_t1, ← List.take_append_drop 24 (words1.drop 24), List.all_append, w_t2, w_t3]
  rfl
set_option maxRecDepth 65536 in
theorem w_case : (Jvm.Cond.and given_1 narrow_1).before args0 about1 = true := by decide +kernel
theorem w_applies : (headSpec (Jvm.Cond.code x code maxLocals ret :: tables_1) room_1).applies x e0.platform about1 = true :=
  (Spec.applies_iff w_frames).mpr ⟨w_running, w_runnable, w_alone, w_named, w_hears, w_ripe, w_room, w_tables⟩
theorem atStart : AtStart classFile x code maxLocals ret World_1 tables_1 room_1 Calls_1 rest_1 Pre_1 launch0 p0 e0 about1 theMethod args0 below0 :=
  ⟨lists_1, trivial, launch0.admits_env _ _ _, launch0.least_env, fairChoices_fair.cas, fairChoices_fair.clock, w_frames, w_args, w_heap, w_applies, trivial, trivial, w_case⟩
end start1
theorem witness_1 : WitnessClaimed_1 := ⟨start1.p0, start1.e0, start1.about1, start1.theMethod, start1.args0, start1.below0, start1.atStart⟩
end Jvm.Pilot.@@N@@
