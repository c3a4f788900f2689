import JvmDerived
import JvmDerived.Pilot.@@N@@Statement
import JvmDerived.Pilot.@@N@@Code
set_option linter.unusedVariables false
set_option linter.unusedSimpArgs false
namespace Jvm.Pilot.@@N@@
open Jvm Jvm.ClassFile Sem Op Lib Jvm.Free Jvm.Stand Jvm.LawKit Jvm.RoadKit Bundle Jvm.Pilot.@@N@@.Jvm.D
section Own
variable {p : Program} {l : Launch} {e : Env} {R : Room} {s : State} {m : MethodId} {args : Array Value} {below : List Frame} {meth : Method} {c : Code} {T : State} {locs : List Loc} {cells slots : Nat} {Z : State} {a0 : Array Value} {K : State → Outcome → Prop} {pc pc' : Nat} {Ls : Array Slot} {st : List Value} {h : Heap}
/-- from here the run ends, and what is left is as K says -/
def own_Go (p : Program) (e : Env) (below : List Frame) (K : State → Outcome → Prop) (T : State) (f : JFrame) : Prop :=
  ∃ s₂ o, Steps p.tables e below (T.setTop f) s₂ ∧ s₂.status = .running ∧ Ended s₂ below o ∧ K s₂ o
def own_K (Q : Option Value → Heap → List Loc → Prop) (s : State) (cs ss : Nat) : State → Outcome → Prop := fun u o => ∃ v L, o = .returned v ∧ Q v u.heap L ∧ FrameEnd s o u L cs ss
theorem own_go {T' : State} {f f' : JFrame} (h : ∀ t, Steps p.tables e below (T'.setTop f') t → Steps p.tables e below (T.setTop f) t) (k : own_Go p e below K T' f') : own_Go p e below K T f := by
  obtain ⟨a, b, c, d⟩ := k
  exact ⟨a, b, h _ c, d⟩
theorem own_w {tb : List Jvm.Cond} (hw : ∀ d ∈ tb, d.before a0 Z = true) {d : Jvm.Cond} (k : Nat) (h : tb[k]? = some d) : d.before a0 Z = true := hw _ (List.mem_of_getElem? h)
/-- a method's contract: called with these arguments over this heap it returns, and Q says what it leaves -/
abbrev own_Met (l : Launch) (Z : State) (y : MethodName) (bytes : ByteArray) (mx : Nat) (rt : Option FieldType) (ws : List Jvm.Cond) (rm : Room) (as : Array Value) (h0 : Heap) (Q : Option Value → Heap → List Loc → Prop) : Prop :=
  MetFree l y (head1 (Jvm.Cond.code y bytes mx rt :: ws) rm) (fun a U => a = as ∧ Z.Warmed39 U.vm ∧ U.heap = h0) (fun _ _ _ _ _ => True) (fun _ U o U' => ∃ v L, o = .returned v ∧ Q v U'.heap L ∧ FrameEnd U o U' L rm.cells rm.slots)
theorem own_body {y : MethodName} {bytes : ByteArray} {mx : Nat} {rt : Option FieldType} {ws : List Jvm.Cond} {rm : Room} {as : Array Value} {h0 : Heap} {Q : Option Value → Heap → List Loc → Prop} (hp : plainFor y = true)
    (body : ∀ (p : Program) (e : Env) (s : State) (m : MethodId) (below : List Frame) (meth : Method) (c : Code) (T : State), Stand p l e rm s m as below meth c T [] 0 0 → p.tables.exec = Jvm.exec → c.code = bytes → c.maxLocals = mx → meth.sig.returnType = rt → meth.locks = false → Z.Warmed39 s.vm → s.vm.findClass y.cls = some m.cls → meth.name = y.name → T.heap = h0 →
      own_Go p e below (own_K Q s rm.cells rm.slots) T (entryFrame m as mx)) : own_Met l Z y bytes mx rt ws rm as h0 Q := by
  refine MetFree.of_bodySF hp hisR ?_
  intro p e s m args below meth c s₁ Bd hml0 hP hK
  obtain ⟨rfl, hZ, hh⟩ := hP
  exact body p e s m below meth c s₁ (Stand.of_body Bd) Bd.exec Bd.bytes hml0 Bd.returns Bd.notSynchronized hZ (findClass_of_methodNamed Bd.named) (name_of_methodNamed Bd.named Bd.method).1 (by rw [← hh, Bd.state]; rfl)
theorem own_ret (X : Stand p l e R s m args below meth c T locs cells slots) (hx : p.tables.exec = Jvm.exec) {Q : Option Value → Heap → List Loc → Prop} {cs ss : Nat} {w : Value} {t : FieldType} {i : Instr} {rest : List Value} (hlk : meth.locks = false) (hret : meth.sig.returnType = some t) (hd : decode c.code pc = .ok (i, 1)) (hn : narrow t w = w)
    (hi : (i = .ireturn ∧ (t = .int ∨ t = .boolean ∨ t = .byte ∨ t = .char ∨ t = .short) ∧ ∃ z, w = .int z) ∨ (i = .lreturn ∧ t = .long ∧ ∃ z, w = .long z) ∨ (i = .dreturn ∧ t = .double ∧ ∃ z, w = .double z) ∨ (i = .freturn ∧ t = .float ∧ ∃ z, w = .float z) ∨ (i = .areturn ∧ t.isReference = true ∧ w.isRef = true))
    (hc : cells ≤ cs) (hs : slots ≤ ss) (hq : Q (some w) T.heap locs) : own_Go p e below (own_K Q s cs ss) T (mkF m pc Ls (w :: rest)) := by
  obtain ⟨fs, hr, hrun, hended, hW, hsame⟩ := X.leave (v := some w) (fun h => by rw [hret] at h; cases h) hlk
  exact ⟨_, _, retOut X hx hret hn hi hd hr, hrun, hended, _, _, rfl, hq, ⟨_, rfl⟩, hW, hsame.mono hc hs⟩
theorem own_retI (X : Stand p l e R s m args below meth c T locs cells slots) (hx : p.tables.exec = Jvm.exec) {Q : Option Value → Heap → List Loc → Prop} {cs ss : Nat} {z : Int32} {rest : List Value} (hlk : meth.locks = false) (hret : meth.sig.returnType = some .int) (hd : decode c.code pc = .ok (.ireturn, 1)) (hc : cells ≤ cs) (hs : slots ≤ ss) (hq : Q (some (.int z)) T.heap locs) : own_Go p e below (own_K Q s cs ss) T (mkF m pc Ls (.int z :: rest)) :=
  own_ret X hx hlk hret hd rfl (Or.inl ⟨rfl, Or.inl rfl, z, rfl⟩) hc hs hq
theorem own_retZ (X : Stand p l e R s m args below meth c T locs cells slots) (hx : p.tables.exec = Jvm.exec) {Q : Option Value → Heap → List Loc → Prop} {cs ss : Nat} {z : Int32} {rest : List Value} (hlk : meth.locks = false) (hret : meth.sig.returnType = some .boolean) (hd : decode c.code pc = .ok (.ireturn, 1)) (hn : z = 0 ∨ z = 1) (hc : cells ≤ cs) (hs : slots ≤ ss) (hq : Q (some (.int z)) T.heap locs) : own_Go p e below (own_K Q s cs ss) T (mkF m pc Ls (.int z :: rest)) :=
  own_ret X hx hlk hret hd (by rcases hn with rfl | rfl <;> rfl) (Or.inl ⟨rfl, Or.inr (Or.inl rfl), z, rfl⟩) hc hs hq
theorem own_retJ (X : Stand p l e R s m args below meth c T locs cells slots) (hx : p.tables.exec = Jvm.exec) {Q : Option Value → Heap → List Loc → Prop} {cs ss : Nat} {z : Int64} {rest : List Value} (hlk : meth.locks = false) (hret : meth.sig.returnType = some .long) (hd : decode c.code pc = .ok (.lreturn, 1)) (hc : cells ≤ cs) (hs : slots ≤ ss) (hq : Q (some (.long z)) T.heap locs) : own_Go p e below (own_K Q s cs ss) T (mkF m pc Ls (.long z :: rest)) :=
  own_ret X hx hlk hret hd rfl (Or.inr (Or.inl ⟨rfl, rfl, z, rfl⟩)) hc hs hq
theorem own_retA (X : Stand p l e R s m args below meth c T locs cells slots) (hx : p.tables.exec = Jvm.exec) {Q : Option Value → Heap → List Loc → Prop} {cs ss : Nat} {w : Value} {t : FieldType} {rest : List Value} (hlk : meth.locks = false) (hret : meth.sig.returnType = some t) (hd : decode c.code pc = .ok (.areturn, 1)) (ht : t.isReference = true) (hv : w.isRef = true) (hc : cells ≤ cs) (hs : slots ≤ ss) (hq : Q (some w) T.heap locs) : own_Go p e below (own_K Q s cs ss) T (mkF m pc Ls (w :: rest)) :=
  own_ret X hx hlk hret hd (by rcases ref_cases hv with rfl | ⟨a, rfl⟩ <;> cases t <;> first | rfl | cases ht) (Or.inr (Or.inr (Or.inr (Or.inr ⟨rfl, ht, hv⟩)))) hc hs hq
theorem own_retV (X : Stand p l e R s m args below meth c T locs cells slots) (hx : p.tables.exec = Jvm.exec) {Q : Option Value → Heap → List Loc → Prop} {cs ss : Nat} (hlk : meth.locks = false) (hret : meth.sig.returnType = none) (hd : decode c.code pc = .ok (.return_, 1)) (hc : cells ≤ cs) (hs : slots ≤ ss) (hq : Q none T.heap locs) : own_Go p e below (own_K Q s cs ss) T (mkF m pc Ls []) := by
  obtain ⟨fs, hr, hrun, hended, hW, hsame⟩ := X.leave (v := none) (fun _ => rfl) hlk
  exact ⟨_, _, X.returnOut hx hret hd hr, hrun, hended, _, _, rfl, hq, ⟨_, rfl⟩, hW, hsame.mono hc hs⟩
/-- the two roads of a conditional branch -/
theorem own_if (X : Stand p l e R s m args below meth c T locs cells slots) (hx : p.tables.exec = Jvm.exec) {cd : ClassFile.Cond} {o : Int} {z : Int32} {rest : List Value} (hd : decode c.code pc = .ok (.ifCond cd o, 3)) (ho : 0 ≤ (pc : Int) + o) (hp : ((pc : Int) + o).toNat = pc') {pc1 : Nat} (hp1 : pc + 3 = pc1) (P : Prop) (h1 : P → ifCond.holds cd z = true) (h2 : ¬ P → ifCond.holds cd z = false)
    (kt : P → own_Go p e below K T (mkF m pc' Ls rest)) (kf : ¬ P → own_Go p e below K T (mkF m pc1 Ls rest)) : own_Go p e below K T (mkF m pc Ls (.int z :: rest)) := by
  subst hp1
  by_cases q : P
  · exact own_go (fun t k => XS.ifYes X.here hx (g := mkF m pc Ls (.int z :: rest)) rfl (pc0 := pc) (pc' := pc') rfl hd rfl (h1 q) ho hp k) (kt q)
  · exact own_go (fun t k => XS.ifNo X.here hx (g := mkF m pc Ls (.int z :: rest)) rfl hd rfl (h2 q) k) (kf q)
theorem own_icmp (X : Stand p l e R s m args below meth c T locs cells slots) (hx : p.tables.exec = Jvm.exec) {cd : ClassFile.Cond} {o : Int} {y z : Int32} {rest : List Value} (hd : decode c.code pc = .ok (.if_icmp cd o, 3)) (ho : 0 ≤ (pc : Int) + o) (hp : ((pc : Int) + o).toNat = pc') {pc1 : Nat} (hp1 : pc + 3 = pc1) (P : Prop) (h1 : P → if_icmp.holds cd y z = true) (h2 : ¬ P → if_icmp.holds cd y z = false)
    (kt : P → own_Go p e below K T (mkF m pc' Ls rest)) (kf : ¬ P → own_Go p e below K T (mkF m pc1 Ls rest)) : own_Go p e below K T (mkF m pc Ls (.int z :: .int y :: rest)) := by
  subst hp1
  by_cases q : P
  · exact own_go (fun t k => XS.icmpYes X.here hx (g := mkF m pc Ls (.int z :: .int y :: rest)) rfl (pc0 := pc) (pc' := pc') rfl hd rfl (h1 q) ho hp k) (kt q)
  · exact own_go (fun t k => XS.icmpNo X.here hx (g := mkF m pc Ls (.int z :: .int y :: rest)) rfl hd rfl (h2 q) k) (kf q)
theorem own_callS (X : Stand p l e R s m args below meth c T locs cells slots) (hx : p.tables.exec = Jvm.exec) (hZ : Z.Warmed39 s.vm) {own : String} {index : Nat} {y : MethodName} {bytes : ByteArray} {mx : Nat} {rt : Option FieldType} {rm : Room} {argsL rest : List Value} {Q : Option Value → Heap → List Loc → Prop}
    (hown : s.vm.findClass own = some m.cls) (w1 : (Jvm.Cond.methodLink own index y).before a0 Z = true) (w2 : (Jvm.Cond.static y).before a0 Z = true) (w3 : (Jvm.Cond.initialized y.cls).before a0 Z = true) (w4 : (Jvm.Cond.code y bytes mx rt).before a0 Z = true) (hy : y.cls ≠ "java/lang/invoke/MethodHandle" ∧ y.cls ≠ "java/lang/invoke/VarHandle")
    (eT : T.heap = h) (hM : own_Met l Z y bytes mx rt [] rm argsL.toArray h Q) (W : Nat) (hf : rm.frames + 1 ≤ R.frames) (hl : W + (mx + 11) + rm.locals ≤ R.locals) (hcl : cells + rm.cells ≤ R.cells) (hsl : slots + rm.slots ≤ R.slots) (hsz : Ls.size = c.maxLocals) (hlen : ∀ sig, parseMethodDescriptor y.desc = some sig → argsL.length = sig.parameters.length)
    (hst : st = argsL.reverse ++ rest) (hW : (rest.map fun v => v.category).sum ≤ W) (hd : decode c.code pc = .ok (.invokestatic index, 3)) :
    ∃ v T' L, Stand p l e R s m args below meth c T' (locs ++ L) (cells + rm.cells) (slots + rm.slots) ∧ Q v T'.heap L ∧ ∀ t, Steps p.tables e below (T'.setTop (mkF m (pc + 3) Ls (v.toList ++ rest))) t → Steps p.tables e below (T.setTop (mkF m pc Ls st)) t := by
  obtain ⟨v, vm1, ⟨T', L', k', n'⟩, -, X', ⟨L, hQ, l1, l2, l3⟩, stp⟩ := Jvm.LawKit.callS X hx (y := y) hown (mvT hZ w1) (mvT hZ w2) (mvT hZ w3) (mvT hZ w4) hy (backOf (W := W) hM hZ w4 w3 hf hl) (g := mkF m pc Ls st) rfl hsz (argsL := argsL) (rest := rest) hlen hst (by show 2 * 0 + _ ≤ _; omega) hd (fun _ _ => ⟨rfl, eT, hcl, hsl⟩)
  dsimp only [Pt.U, Pt.locs, Pt.cells, Pt.slots] at X' l1 l2 l3 stp hQ
  subst l1 l2 l3
  exact ⟨v, T', L, X', hQ, stp⟩
theorem own_callV (X : Stand p l e R s m args below meth c T locs cells slots) (hx : p.tables.exec = Jvm.exec) (hZ : Z.Warmed39 s.vm) {own C : String} {index : Nat} {y z : MethodName} {bytes : ByteArray} {mx : Nat} {rt : Option FieldType} {rm : Room} {b : Addr} {argsL rest : List Value} {Q : Option Value → Heap → List Loc → Prop}
    (hown : s.vm.findClass own = some m.cls) (w1 : (Jvm.Cond.methodLink own index y).before a0 Z = true) (w2 : (Jvm.Cond.declares y).before a0 Z = true) (w3 : (Jvm.Cond.selects C y z).before a0 Z = true) (hnf : NotFace s y) (w4 : (Jvm.Cond.instanceMethod z).before a0 Z = true) (w5 : (Jvm.Cond.code z bytes mx rt).before a0 Z = true) (w6 : (Jvm.Cond.initialized z.cls).before a0 Z = true) (hy : y.cls ≠ "java/lang/invoke/MethodHandle" ∧ y.cls ≠ "java/lang/invoke/VarHandle")
    (eT : T.heap = h) (E : Exa Z h b C) (hM : own_Met l Z z bytes mx rt [] rm (.ref b :: argsL).toArray h Q) (W : Nat) (hf : rm.frames + 1 ≤ R.frames) (hl : W + (mx + 11) + rm.locals ≤ R.locals) (hcl : cells + rm.cells ≤ R.cells) (hsl : slots + rm.slots ≤ R.slots) (hsz : Ls.size = c.maxLocals) (hlen : ∀ sig, parseMethodDescriptor y.desc = some sig → argsL.length = sig.parameters.length)
    (hst : st = argsL.reverse ++ .ref b :: rest) (hW : (rest.map fun v => v.category).sum ≤ W) (hd : decode c.code pc = .ok (.invokevirtual index, 3)) :
    ∃ v T' L, Stand p l e R s m args below meth c T' (locs ++ L) (cells + rm.cells) (slots + rm.slots) ∧ Q v T'.heap L ∧ ∀ t, Steps p.tables e below (T'.setTop (mkF m (pc + 3) Ls (v.toList ++ rest))) t → Steps p.tables e below (T.setTop (mkF m pc Ls st)) t := by
  obtain ⟨cq, kq, q1, q2, q3⟩ := isOf hZ eT E
  obtain ⟨v, vm1, ⟨T', L', k', n'⟩, -, X', ⟨L, hQ, l1, l2, l3⟩, stp⟩ := X.virtualBack hx (y := y) (z := z) hown (mvT hZ w1) (mvT hZ w2) hnf (mvT hZ w3) (mvT hZ w4) hy (backOf (W := W) hM hZ w5 w6 hf hl) q1 q3 (g := mkF m pc Ls st) rfl hsz (Steps.refl _) (argsL := argsL) (rest := rest) hlen hst (by show 2 * 0 + _ ≤ _; omega) hd (fun _ _ => ⟨rfl, eT, hcl, hsl⟩)
  dsimp only [Pt.U, Pt.locs, Pt.cells, Pt.slots] at X' l1 l2 l3 stp hQ
  subst l1 l2 l3
  exact ⟨v, T', L, X', hQ, fun t k => stp.trans k⟩
theorem own_callU (X : Stand p l e R s m args below meth c T locs cells slots) (hx : p.tables.exec = Jvm.exec) (hZ : Z.Warmed39 s.vm) {own C owner : String} {index : Nat} {y z : MethodName} {bytes : ByteArray} {mx : Nat} {rt : Option FieldType} {rm : Room} {b : Addr} {argsL rest : List Value} {Q : Option Value → Heap → List Loc → Prop}
    (hown : s.vm.findClass own = some m.cls) (w1 : (Jvm.Cond.methodLink own index y).before a0 Z = true) (w2 : (Jvm.Cond.sameMethod y.cls owner y.name y.desc).before a0 Z = true) (w2' : (Jvm.Cond.declares ⟨owner, y.name, y.desc⟩).before a0 Z = true) (w3 : (Jvm.Cond.selects C y z).before a0 Z = true) (w4 : (Jvm.Cond.instanceMethod z).before a0 Z = true) (w5 : (Jvm.Cond.code z bytes mx rt).before a0 Z = true) (w6 : (Jvm.Cond.initialized z.cls).before a0 Z = true) (hy : owner ≠ "java/lang/invoke/MethodHandle" ∧ owner ≠ "java/lang/invoke/VarHandle")
    (eT : T.heap = h) (E : Exa Z h b C) (hM : own_Met l Z z bytes mx rt [] rm (.ref b :: argsL).toArray h Q) (W : Nat) (hf : rm.frames + 1 ≤ R.frames) (hl : W + (mx + 11) + rm.locals ≤ R.locals) (hcl : cells + rm.cells ≤ R.cells) (hsl : slots + rm.slots ≤ R.slots) (hsz : Ls.size = c.maxLocals) (hlen : ∀ sig, parseMethodDescriptor y.desc = some sig → argsL.length = sig.parameters.length)
    (hst : st = argsL.reverse ++ .ref b :: rest) (hW : (rest.map fun v => v.category).sum ≤ W) (hd : decode c.code pc = .ok (.invokevirtual index, 3)) :
    ∃ v T' L, Stand p l e R s m args below meth c T' (locs ++ L) (cells + rm.cells) (slots + rm.slots) ∧ Q v T'.heap L ∧ ∀ t, Steps p.tables e below (T'.setTop (mkF m (pc + 3) Ls (v.toList ++ rest))) t → Steps p.tables e below (T.setTop (mkF m pc Ls st)) t := by
  obtain ⟨cq, kq, q1, q2, q3⟩ := isOf hZ eT E
  obtain ⟨v, vm1, ⟨T', L', k', n'⟩, -, X', ⟨L, hQ, l1, l2, l3⟩, stp⟩ := X.virtualBackUp hx (x := y) (y := z) hown (mvT hZ w1) (mvT hZ w2) (mvT hZ w2') hy (mvT hZ w3) (mvT hZ w4) (backOf (W := W) hM hZ w5 w6 hf hl) q1 q3 (g := mkF m pc Ls st) rfl hsz (Steps.refl _) (argsL := argsL) (rest := rest) hlen hst (by show 2 * 0 + _ ≤ _; omega) hd (fun _ _ => ⟨rfl, eT, hcl, hsl⟩)
  dsimp only [Pt.U, Pt.locs, Pt.cells, Pt.slots] at X' l1 l2 l3 stp hQ
  subst l1 l2 l3
  exact ⟨v, T', L, X', hQ, fun t k => stp.trans k⟩
theorem own_callC (X : Stand p l e R s m args below meth c T locs cells slots) (hx : p.tables.exec = Jvm.exec) (hZ : Z.Warmed39 s.vm) {own : String} {index : Nat} {y : MethodName} {bytes : ByteArray} {mx : Nat} {rm : Room} {b : Addr} {argsL rest : List Value} {Q : Option Value → Heap → List Loc → Prop}
    (hy1 : y.name = "<init>") (hown : s.vm.findClass own = some m.cls) (w1 : (Jvm.Cond.methodLink own index y).before a0 Z = true) (w4 : (Jvm.Cond.instanceMethod y).before a0 Z = true) (w5 : (Jvm.Cond.code y bytes mx none).before a0 Z = true) (w6 : (Jvm.Cond.initialized y.cls).before a0 Z = true) (hy : y.cls ≠ "java/lang/invoke/MethodHandle" ∧ y.cls ≠ "java/lang/invoke/VarHandle")
    (eT : T.heap = h) (hM : own_Met l Z y bytes mx none [] rm (.ref b :: argsL).toArray h Q) (W : Nat) (hf : rm.frames + 1 ≤ R.frames) (hl : W + (mx + 11) + rm.locals ≤ R.locals) (hcl : cells + rm.cells ≤ R.cells) (hsl : slots + rm.slots ≤ R.slots) (hsz : Ls.size = c.maxLocals) (hlen : ∀ sig, parseMethodDescriptor y.desc = some sig → argsL.length = sig.parameters.length)
    (hst : st = argsL.reverse ++ .ref b :: rest) (hW : (rest.map fun v => v.category).sum ≤ W) (hd : decode c.code pc = .ok (.invokespecial index, 3)) :
    ∃ v T' L, Stand p l e R s m args below meth c T' (locs ++ L) (cells + rm.cells) (slots + rm.slots) ∧ Q v T'.heap L ∧ ∀ t, Steps p.tables e below (T'.setTop (mkF m (pc + 3) Ls (v.toList ++ rest))) t → Steps p.tables e below (T.setTop (mkF m pc Ls st)) t := by
  obtain ⟨v, vm1, ⟨T', L', k', n'⟩, -, X', ⟨L, hQ, l1, l2, l3⟩, stp⟩ := X.specialBack hx (y := y) hy1 hown (mvT hZ w1) (mvT hZ w4) (mvT hZ w5) hy (backOf (W := W) hM hZ w5 w6 hf hl) (g := mkF m pc Ls st) rfl hsz (Steps.refl _) (a := b) (argsL := argsL) (rest := rest) hlen hst (by show 2 * 0 + _ ≤ _; omega) hd (fun _ _ => ⟨rfl, eT, hcl, hsl⟩)
  dsimp only [Pt.U, Pt.locs, Pt.cells, Pt.slots] at X' l1 l2 l3 stp hQ
  subst l1 l2 l3
  exact ⟨v, T', L, X', hQ, fun t k => stp.trans k⟩
end Own
section OwnStart
variable {Z : State} {args : Array Value} {t u : Term} {a : Addr} {C n d : String}
theorem own_eqI {k : Int32} (h : (Jvm.Cond.eq t (.int k)).value args Z none Z [] = some true) : t.eval args Z none [] Z = some (.int k) := by
  simp only [Cond.value, Term.eval] at h
  cases ht : t.eval args Z none [] Z with
  | none => simp [ht] at h
  | some x => cases x <;> simp [ht] at h ⊢; exact h
theorem own_eqJ {k : Int64} (h : (Jvm.Cond.eq t (.long k)).value args Z none Z [] = some true) : t.eval args Z none [] Z = some (.long k) := by
  simp only [Cond.value, Term.eval] at h
  cases ht : t.eval args Z none [] Z with
  | none => simp [ht] at h
  | some x => cases x <;> simp [ht] at h ⊢; exact h
theorem own_fld {v : Value} (ev : t.eval args Z none [] Z = some (.ref a)) (h : (Term.field t C n d).eval args Z none [] Z = some v) : Fld Z Z.heap a C n d v := Fld.start ((fld_at ev).symm.trans h)
theorem own_eqR {b : Addr} (ha : t.eval args Z none [] Z = some (.ref b)) (h : (Jvm.Cond.eq u t).value args Z none Z [] = some true) : u.eval args Z none [] Z = some (.ref b) := by
  cases hu : u.eval args Z none [] Z with
  | none => simp [Cond.value, hu] at h
  | some x => cases x <;> simp [Cond.value, hu, ha] at h ⊢; exact h
theorem own_lenOf {cl : Cell} {ty : FieldType} {k : Int32} (ev : t.eval args Z none [] Z = some (.ref a)) (A : Arr Z Z.heap a cl ty) (h : (Term.length t).eval args Z none [] Z = some (.int k)) : cl.slots.size < 2 ^ 31 ∧ cl.slots.size.toInt32 = k := by
  have q := A.fin (Vm.Alike.refl _)
  by_cases hl : cl.slots.size < 2 ^ 31
  · rw [len_f ev q hl] at h
    exact ⟨hl, by cases h; rfl⟩
  · simp [Term.eval, ev, q, hl] at h
end OwnStart
theorem pn_com_example_lease_lease_model_Outcome : plainName "com/example/lease/lease/model/Outcome" = true := by first | (simp [plainName, overriddenIn]; done) | decide +kernel
theorem ef_1SUCCEEDED (m : MethodId) (x0 : Addr) : entryFrame m #[(.ref x0)] 1 = mkF m 0 #[.val (.ref x0)] [] := by first | (simp [entryFrame, mkF, argsToLocals, Value.category]; done) | rfl
theorem d1_0 : decode prog_16_method_4_code 0 = .ok (.aload_n 0, 1) := by decide +kernel
theorem d1_1 : decode prog_16_method_4_code 1 = .ok (.getstatic 7, 3) := by decide +kernel
theorem d1_4 : decode prog_16_method_4_code 4 = .ok (.if_acmp .eq 10, 3) := by decide +kernel
theorem d1_7 : decode prog_16_method_4_code 7 = .ok (.aload_n 0, 1) := by decide +kernel
theorem d1_8 : decode prog_16_method_4_code 8 = .ok (.getstatic 10, 3) := by decide +kernel
theorem d1_11 : decode prog_16_method_4_code 11 = .ok (.if_acmp .ne 7, 3) := by decide +kernel
theorem d1_18 : decode prog_16_method_4_code 18 = .ok (.iconst 0, 1) := by decide +kernel
theorem d1_19 : decode prog_16_method_4_code 19 = .ok (.ireturn, 1) := by decide +kernel
theorem ef_1FAILED (m : MethodId) (x0 : Addr) : entryFrame m #[(.ref x0)] 1 = mkF m 0 #[.val (.ref x0)] [] := by first | (simp [entryFrame, mkF, argsToLocals, Value.category]; done) | rfl
theorem d1_14 : decode prog_16_method_4_code 14 = .ok (.iconst 1, 1) := by decide +kernel
theorem d1_15 : decode prog_16_method_4_code 15 = .ok (.goto 4, 3) := by decide +kernel
theorem ef_1EXPIRED (m : MethodId) (x0 : Addr) : entryFrame m #[(.ref x0)] 1 = mkF m 0 #[.val (.ref x0)] [] := by first | (simp [entryFrame, mkF, argsToLocals, Value.category]; done) | rfl
theorem ef_1CANCELLED (m : MethodId) (x0 : Addr) : entryFrame m #[(.ref x0)] 1 = mkF m 0 #[.val (.ref x0)] [] := by first | (simp [entryFrame, mkF, argsToLocals, Value.category]; done) | rfl
theorem pn_com_example_lease_lease_model_OutcomeRetriablePinLaw : plainName "com/example/lease/lease/model/OutcomeRetriablePinLaw" = true := by first | (simp [plainName, overriddenIn]; done) | decide +kernel
theorem ef_0 (m : MethodId) (x0 : Int32) : entryFrame m #[(.int x0)] maxLocals = mkF m 0 #[.val (.int x0), .unset, .unset, .unset] [] := by first | (simp [entryFrame, mkF, argsToLocals, Value.category, maxLocals]; done) | rfl
theorem pd_0 : parseMethodDescriptor "()Z" = some ⟨[], some .boolean⟩ := by decide +kernel
set_option maxRecDepth 65536 in
set_option maxHeartbeats 40000000 in
theorem rm1SUCCEEDED (l : Launch) (Z : State) (a0 : Array Value) (hw : ∀ d ∈ tables_1, d.before a0 Z = true) (ws : List Jvm.Cond) (a_SUCCEEDED : Addr) (a_FAILED : Addr) (a_EXPIRED : Addr) (a_CANCELLED : Addr) (h0 : Heap) (n0 : Nat) (Z0 : n0 ≤ h0.size) (S_SUCCEEDED : Sta Z h0 "com/example/lease/lease/model/Outcome" "SUCCEEDED" "Lcom/example/lease/lease/model/Outcome;" (.ref a_SUCCEEDED)) (E_SUCCEEDED : Exa Z h0 a_SUCCEEDED "com/example/lease/lease/model/Outcome") (S_FAILED : Sta Z h0 "com/example/lease/lease/model/Outcome" "FAILED" "Lcom/example/lease/lease/model/Outcome;" (.ref a_FAILED)) (E_FAILED : Exa Z h0 a_FAILED "com/example/lease/lease/model/Outcome") (S_EXPIRED : Sta Z h0 "com/example/lease/lease/model/Outcome" "EXPIRED" "Lcom/example/lease/lease/model/Outcome;" (.ref a_EXPIRED)) (E_EXPIRED : Exa Z h0 a_EXPIRED "com/example/lease/lease/model/Outcome") (S_CANCELLED : Sta Z h0 "com/example/lease/lease/model/Outcome" "CANCELLED" "Lcom/example/lease/lease/model/Outcome;" (.ref a_CANCELLED)) (E_CANCELLED : Exa Z h0 a_CANCELLED "com/example/lease/lease/model/Outcome") (F_SUCCEEDED_ordinal : Fld Z h0 a_SUCCEEDED "java/lang/Enum" "ordinal" "I" (.int (0 : Int32))) (F_FAILED_ordinal : Fld Z h0 a_FAILED "java/lang/Enum" "ordinal" "I" (.int (1 : Int32))) (F_EXPIRED_ordinal : Fld Z h0 a_EXPIRED "java/lang/Enum" "ordinal" "I" (.int (2 : Int32))) (F_CANCELLED_ordinal : Fld Z h0 a_CANCELLED "java/lang/Enum" "ordinal" "I" (.int (3 : Int32))) :
    own_Met l Z (⟨"com/example/lease/lease/model/Outcome", "retriable", "()Z"⟩ : MethodName) prog_16_method_4_code 1 (some .boolean) ws ({ frames := 0, cells := 0, slots := 0, locals := 0 } : Room) #[(.ref a_SUCCEEDED)] h0 (fun v h L => v = some (.int 0) ∧ Fr n0 L ∧ h = h0) := by
  refine own_body (by first | exact plainFor_of_name pn_com_example_lease_lease_model_Outcome | decide +kernel) ?_
  intro p e s m below meth c T0 X0 hx hby hml hret hlk hZ hown hnm e0
  have hown : s.vm.findClass "com/example/lease/lease/model/Outcome" = some m.cls := hown
  have hnm : meth.name = "retriable" := hnm
  have N0 := Fr.nil n0
  rw [ef_1SUCCEEDED m a_SUCCEEDED]
  show own_Go p e below _ T0 (mkF m 0 #[.val (.ref a_SUCCEEDED)] [])
  refine own_go (fun t k => XS.aloadN X0.here hx rfl (hb hby d1_0) rfl rfl k) ?_
  show own_Go p e below _ T0 (mkF m 1 #[.val (.ref a_SUCCEEDED)] [(.ref a_SUCCEEDED)])
  obtain ⟨T1, X1, e1, st1⟩ := getS2 X0 hx hZ hown (host := "") (Or.inl (own_w hw 8 rfl)) Via.refl e0 S_FAILED (g := (mkF m 1 #[.val (.ref a_SUCCEEDED)] [(.ref a_SUCCEEDED)])) rfl (hb hby d1_1)
  refine own_go st1 ?_
  show own_Go p e below _ T1 (mkF m 4 #[.val (.ref a_SUCCEEDED)] [(.ref a_FAILED), (.ref a_SUCCEEDED)])
  refine own_go (fun t k => XT.acmpNo X1.here hx rfl (hb hby d1_4) rfl rfl rfl (XT.aa_eq_f (fun q => (F_SUCCEEDED_ordinal.ne F_FAILED_ordinal (by decide)) (Value.ref.inj q))) k) ?_
  show own_Go p e below _ T1 (mkF m 7 #[.val (.ref a_SUCCEEDED)] [])
  refine own_go (fun t k => XS.aloadN X1.here hx rfl (hb hby d1_7) rfl rfl k) ?_
  show own_Go p e below _ T1 (mkF m 8 #[.val (.ref a_SUCCEEDED)] [(.ref a_SUCCEEDED)])
  obtain ⟨T2, X2, e2, st2⟩ := getS2 X1 hx hZ hown (host := "") (Or.inl (own_w hw 10 rfl)) Via.refl e1 S_EXPIRED (g := (mkF m 8 #[.val (.ref a_SUCCEEDED)] [(.ref a_SUCCEEDED)])) rfl (hb hby d1_8)
  refine own_go st2 ?_
  show own_Go p e below _ T2 (mkF m 11 #[.val (.ref a_SUCCEEDED)] [(.ref a_EXPIRED), (.ref a_SUCCEEDED)])
  refine own_go (fun t k => XT.acmpYes X2.here hx rfl (pc0 := 11) (pc' := 18) rfl (hb hby d1_11) rfl rfl rfl (XT.aa_ne_t (fun q => (F_SUCCEEDED_ordinal.ne F_EXPIRED_ordinal (by decide)) (Value.ref.inj q))) (by decide) (by decide) k) ?_
  show own_Go p e below _ T2 (mkF m 18 #[.val (.ref a_SUCCEEDED)] [])
  refine own_go (fun t k => XS.iconst X2.here hx rfl (hb hby d1_18) k) ?_
  show own_Go p e below _ T2 (mkF m 19 #[.val (.ref a_SUCCEEDED)] [(.int (0 : Int32))])
  refine own_retZ X2 hx hlk hret (hb hby d1_19) (Or.inl rfl) (by decide) (by decide) ?_
  exact ⟨rfl, N0, e2⟩
set_option maxRecDepth 65536 in
set_option maxHeartbeats 40000000 in
theorem rm1FAILED (l : Launch) (Z : State) (a0 : Array Value) (hw : ∀ d ∈ tables_1, d.before a0 Z = true) (ws : List Jvm.Cond) (a_SUCCEEDED : Addr) (a_FAILED : Addr) (a_EXPIRED : Addr) (a_CANCELLED : Addr) (h0 : Heap) (n0 : Nat) (Z0 : n0 ≤ h0.size) (S_SUCCEEDED : Sta Z h0 "com/example/lease/lease/model/Outcome" "SUCCEEDED" "Lcom/example/lease/lease/model/Outcome;" (.ref a_SUCCEEDED)) (E_SUCCEEDED : Exa Z h0 a_SUCCEEDED "com/example/lease/lease/model/Outcome") (S_FAILED : Sta Z h0 "com/example/lease/lease/model/Outcome" "FAILED" "Lcom/example/lease/lease/model/Outcome;" (.ref a_FAILED)) (E_FAILED : Exa Z h0 a_FAILED "com/example/lease/lease/model/Outcome") (S_EXPIRED : Sta Z h0 "com/example/lease/lease/model/Outcome" "EXPIRED" "Lcom/example/lease/lease/model/Outcome;" (.ref a_EXPIRED)) (E_EXPIRED : Exa Z h0 a_EXPIRED "com/example/lease/lease/model/Outcome") (S_CANCELLED : Sta Z h0 "com/example/lease/lease/model/Outcome" "CANCELLED" "Lcom/example/lease/lease/model/Outcome;" (.ref a_CANCELLED)) (E_CANCELLED : Exa Z h0 a_CANCELLED "com/example/lease/lease/model/Outcome") (F_SUCCEEDED_ordinal : Fld Z h0 a_SUCCEEDED "java/lang/Enum" "ordinal" "I" (.int (0 : Int32))) (F_FAILED_ordinal : Fld Z h0 a_FAILED "java/lang/Enum" "ordinal" "I" (.int (1 : Int32))) (F_EXPIRED_ordinal : Fld Z h0 a_EXPIRED "java/lang/Enum" "ordinal" "I" (.int (2 : Int32))) (F_CANCELLED_ordinal : Fld Z h0 a_CANCELLED "java/lang/Enum" "ordinal" "I" (.int (3 : Int32))) :
    own_Met l Z (⟨"com/example/lease/lease/model/Outcome", "retriable", "()Z"⟩ : MethodName) prog_16_method_4_code 1 (some .boolean) ws ({ frames := 0, cells := 0, slots := 0, locals := 0 } : Room) #[(.ref a_FAILED)] h0 (fun v h L => v = some (.int 1) ∧ Fr n0 L ∧ h = h0) := by
  refine own_body (by first | exact plainFor_of_name pn_com_example_lease_lease_model_Outcome | decide +kernel) ?_
  intro p e s m below meth c T0 X0 hx hby hml hret hlk hZ hown hnm e0
  have hown : s.vm.findClass "com/example/lease/lease/model/Outcome" = some m.cls := hown
  have hnm : meth.name = "retriable" := hnm
  have N0 := Fr.nil n0
  rw [ef_1FAILED m a_FAILED]
  show own_Go p e below _ T0 (mkF m 0 #[.val (.ref a_FAILED)] [])
  refine own_go (fun t k => XS.aloadN X0.here hx rfl (hb hby d1_0) rfl rfl k) ?_
  show own_Go p e below _ T0 (mkF m 1 #[.val (.ref a_FAILED)] [(.ref a_FAILED)])
  obtain ⟨T1, X1, e1, st1⟩ := getS2 X0 hx hZ hown (host := "") (Or.inl (own_w hw 8 rfl)) Via.refl e0 S_FAILED (g := (mkF m 1 #[.val (.ref a_FAILED)] [(.ref a_FAILED)])) rfl (hb hby d1_1)
  refine own_go st1 ?_
  show own_Go p e below _ T1 (mkF m 4 #[.val (.ref a_FAILED)] [(.ref a_FAILED), (.ref a_FAILED)])
  refine own_go (fun t k => XT.acmpYes X1.here hx rfl (pc0 := 4) (pc' := 14) rfl (hb hby d1_4) rfl rfl rfl (XT.aa_eq_t rfl) (by decide) (by decide) k) ?_
  show own_Go p e below _ T1 (mkF m 14 #[.val (.ref a_FAILED)] [])
  refine own_go (fun t k => XS.iconst X1.here hx rfl (hb hby d1_14) k) ?_
  show own_Go p e below _ T1 (mkF m 15 #[.val (.ref a_FAILED)] [(.int (1 : Int32))])
  refine own_go (fun t k => XS.goto X1.here hx rfl (pc0 := 15) (pc' := 19) rfl (hb hby d1_15) (by decide) (by decide) k) ?_
  show own_Go p e below _ T1 (mkF m 19 #[.val (.ref a_FAILED)] [(.int (1 : Int32))])
  refine own_retZ X1 hx hlk hret (hb hby d1_19) (Or.inr rfl) (by decide) (by decide) ?_
  exact ⟨rfl, N0, e1⟩
set_option maxRecDepth 65536 in
set_option maxHeartbeats 40000000 in
theorem rm1EXPIRED (l : Launch) (Z : State) (a0 : Array Value) (hw : ∀ d ∈ tables_1, d.before a0 Z = true) (ws : List Jvm.Cond) (a_SUCCEEDED : Addr) (a_FAILED : Addr) (a_EXPIRED : Addr) (a_CANCELLED : Addr) (h0 : Heap) (n0 : Nat) (Z0 : n0 ≤ h0.size) (S_SUCCEEDED : Sta Z h0 "com/example/lease/lease/model/Outcome" "SUCCEEDED" "Lcom/example/lease/lease/model/Outcome;" (.ref a_SUCCEEDED)) (E_SUCCEEDED : Exa Z h0 a_SUCCEEDED "com/example/lease/lease/model/Outcome") (S_FAILED : Sta Z h0 "com/example/lease/lease/model/Outcome" "FAILED" "Lcom/example/lease/lease/model/Outcome;" (.ref a_FAILED)) (E_FAILED : Exa Z h0 a_FAILED "com/example/lease/lease/model/Outcome") (S_EXPIRED : Sta Z h0 "com/example/lease/lease/model/Outcome" "EXPIRED" "Lcom/example/lease/lease/model/Outcome;" (.ref a_EXPIRED)) (E_EXPIRED : Exa Z h0 a_EXPIRED "com/example/lease/lease/model/Outcome") (S_CANCELLED : Sta Z h0 "com/example/lease/lease/model/Outcome" "CANCELLED" "Lcom/example/lease/lease/model/Outcome;" (.ref a_CANCELLED)) (E_CANCELLED : Exa Z h0 a_CANCELLED "com/example/lease/lease/model/Outcome") (F_SUCCEEDED_ordinal : Fld Z h0 a_SUCCEEDED "java/lang/Enum" "ordinal" "I" (.int (0 : Int32))) (F_FAILED_ordinal : Fld Z h0 a_FAILED "java/lang/Enum" "ordinal" "I" (.int (1 : Int32))) (F_EXPIRED_ordinal : Fld Z h0 a_EXPIRED "java/lang/Enum" "ordinal" "I" (.int (2 : Int32))) (F_CANCELLED_ordinal : Fld Z h0 a_CANCELLED "java/lang/Enum" "ordinal" "I" (.int (3 : Int32))) :
    own_Met l Z (⟨"com/example/lease/lease/model/Outcome", "retriable", "()Z"⟩ : MethodName) prog_16_method_4_code 1 (some .boolean) ws ({ frames := 0, cells := 0, slots := 0, locals := 0 } : Room) #[(.ref a_EXPIRED)] h0 (fun v h L => v = some (.int 1) ∧ Fr n0 L ∧ h = h0) := by
  refine own_body (by first | exact plainFor_of_name pn_com_example_lease_lease_model_Outcome | decide +kernel) ?_
  intro p e s m below meth c T0 X0 hx hby hml hret hlk hZ hown hnm e0
  have hown : s.vm.findClass "com/example/lease/lease/model/Outcome" = some m.cls := hown
  have hnm : meth.name = "retriable" := hnm
  have N0 := Fr.nil n0
  rw [ef_1EXPIRED m a_EXPIRED]
  show own_Go p e below _ T0 (mkF m 0 #[.val (.ref a_EXPIRED)] [])
  refine own_go (fun t k => XS.aloadN X0.here hx rfl (hb hby d1_0) rfl rfl k) ?_
  show own_Go p e below _ T0 (mkF m 1 #[.val (.ref a_EXPIRED)] [(.ref a_EXPIRED)])
  obtain ⟨T1, X1, e1, st1⟩ := getS2 X0 hx hZ hown (host := "") (Or.inl (own_w hw 8 rfl)) Via.refl e0 S_FAILED (g := (mkF m 1 #[.val (.ref a_EXPIRED)] [(.ref a_EXPIRED)])) rfl (hb hby d1_1)
  refine own_go st1 ?_
  show own_Go p e below _ T1 (mkF m 4 #[.val (.ref a_EXPIRED)] [(.ref a_FAILED), (.ref a_EXPIRED)])
  refine own_go (fun t k => XT.acmpNo X1.here hx rfl (hb hby d1_4) rfl rfl rfl (XT.aa_eq_f (fun q => (F_EXPIRED_ordinal.ne F_FAILED_ordinal (by decide)) (Value.ref.inj q))) k) ?_
  show own_Go p e below _ T1 (mkF m 7 #[.val (.ref a_EXPIRED)] [])
  refine own_go (fun t k => XS.aloadN X1.here hx rfl (hb hby d1_7) rfl rfl k) ?_
  show own_Go p e below _ T1 (mkF m 8 #[.val (.ref a_EXPIRED)] [(.ref a_EXPIRED)])
  obtain ⟨T2, X2, e2, st2⟩ := getS2 X1 hx hZ hown (host := "") (Or.inl (own_w hw 10 rfl)) Via.refl e1 S_EXPIRED (g := (mkF m 8 #[.val (.ref a_EXPIRED)] [(.ref a_EXPIRED)])) rfl (hb hby d1_8)
  refine own_go st2 ?_
  show own_Go p e below _ T2 (mkF m 11 #[.val (.ref a_EXPIRED)] [(.ref a_EXPIRED), (.ref a_EXPIRED)])
  refine own_go (fun t k => XT.acmpNo X2.here hx rfl (hb hby d1_11) rfl rfl rfl (XT.aa_ne_f rfl) k) ?_
  show own_Go p e below _ T2 (mkF m 14 #[.val (.ref a_EXPIRED)] [])
  refine own_go (fun t k => XS.iconst X2.here hx rfl (hb hby d1_14) k) ?_
  show own_Go p e below _ T2 (mkF m 15 #[.val (.ref a_EXPIRED)] [(.int (1 : Int32))])
  refine own_go (fun t k => XS.goto X2.here hx rfl (pc0 := 15) (pc' := 19) rfl (hb hby d1_15) (by decide) (by decide) k) ?_
  show own_Go p e below _ T2 (mkF m 19 #[.val (.ref a_EXPIRED)] [(.int (1 : Int32))])
  refine own_retZ X2 hx hlk hret (hb hby d1_19) (Or.inr rfl) (by decide) (by decide) ?_
  exact ⟨rfl, N0, e2⟩
set_option maxRecDepth 65536 in
set_option maxHeartbeats 40000000 in
theorem rm1CANCELLED (l : Launch) (Z : State) (a0 : Array Value) (hw : ∀ d ∈ tables_1, d.before a0 Z = true) (ws : List Jvm.Cond) (a_SUCCEEDED : Addr) (a_FAILED : Addr) (a_EXPIRED : Addr) (a_CANCELLED : Addr) (h0 : Heap) (n0 : Nat) (Z0 : n0 ≤ h0.size) (S_SUCCEEDED : Sta Z h0 "com/example/lease/lease/model/Outcome" "SUCCEEDED" "Lcom/example/lease/lease/model/Outcome;" (.ref a_SUCCEEDED)) (E_SUCCEEDED : Exa Z h0 a_SUCCEEDED "com/example/lease/lease/model/Outcome") (S_FAILED : Sta Z h0 "com/example/lease/lease/model/Outcome" "FAILED" "Lcom/example/lease/lease/model/Outcome;" (.ref a_FAILED)) (E_FAILED : Exa Z h0 a_FAILED "com/example/lease/lease/model/Outcome") (S_EXPIRED : Sta Z h0 "com/example/lease/lease/model/Outcome" "EXPIRED" "Lcom/example/lease/lease/model/Outcome;" (.ref a_EXPIRED)) (E_EXPIRED : Exa Z h0 a_EXPIRED "com/example/lease/lease/model/Outcome") (S_CANCELLED : Sta Z h0 "com/example/lease/lease/model/Outcome" "CANCELLED" "Lcom/example/lease/lease/model/Outcome;" (.ref a_CANCELLED)) (E_CANCELLED : Exa Z h0 a_CANCELLED "com/example/lease/lease/model/Outcome") (F_SUCCEEDED_ordinal : Fld Z h0 a_SUCCEEDED "java/lang/Enum" "ordinal" "I" (.int (0 : Int32))) (F_FAILED_ordinal : Fld Z h0 a_FAILED "java/lang/Enum" "ordinal" "I" (.int (1 : Int32))) (F_EXPIRED_ordinal : Fld Z h0 a_EXPIRED "java/lang/Enum" "ordinal" "I" (.int (2 : Int32))) (F_CANCELLED_ordinal : Fld Z h0 a_CANCELLED "java/lang/Enum" "ordinal" "I" (.int (3 : Int32))) :
    own_Met l Z (⟨"com/example/lease/lease/model/Outcome", "retriable", "()Z"⟩ : MethodName) prog_16_method_4_code 1 (some .boolean) ws ({ frames := 0, cells := 0, slots := 0, locals := 0 } : Room) #[(.ref a_CANCELLED)] h0 (fun v h L => v = some (.int 0) ∧ Fr n0 L ∧ h = h0) := by
  refine own_body (by first | exact plainFor_of_name pn_com_example_lease_lease_model_Outcome | decide +kernel) ?_
  intro p e s m below meth c T0 X0 hx hby hml hret hlk hZ hown hnm e0
  have hown : s.vm.findClass "com/example/lease/lease/model/Outcome" = some m.cls := hown
  have hnm : meth.name = "retriable" := hnm
  have N0 := Fr.nil n0
  rw [ef_1CANCELLED m a_CANCELLED]
  show own_Go p e below _ T0 (mkF m 0 #[.val (.ref a_CANCELLED)] [])
  refine own_go (fun t k => XS.aloadN X0.here hx rfl (hb hby d1_0) rfl rfl k) ?_
  show own_Go p e below _ T0 (mkF m 1 #[.val (.ref a_CANCELLED)] [(.ref a_CANCELLED)])
  obtain ⟨T1, X1, e1, st1⟩ := getS2 X0 hx hZ hown (host := "") (Or.inl (own_w hw 8 rfl)) Via.refl e0 S_FAILED (g := (mkF m 1 #[.val (.ref a_CANCELLED)] [(.ref a_CANCELLED)])) rfl (hb hby d1_1)
  refine own_go st1 ?_
  show own_Go p e below _ T1 (mkF m 4 #[.val (.ref a_CANCELLED)] [(.ref a_FAILED), (.ref a_CANCELLED)])
  refine own_go (fun t k => XT.acmpNo X1.here hx rfl (hb hby d1_4) rfl rfl rfl (XT.aa_eq_f (fun q => (F_CANCELLED_ordinal.ne F_FAILED_ordinal (by decide)) (Value.ref.inj q))) k) ?_
  show own_Go p e below _ T1 (mkF m 7 #[.val (.ref a_CANCELLED)] [])
  refine own_go (fun t k => XS.aloadN X1.here hx rfl (hb hby d1_7) rfl rfl k) ?_
  show own_Go p e below _ T1 (mkF m 8 #[.val (.ref a_CANCELLED)] [(.ref a_CANCELLED)])
  obtain ⟨T2, X2, e2, st2⟩ := getS2 X1 hx hZ hown (host := "") (Or.inl (own_w hw 10 rfl)) Via.refl e1 S_EXPIRED (g := (mkF m 8 #[.val (.ref a_CANCELLED)] [(.ref a_CANCELLED)])) rfl (hb hby d1_8)
  refine own_go st2 ?_
  show own_Go p e below _ T2 (mkF m 11 #[.val (.ref a_CANCELLED)] [(.ref a_EXPIRED), (.ref a_CANCELLED)])
  refine own_go (fun t k => XT.acmpYes X2.here hx rfl (pc0 := 11) (pc' := 18) rfl (hb hby d1_11) rfl rfl rfl (XT.aa_ne_t (fun q => (F_CANCELLED_ordinal.ne F_EXPIRED_ordinal (by decide)) (Value.ref.inj q))) (by decide) (by decide) k) ?_
  show own_Go p e below _ T2 (mkF m 18 #[.val (.ref a_CANCELLED)] [])
  refine own_go (fun t k => XS.iconst X2.here hx rfl (hb hby d1_18) k) ?_
  show own_Go p e below _ T2 (mkF m 19 #[.val (.ref a_CANCELLED)] [(.int (0 : Int32))])
  refine own_retZ X2 hx hlk hret (hb hby d1_19) (Or.inl rfl) (by decide) (by decide) ?_
  exact ⟨rfl, N0, e2⟩
set_option maxRecDepth 65536 in
set_option maxHeartbeats 40000000 in
theorem rm0 (l : Launch) (Z : State) (a0 : Array Value) (hw : ∀ d ∈ tables_1, d.before a0 Z = true) (ws : List Jvm.Cond) (p1 : Int32) (a_SUCCEEDED : Addr) (a_FAILED : Addr) (a_EXPIRED : Addr) (a_CANCELLED : Addr) (h0 : Heap) (n0 : Nat) (Z0 : n0 ≤ h0.size) (S_SUCCEEDED : Sta Z h0 "com/example/lease/lease/model/Outcome" "SUCCEEDED" "Lcom/example/lease/lease/model/Outcome;" (.ref a_SUCCEEDED)) (E_SUCCEEDED : Exa Z h0 a_SUCCEEDED "com/example/lease/lease/model/Outcome") (S_FAILED : Sta Z h0 "com/example/lease/lease/model/Outcome" "FAILED" "Lcom/example/lease/lease/model/Outcome;" (.ref a_FAILED)) (E_FAILED : Exa Z h0 a_FAILED "com/example/lease/lease/model/Outcome") (S_EXPIRED : Sta Z h0 "com/example/lease/lease/model/Outcome" "EXPIRED" "Lcom/example/lease/lease/model/Outcome;" (.ref a_EXPIRED)) (E_EXPIRED : Exa Z h0 a_EXPIRED "com/example/lease/lease/model/Outcome") (S_CANCELLED : Sta Z h0 "com/example/lease/lease/model/Outcome" "CANCELLED" "Lcom/example/lease/lease/model/Outcome;" (.ref a_CANCELLED)) (E_CANCELLED : Exa Z h0 a_CANCELLED "com/example/lease/lease/model/Outcome") (F_SUCCEEDED_ordinal : Fld Z h0 a_SUCCEEDED "java/lang/Enum" "ordinal" "I" (.int (0 : Int32))) (F_FAILED_ordinal : Fld Z h0 a_FAILED "java/lang/Enum" "ordinal" "I" (.int (1 : Int32))) (F_EXPIRED_ordinal : Fld Z h0 a_EXPIRED "java/lang/Enum" "ordinal" "I" (.int (2 : Int32))) (F_CANCELLED_ordinal : Fld Z h0 a_CANCELLED "java/lang/Enum" "ordinal" "I" (.int (3 : Int32))) :
    own_Met l Z x code maxLocals ret ws room_1 #[(.int p1)] h0 (fun v h L => v = some (.int 1) ∧ Fr n0 L) := by
  refine own_body (by first | exact plainFor_of_name pn_com_example_lease_lease_model_OutcomeRetriablePinLaw | decide +kernel) ?_
  intro p e s m below meth c T0 X0 hx hby hml hret hlk hZ hown hnm e0
  have hown : s.vm.findClass "com/example/lease/lease/model/OutcomeRetriablePinLaw" = some m.cls := hown
  have hnm : meth.name = "law" := hnm
  have N0 := Fr.nil n0
  rw [ef_0 m p1]
  show own_Go p e below _ T0 (mkF m 0 #[.val (.int p1), .unset, .unset, .unset] [])
  refine own_go (fun t k => XS.iloadN X0.here hx rfl (hb hby at_0) rfl k) ?_
  show own_Go p e below _ T0 (mkF m 1 #[.val (.int p1), .unset, .unset, .unset] [(.int p1)])
  refine own_go (fun t k => XS.iconst X0.here hx rfl (hb hby at_1) k) ?_
  show own_Go p e below _ T0 (mkF m 2 #[.val (.int p1), .unset, .unset, .unset] [(.int (3 : Int32)), (.int p1)])
  refine own_go (fun t k => XS.iand X0.here hx rfl (hb hby at_2) rfl k) ?_
  show own_Go p e below _ T0 (mkF m 3 #[.val (.int p1), .unset, .unset, .unset] [(.int (p1 &&& (3 : Int32)))])
  refine own_go (fun t k => XS.istoreN X0.here hx rfl (hb hby at_3) rfl (l' := #[.val (.int p1), .val (.int (p1 &&& (3 : Int32))), .unset, .unset]) rfl k) ?_
  show own_Go p e below _ T0 (mkF m 4 #[.val (.int p1), .val (.int (p1 &&& (3 : Int32))), .unset, .unset] [])
  refine own_go (fun t k => XS.iloadN X0.here hx rfl (hb hby at_4) rfl k) ?_
  show own_Go p e below _ T0 (mkF m 5 #[.val (.int p1), .val (.int (p1 &&& (3 : Int32))), .unset, .unset] [(.int (p1 &&& (3 : Int32)))])
  by_cases hc5 : (p1 &&& (3 : Int32)) = 0
  · show own_Go p e below _ T0 (mkF m 5 #[.val (.int p1), .val (.int (p1 &&& (3 : Int32))), .unset, .unset] [(.int (p1 &&& (3 : Int32)))])
    refine own_go (fun t k => XS.ifNo X0.here hx rfl (hb hby at_5) rfl (XT.i0_ne_f hc5) k) ?_
    show own_Go p e below _ T0 (mkF m 8 #[.val (.int p1), .val (.int (p1 &&& (3 : Int32))), .unset, .unset] [])
    obtain ⟨T1, X1, e1, st1⟩ := getS2 X0 hx hZ hown (host := "") (Or.inl (own_w hw 0 rfl)) Via.refl e0 S_SUCCEEDED (g := (mkF m 8 #[.val (.int p1), .val (.int (p1 &&& (3 : Int32))), .unset, .unset] [])) rfl (hb hby at_8)
    refine own_go st1 ?_
    show own_Go p e below _ T1 (mkF m 11 #[.val (.int p1), .val (.int (p1 &&& (3 : Int32))), .unset, .unset] [(.ref a_SUCCEEDED)])
    refine own_go (fun t k => XS.astoreN X1.here hx rfl (hb hby at_11) rfl rfl (l' := #[.val (.int p1), .val (.int (p1 &&& (3 : Int32))), .val (.ref a_SUCCEEDED), .unset]) rfl k) ?_
    show own_Go p e below _ T1 (mkF m 12 #[.val (.int p1), .val (.int (p1 &&& (3 : Int32))), .val (.ref a_SUCCEEDED), .unset] [])
    refine own_go (fun t k => XS.iconst X1.here hx rfl (hb hby at_12) k) ?_
    show own_Go p e below _ T1 (mkF m 13 #[.val (.int p1), .val (.int (p1 &&& (3 : Int32))), .val (.ref a_SUCCEEDED), .unset] [(.int (0 : Int32))])
    refine own_go (fun t k => XS.istoreN X1.here hx rfl (hb hby at_13) rfl (l' := #[.val (.int p1), .val (.int (p1 &&& (3 : Int32))), .val (.ref a_SUCCEEDED), .val (.int (0 : Int32))]) rfl k) ?_
    show own_Go p e below _ T1 (mkF m 14 #[.val (.int p1), .val (.int (p1 &&& (3 : Int32))), .val (.ref a_SUCCEEDED), .val (.int (0 : Int32))] [])
    refine own_go (fun t k => XS.goto X1.here hx rfl (pc0 := 14) (pc' := 51) rfl (hb hby at_14) (by decide) (by decide) k) ?_
    show own_Go p e below _ T1 (mkF m 51 #[.val (.int p1), .val (.int (p1 &&& (3 : Int32))), .val (.ref a_SUCCEEDED), .val (.int (0 : Int32))] [])
    refine own_go (fun t k => XS.aloadN X1.here hx rfl (hb hby at_51) rfl rfl k) ?_
    show own_Go p e below _ T1 (mkF m 52 #[.val (.int p1), .val (.int (p1 &&& (3 : Int32))), .val (.ref a_SUCCEEDED), .val (.int (0 : Int32))] [(.ref a_SUCCEEDED)])
    obtain ⟨_, T2, L2, X2, ⟨rfl, N2, e2⟩, st2⟩ := own_callV X1 hx hZ (y := (⟨"com/example/lease/lease/model/Outcome", "retriable", "()Z"⟩ : MethodName)) (z := (⟨"com/example/lease/lease/model/Outcome", "retriable", "()Z"⟩ : MethodName)) (b := a_SUCCEEDED) (argsL := []) (rest := []) (Ls := #[.val (.int p1), .val (.int (p1 &&& (3 : Int32))), .val (.ref a_SUCCEEDED), .val (.int (0 : Int32))]) hown (own_w hw 3 rfl) (own_w hw 4 rfl) (own_w hw 6 rfl) (notFace_of_selects (args := #[]) (mvT hZ (own_w hw 6 rfl))) (own_w hw 5 rfl) (own_w hw 7 rfl) (own_w hw 1 rfl) (by decide) e1 E_SUCCEEDED (rm1SUCCEEDED l Z a0 hw [] a_SUCCEEDED a_FAILED a_EXPIRED a_CANCELLED h0 n0 Z0 S_SUCCEEDED E_SUCCEEDED S_FAILED E_FAILED S_EXPIRED E_EXPIRED S_CANCELLED E_CANCELLED F_SUCCEEDED_ordinal F_FAILED_ordinal F_EXPIRED_ordinal F_CANCELLED_ordinal) 0 (by decide) (by decide) (by decide) (by decide) (by rw [hml]; rfl) (lenOf pd_0 rfl) rfl (Nat.le_of_eq rfl) (hb hby at_52)
    have M2 := Fr.app N0 N2
    refine own_go st2 ?_
    show own_Go p e below _ T2 (mkF m 55 #[.val (.int p1), .val (.int (p1 &&& (3 : Int32))), .val (.ref a_SUCCEEDED), .val (.int (0 : Int32))] [(.int (0 : Int32))])
    refine own_go (fun t k => XS.iloadN X2.here hx rfl (hb hby at_55) rfl k) ?_
    show own_Go p e below _ T2 (mkF m 56 #[.val (.int p1), .val (.int (p1 &&& (3 : Int32))), .val (.ref a_SUCCEEDED), .val (.int (0 : Int32))] [(.int (0 : Int32)), (.int (0 : Int32))])
    refine own_go (fun t k => XS.icmpNo X2.here hx rfl (hb hby at_56) rfl (XT.ii_ne_f (by decide)) k) ?_
    show own_Go p e below _ T2 (mkF m 59 #[.val (.int p1), .val (.int (p1 &&& (3 : Int32))), .val (.ref a_SUCCEEDED), .val (.int (0 : Int32))] [])
    refine own_go (fun t k => XS.iconst X2.here hx rfl (hb hby at_59) k) ?_
    show own_Go p e below _ T2 (mkF m 60 #[.val (.int p1), .val (.int (p1 &&& (3 : Int32))), .val (.ref a_SUCCEEDED), .val (.int (0 : Int32))] [(.int (1 : Int32))])
    refine own_go (fun t k => XS.goto X2.here hx rfl (pc0 := 60) (pc' := 64) rfl (hb hby at_60) (by decide) (by decide) k) ?_
    show own_Go p e below _ T2 (mkF m 64 #[.val (.int p1), .val (.int (p1 &&& (3 : Int32))), .val (.ref a_SUCCEEDED), .val (.int (0 : Int32))] [(.int (1 : Int32))])
    refine own_retZ X2 hx hlk hret (hb hby at_64) (Or.inr rfl) (by decide) (by decide) ?_
    exact ⟨rfl, M2⟩
  · show own_Go p e below _ T0 (mkF m 5 #[.val (.int p1), .val (.int (p1 &&& (3 : Int32))), .unset, .unset] [(.int (p1 &&& (3 : Int32)))])
    refine own_go (fun t k => XS.ifYes X0.here hx rfl (pc0 := 5) (pc' := 17) rfl (hb hby at_5) rfl (XT.i0_ne_t hc5) (by decide) (by decide) k) ?_
    show own_Go p e below _ T0 (mkF m 17 #[.val (.int p1), .val (.int (p1 &&& (3 : Int32))), .unset, .unset] [])
    refine own_go (fun t k => XS.iloadN X0.here hx rfl (hb hby at_17) rfl k) ?_
    show own_Go p e below _ T0 (mkF m 18 #[.val (.int p1), .val (.int (p1 &&& (3 : Int32))), .unset, .unset] [(.int (p1 &&& (3 : Int32)))])
    refine own_go (fun t k => XS.iconst X0.here hx rfl (hb hby at_18) k) ?_
    show own_Go p e below _ T0 (mkF m 19 #[.val (.int p1), .val (.int (p1 &&& (3 : Int32))), .unset, .unset] [(.int (1 : Int32)), (.int (p1 &&& (3 : Int32)))])
    by_cases hc19 : (p1 &&& (3 : Int32)) = (1 : Int32)
    · show own_Go p e below _ T0 (mkF m 19 #[.val (.int p1), .val (.int (p1 &&& (3 : Int32))), .unset, .unset] [(.int (1 : Int32)), (.int (p1 &&& (3 : Int32)))])
      refine own_go (fun t k => XS.icmpNo X0.here hx rfl (hb hby at_19) rfl (XT.ii_ne_f hc19) k) ?_
      show own_Go p e below _ T0 (mkF m 22 #[.val (.int p1), .val (.int (p1 &&& (3 : Int32))), .unset, .unset] [])
      obtain ⟨T3, X3, e3, st3⟩ := getS2 X0 hx hZ hown (host := "") (Or.inl (own_w hw 15 rfl)) Via.refl e0 S_FAILED (g := (mkF m 22 #[.val (.int p1), .val (.int (p1 &&& (3 : Int32))), .unset, .unset] [])) rfl (hb hby at_22)
      refine own_go st3 ?_
      show own_Go p e below _ T3 (mkF m 25 #[.val (.int p1), .val (.int (p1 &&& (3 : Int32))), .unset, .unset] [(.ref a_FAILED)])
      refine own_go (fun t k => XS.astoreN X3.here hx rfl (hb hby at_25) rfl rfl (l' := #[.val (.int p1), .val (.int (p1 &&& (3 : Int32))), .val (.ref a_FAILED), .unset]) rfl k) ?_
      show own_Go p e below _ T3 (mkF m 26 #[.val (.int p1), .val (.int (p1 &&& (3 : Int32))), .val (.ref a_FAILED), .unset] [])
      refine own_go (fun t k => XS.iconst X3.here hx rfl (hb hby at_26) k) ?_
      show own_Go p e below _ T3 (mkF m 27 #[.val (.int p1), .val (.int (p1 &&& (3 : Int32))), .val (.ref a_FAILED), .unset] [(.int (1 : Int32))])
      refine own_go (fun t k => XS.istoreN X3.here hx rfl (hb hby at_27) rfl (l' := #[.val (.int p1), .val (.int (p1 &&& (3 : Int32))), .val (.ref a_FAILED), .val (.int (1 : Int32))]) rfl k) ?_
      show own_Go p e below _ T3 (mkF m 28 #[.val (.int p1), .val (.int (p1 &&& (3 : Int32))), .val (.ref a_FAILED), .val (.int (1 : Int32))] [])
      refine own_go (fun t k => XS.goto X3.here hx rfl (pc0 := 28) (pc' := 51) rfl (hb hby at_28) (by decide) (by decide) k) ?_
      show own_Go p e below _ T3 (mkF m 51 #[.val (.int p1), .val (.int (p1 &&& (3 : Int32))), .val (.ref a_FAILED), .val (.int (1 : Int32))] [])
      refine own_go (fun t k => XS.aloadN X3.here hx rfl (hb hby at_51) rfl rfl k) ?_
      show own_Go p e below _ T3 (mkF m 52 #[.val (.int p1), .val (.int (p1 &&& (3 : Int32))), .val (.ref a_FAILED), .val (.int (1 : Int32))] [(.ref a_FAILED)])
      obtain ⟨_, T4, L4, X4, ⟨rfl, N4, e4⟩, st4⟩ := own_callV X3 hx hZ (y := (⟨"com/example/lease/lease/model/Outcome", "retriable", "()Z"⟩ : MethodName)) (z := (⟨"com/example/lease/lease/model/Outcome", "retriable", "()Z"⟩ : MethodName)) (b := a_FAILED) (argsL := []) (rest := []) (Ls := #[.val (.int p1), .val (.int (p1 &&& (3 : Int32))), .val (.ref a_FAILED), .val (.int (1 : Int32))]) hown (own_w hw 3 rfl) (own_w hw 4 rfl) (own_w hw 6 rfl) (notFace_of_selects (args := #[]) (mvT hZ (own_w hw 6 rfl))) (own_w hw 5 rfl) (own_w hw 7 rfl) (own_w hw 1 rfl) (by decide) e3 E_FAILED (rm1FAILED l Z a0 hw [] a_SUCCEEDED a_FAILED a_EXPIRED a_CANCELLED h0 n0 Z0 S_SUCCEEDED E_SUCCEEDED S_FAILED E_FAILED S_EXPIRED E_EXPIRED S_CANCELLED E_CANCELLED F_SUCCEEDED_ordinal F_FAILED_ordinal F_EXPIRED_ordinal F_CANCELLED_ordinal) 0 (by decide) (by decide) (by decide) (by decide) (by rw [hml]; rfl) (lenOf pd_0 rfl) rfl (Nat.le_of_eq rfl) (hb hby at_52)
      have M4 := Fr.app N0 N4
      refine own_go st4 ?_
      show own_Go p e below _ T4 (mkF m 55 #[.val (.int p1), .val (.int (p1 &&& (3 : Int32))), .val (.ref a_FAILED), .val (.int (1 : Int32))] [(.int (1 : Int32))])
      refine own_go (fun t k => XS.iloadN X4.here hx rfl (hb hby at_55) rfl k) ?_
      show own_Go p e below _ T4 (mkF m 56 #[.val (.int p1), .val (.int (p1 &&& (3 : Int32))), .val (.ref a_FAILED), .val (.int (1 : Int32))] [(.int (1 : Int32)), (.int (1 : Int32))])
      refine own_go (fun t k => XS.icmpNo X4.here hx rfl (hb hby at_56) rfl (XT.ii_ne_f (by decide)) k) ?_
      show own_Go p e below _ T4 (mkF m 59 #[.val (.int p1), .val (.int (p1 &&& (3 : Int32))), .val (.ref a_FAILED), .val (.int (1 : Int32))] [])
      refine own_go (fun t k => XS.iconst X4.here hx rfl (hb hby at_59) k) ?_
      show own_Go p e below _ T4 (mkF m 60 #[.val (.int p1), .val (.int (p1 &&& (3 : Int32))), .val (.ref a_FAILED), .val (.int (1 : Int32))] [(.int (1 : Int32))])
      refine own_go (fun t k => XS.goto X4.here hx rfl (pc0 := 60) (pc' := 64) rfl (hb hby at_60) (by decide) (by decide) k) ?_
      show own_Go p e below _ T4 (mkF m 64 #[.val (.int p1), .val (.int (p1 &&& (3 : Int32))), .val (.ref a_FAILED), .val (.int (1 : Int32))] [(.int (1 : Int32))])
      refine own_retZ X4 hx hlk hret (hb hby at_64) (Or.inr rfl) (by decide) (by decide) ?_
      exact ⟨rfl, M4⟩
    · show own_Go p e below _ T0 (mkF m 19 #[.val (.int p1), .val (.int (p1 &&& (3 : Int32))), .unset, .unset] [(.int (1 : Int32)), (.int (p1 &&& (3 : Int32)))])
      refine own_go (fun t k => XS.icmpYes X0.here hx rfl (pc0 := 19) (pc' := 31) rfl (hb hby at_19) rfl (XT.ii_ne_t hc19) (by decide) (by decide) k) ?_
      show own_Go p e below _ T0 (mkF m 31 #[.val (.int p1), .val (.int (p1 &&& (3 : Int32))), .unset, .unset] [])
      refine own_go (fun t k => XS.iloadN X0.here hx rfl (hb hby at_31) rfl k) ?_
      show own_Go p e below _ T0 (mkF m 32 #[.val (.int p1), .val (.int (p1 &&& (3 : Int32))), .unset, .unset] [(.int (p1 &&& (3 : Int32)))])
      refine own_go (fun t k => XS.iconst X0.here hx rfl (hb hby at_32) k) ?_
      show own_Go p e below _ T0 (mkF m 33 #[.val (.int p1), .val (.int (p1 &&& (3 : Int32))), .unset, .unset] [(.int (2 : Int32)), (.int (p1 &&& (3 : Int32)))])
      by_cases hc33 : (p1 &&& (3 : Int32)) = (2 : Int32)
      · show own_Go p e below _ T0 (mkF m 33 #[.val (.int p1), .val (.int (p1 &&& (3 : Int32))), .unset, .unset] [(.int (2 : Int32)), (.int (p1 &&& (3 : Int32)))])
        refine own_go (fun t k => XS.icmpNo X0.here hx rfl (hb hby at_33) rfl (XT.ii_ne_f hc33) k) ?_
        show own_Go p e below _ T0 (mkF m 36 #[.val (.int p1), .val (.int (p1 &&& (3 : Int32))), .unset, .unset] [])
        obtain ⟨T5, X5, e5, st5⟩ := getS2 X0 hx hZ hown (host := "") (Or.inl (own_w hw 14 rfl)) Via.refl e0 S_EXPIRED (g := (mkF m 36 #[.val (.int p1), .val (.int (p1 &&& (3 : Int32))), .unset, .unset] [])) rfl (hb hby at_36)
        refine own_go st5 ?_
        show own_Go p e below _ T5 (mkF m 39 #[.val (.int p1), .val (.int (p1 &&& (3 : Int32))), .unset, .unset] [(.ref a_EXPIRED)])
        refine own_go (fun t k => XS.astoreN X5.here hx rfl (hb hby at_39) rfl rfl (l' := #[.val (.int p1), .val (.int (p1 &&& (3 : Int32))), .val (.ref a_EXPIRED), .unset]) rfl k) ?_
        show own_Go p e below _ T5 (mkF m 40 #[.val (.int p1), .val (.int (p1 &&& (3 : Int32))), .val (.ref a_EXPIRED), .unset] [])
        refine own_go (fun t k => XS.iconst X5.here hx rfl (hb hby at_40) k) ?_
        show own_Go p e below _ T5 (mkF m 41 #[.val (.int p1), .val (.int (p1 &&& (3 : Int32))), .val (.ref a_EXPIRED), .unset] [(.int (1 : Int32))])
        refine own_go (fun t k => XS.istoreN X5.here hx rfl (hb hby at_41) rfl (l' := #[.val (.int p1), .val (.int (p1 &&& (3 : Int32))), .val (.ref a_EXPIRED), .val (.int (1 : Int32))]) rfl k) ?_
        show own_Go p e below _ T5 (mkF m 42 #[.val (.int p1), .val (.int (p1 &&& (3 : Int32))), .val (.ref a_EXPIRED), .val (.int (1 : Int32))] [])
        refine own_go (fun t k => XS.goto X5.here hx rfl (pc0 := 42) (pc' := 51) rfl (hb hby at_42) (by decide) (by decide) k) ?_
        show own_Go p e below _ T5 (mkF m 51 #[.val (.int p1), .val (.int (p1 &&& (3 : Int32))), .val (.ref a_EXPIRED), .val (.int (1 : Int32))] [])
        refine own_go (fun t k => XS.aloadN X5.here hx rfl (hb hby at_51) rfl rfl k) ?_
        show own_Go p e below _ T5 (mkF m 52 #[.val (.int p1), .val (.int (p1 &&& (3 : Int32))), .val (.ref a_EXPIRED), .val (.int (1 : Int32))] [(.ref a_EXPIRED)])
        obtain ⟨_, T6, L6, X6, ⟨rfl, N6, e6⟩, st6⟩ := own_callV X5 hx hZ (y := (⟨"com/example/lease/lease/model/Outcome", "retriable", "()Z"⟩ : MethodName)) (z := (⟨"com/example/lease/lease/model/Outcome", "retriable", "()Z"⟩ : MethodName)) (b := a_EXPIRED) (argsL := []) (rest := []) (Ls := #[.val (.int p1), .val (.int (p1 &&& (3 : Int32))), .val (.ref a_EXPIRED), .val (.int (1 : Int32))]) hown (own_w hw 3 rfl) (own_w hw 4 rfl) (own_w hw 6 rfl) (notFace_of_selects (args := #[]) (mvT hZ (own_w hw 6 rfl))) (own_w hw 5 rfl) (own_w hw 7 rfl) (own_w hw 1 rfl) (by decide) e5 E_EXPIRED (rm1EXPIRED l Z a0 hw [] a_SUCCEEDED a_FAILED a_EXPIRED a_CANCELLED h0 n0 Z0 S_SUCCEEDED E_SUCCEEDED S_FAILED E_FAILED S_EXPIRED E_EXPIRED S_CANCELLED E_CANCELLED F_SUCCEEDED_ordinal F_FAILED_ordinal F_EXPIRED_ordinal F_CANCELLED_ordinal) 0 (by decide) (by decide) (by decide) (by decide) (by rw [hml]; rfl) (lenOf pd_0 rfl) rfl (Nat.le_of_eq rfl) (hb hby at_52)
        have M6 := Fr.app N0 N6
        refine own_go st6 ?_
        show own_Go p e below _ T6 (mkF m 55 #[.val (.int p1), .val (.int (p1 &&& (3 : Int32))), .val (.ref a_EXPIRED), .val (.int (1 : Int32))] [(.int (1 : Int32))])
        refine own_go (fun t k => XS.iloadN X6.here hx rfl (hb hby at_55) rfl k) ?_
        show own_Go p e below _ T6 (mkF m 56 #[.val (.int p1), .val (.int (p1 &&& (3 : Int32))), .val (.ref a_EXPIRED), .val (.int (1 : Int32))] [(.int (1 : Int32)), (.int (1 : Int32))])
        refine own_go (fun t k => XS.icmpNo X6.here hx rfl (hb hby at_56) rfl (XT.ii_ne_f (by decide)) k) ?_
        show own_Go p e below _ T6 (mkF m 59 #[.val (.int p1), .val (.int (p1 &&& (3 : Int32))), .val (.ref a_EXPIRED), .val (.int (1 : Int32))] [])
        refine own_go (fun t k => XS.iconst X6.here hx rfl (hb hby at_59) k) ?_
        show own_Go p e below _ T6 (mkF m 60 #[.val (.int p1), .val (.int (p1 &&& (3 : Int32))), .val (.ref a_EXPIRED), .val (.int (1 : Int32))] [(.int (1 : Int32))])
        refine own_go (fun t k => XS.goto X6.here hx rfl (pc0 := 60) (pc' := 64) rfl (hb hby at_60) (by decide) (by decide) k) ?_
        show own_Go p e below _ T6 (mkF m 64 #[.val (.int p1), .val (.int (p1 &&& (3 : Int32))), .val (.ref a_EXPIRED), .val (.int (1 : Int32))] [(.int (1 : Int32))])
        refine own_retZ X6 hx hlk hret (hb hby at_64) (Or.inr rfl) (by decide) (by decide) ?_
        exact ⟨rfl, M6⟩
      · show own_Go p e below _ T0 (mkF m 33 #[.val (.int p1), .val (.int (p1 &&& (3 : Int32))), .unset, .unset] [(.int (2 : Int32)), (.int (p1 &&& (3 : Int32)))])
        refine own_go (fun t k => XS.icmpYes X0.here hx rfl (pc0 := 33) (pc' := 45) rfl (hb hby at_33) rfl (XT.ii_ne_t hc33) (by decide) (by decide) k) ?_
        show own_Go p e below _ T0 (mkF m 45 #[.val (.int p1), .val (.int (p1 &&& (3 : Int32))), .unset, .unset] [])
        obtain ⟨T7, X7, e7, st7⟩ := getS2 X0 hx hZ hown (host := "") (Or.inl (own_w hw 12 rfl)) Via.refl e0 S_CANCELLED (g := (mkF m 45 #[.val (.int p1), .val (.int (p1 &&& (3 : Int32))), .unset, .unset] [])) rfl (hb hby at_45)
        refine own_go st7 ?_
        show own_Go p e below _ T7 (mkF m 48 #[.val (.int p1), .val (.int (p1 &&& (3 : Int32))), .unset, .unset] [(.ref a_CANCELLED)])
        refine own_go (fun t k => XS.astoreN X7.here hx rfl (hb hby at_48) rfl rfl (l' := #[.val (.int p1), .val (.int (p1 &&& (3 : Int32))), .val (.ref a_CANCELLED), .unset]) rfl k) ?_
        show own_Go p e below _ T7 (mkF m 49 #[.val (.int p1), .val (.int (p1 &&& (3 : Int32))), .val (.ref a_CANCELLED), .unset] [])
        refine own_go (fun t k => XS.iconst X7.here hx rfl (hb hby at_49) k) ?_
        show own_Go p e below _ T7 (mkF m 50 #[.val (.int p1), .val (.int (p1 &&& (3 : Int32))), .val (.ref a_CANCELLED), .unset] [(.int (0 : Int32))])
        refine own_go (fun t k => XS.istoreN X7.here hx rfl (hb hby at_50) rfl (l' := #[.val (.int p1), .val (.int (p1 &&& (3 : Int32))), .val (.ref a_CANCELLED), .val (.int (0 : Int32))]) rfl k) ?_
        show own_Go p e below _ T7 (mkF m 51 #[.val (.int p1), .val (.int (p1 &&& (3 : Int32))), .val (.ref a_CANCELLED), .val (.int (0 : Int32))] [])
        refine own_go (fun t k => XS.aloadN X7.here hx rfl (hb hby at_51) rfl rfl k) ?_
        show own_Go p e below _ T7 (mkF m 52 #[.val (.int p1), .val (.int (p1 &&& (3 : Int32))), .val (.ref a_CANCELLED), .val (.int (0 : Int32))] [(.ref a_CANCELLED)])
        obtain ⟨_, T8, L8, X8, ⟨rfl, N8, e8⟩, st8⟩ := own_callV X7 hx hZ (y := (⟨"com/example/lease/lease/model/Outcome", "retriable", "()Z"⟩ : MethodName)) (z := (⟨"com/example/lease/lease/model/Outcome", "retriable", "()Z"⟩ : MethodName)) (b := a_CANCELLED) (argsL := []) (rest := []) (Ls := #[.val (.int p1), .val (.int (p1 &&& (3 : Int32))), .val (.ref a_CANCELLED), .val (.int (0 : Int32))]) hown (own_w hw 3 rfl) (own_w hw 4 rfl) (own_w hw 6 rfl) (notFace_of_selects (args := #[]) (mvT hZ (own_w hw 6 rfl))) (own_w hw 5 rfl) (own_w hw 7 rfl) (own_w hw 1 rfl) (by decide) e7 E_CANCELLED (rm1CANCELLED l Z a0 hw [] a_SUCCEEDED a_FAILED a_EXPIRED a_CANCELLED h0 n0 Z0 S_SUCCEEDED E_SUCCEEDED S_FAILED E_FAILED S_EXPIRED E_EXPIRED S_CANCELLED E_CANCELLED F_SUCCEEDED_ordinal F_FAILED_ordinal F_EXPIRED_ordinal F_CANCELLED_ordinal) 0 (by decide) (by decide) (by decide) (by decide) (by rw [hml]; rfl) (lenOf pd_0 rfl) rfl (Nat.le_of_eq rfl) (hb hby at_52)
        have M8 := Fr.app N0 N8
        refine own_go st8 ?_
        show own_Go p e below _ T8 (mkF m 55 #[.val (.int p1), .val (.int (p1 &&& (3 : Int32))), .val (.ref a_CANCELLED), .val (.int (0 : Int32))] [(.int (0 : Int32))])
        refine own_go (fun t k => XS.iloadN X8.here hx rfl (hb hby at_55) rfl k) ?_
        show own_Go p e below _ T8 (mkF m 56 #[.val (.int p1), .val (.int (p1 &&& (3 : Int32))), .val (.ref a_CANCELLED), .val (.int (0 : Int32))] [(.int (0 : Int32)), (.int (0 : Int32))])
        refine own_go (fun t k => XS.icmpNo X8.here hx rfl (hb hby at_56) rfl (XT.ii_ne_f (by decide)) k) ?_
        show own_Go p e below _ T8 (mkF m 59 #[.val (.int p1), .val (.int (p1 &&& (3 : Int32))), .val (.ref a_CANCELLED), .val (.int (0 : Int32))] [])
        refine own_go (fun t k => XS.iconst X8.here hx rfl (hb hby at_59) k) ?_
        show own_Go p e below _ T8 (mkF m 60 #[.val (.int p1), .val (.int (p1 &&& (3 : Int32))), .val (.ref a_CANCELLED), .val (.int (0 : Int32))] [(.int (1 : Int32))])
        refine own_go (fun t k => XS.goto X8.here hx rfl (pc0 := 60) (pc' := 64) rfl (hb hby at_60) (by decide) (by decide) k) ?_
        show own_Go p e below _ T8 (mkF m 64 #[.val (.int p1), .val (.int (p1 &&& (3 : Int32))), .val (.ref a_CANCELLED), .val (.int (0 : Int32))] [(.int (1 : Int32))])
        refine own_retZ X8 hx hlk hret (hb hby at_64) (Or.inr rfl) (by decide) (by decide) ?_
        exact ⟨rfl, M8⟩
set_option maxRecDepth 65536 in
set_option maxHeartbeats 40000000 in
theorem comes_1 {Post : Tables → Env → Array Value → State → Outcome → State → Prop} (hpost : ∀ tb e args s v u, (limb_1_1.after args s (.returned v) u = true ∧ limb_1_2.after args s (.returned v) u = true ∧ True) → FrameEnd s (.returned v) u (Jvm.fieldLocs frame_1_writes args s ++ Jvm.arrayLocs frame_1_arrays args s ++ Jvm.staticLocs frame_1_statics s) 0 0 → Post tb e args s (.returned v) u) :
    ArmFor flags0 classFile x code maxLocals ret World_1 tables_1 room_1 Calls_1 rest_1 Pre_1 Post := by
  intro l hfl _ _ p e ha hc hk s m args below hf hA hF happ hP
  obtain ⟨hcalls, hrest, hpre⟩ := hP
  obtain ⟨-, -, -, hnamed, -, -, -, hat⟩ := (Spec.applies_iff hf).mp happ
  obtain ⟨hg, hn⟩ := and_e (Cond.before_iff.mp (show (Jvm.Cond.and given_1 narrow_1).before args s = true from hpre))
  obtain ⟨g1, g2⟩ := and_e hg
  obtain ⟨w0, rfl⟩ : ∃ w0 : Value, args = #[w0] := by
    have hs : args.size = 1 := by simpa [Cond.value, given_1] using g1
    obtain ⟨L⟩ := args
    match L, hs with
    | [w0], _ => exact ⟨w0, rfl⟩
  have hw := fun d (hd : d ∈ tables_1) => atoms_spec (ws := Jvm.Cond.code x code maxLocals ret :: tables_1) hat d (List.mem_cons_of_mem _ hd)
  have hfit : Fit s := fun {y c} hc i hi => by
    obtain ⟨ha, rfl⟩ := Array.getElem?_eq_some_iff.mp hc
    have q := List.all_eq_true.mp ((Array.all_eq_true_iff_forall_mem.mp hF) _ (Array.getElem_mem ha)) i (List.mem_range.mpr hi)
    simpa [Array.getElem?_eq_getElem hi] using q
  obtain ⟨i0, ei0⟩ := is_v g2
  obtain rfl : w0 = (.int i0) := Option.some.inj ei0
  obtain ⟨nq0, nr0⟩ := and_e hn
  obtain ⟨nq1, nr1⟩ := and_e nr0
  obtain ⟨nq2, nr2⟩ := and_e nr1
  obtain ⟨nq3, nr3⟩ := and_e nr2
  obtain ⟨nq4, nr4⟩ := and_e nr3
  obtain ⟨nq5, nr5⟩ := and_e nr4
  obtain ⟨nq6, nr6⟩ := and_e nr5
  obtain ⟨a_SUCCEEDED, ev_SUCCEEDED⟩ := exa_v nq0
  have E_SUCCEEDED := Exa.start ev_SUCCEEDED nq0
  have S_SUCCEEDED := Sta.start ev_SUCCEEDED (Or.inr ⟨(own_w hw 1 rfl), (own_w hw 2 rfl)⟩)
  obtain ⟨a_FAILED, ev_FAILED⟩ := exa_v nq1
  have E_FAILED := Exa.start ev_FAILED nq1
  have S_FAILED := Sta.start ev_FAILED (Or.inr ⟨(own_w hw 1 rfl), (own_w hw 9 rfl)⟩)
  obtain ⟨a_EXPIRED, ev_EXPIRED⟩ := exa_v nq4
  have E_EXPIRED := Exa.start ev_EXPIRED nq4
  have S_EXPIRED := Sta.start ev_EXPIRED (Or.inr ⟨(own_w hw 1 rfl), (own_w hw 11 rfl)⟩)
  obtain ⟨a_CANCELLED, ev_CANCELLED⟩ := exa_v nq6
  have E_CANCELLED := Exa.start ev_CANCELLED nq6
  have S_CANCELLED := Sta.start ev_CANCELLED (Or.inr ⟨(own_w hw 1 rfl), (own_w hw 13 rfl)⟩)
  have F_SUCCEEDED_ordinal := own_fld ev_SUCCEEDED (own_eqI nq2)
  have F_FAILED_ordinal := own_fld ev_FAILED (own_eqI nq3)
  have F_EXPIRED_ordinal := own_fld ev_EXPIRED (own_eqI nq5)
  have F_CANCELLED_ordinal := own_fld ev_CANCELLED (own_eqI nr6)
  obtain ⟨n, o, h1, h2, h3, _, L, rfl, ⟨rfl, N⟩, hq⟩ := rm0 l s _ hw tables_1 i0 a_SUCCEEDED a_FAILED a_EXPIRED a_CANCELLED s.heap s.heap.size (Nat.le_refl _) S_SUCCEEDED E_SUCCEEDED S_FAILED E_FAILED S_EXPIRED E_EXPIRED S_CANCELLED E_CANCELLED F_SUCCEEDED_ordinal F_FAILED_ordinal F_EXPIRED_ordinal F_CANCELLED_ordinal p e ha hc hk s m _ below hf ((Spec.applies_iff_loose hf).mp happ).1 ⟨rfl, State.Warmed39.refl s, rfl⟩ trivial
  refine ⟨n, _, h1, h2, h3, hpost _ _ _ _ _ _ ⟨Cond.after_iff.mpr rfl, Cond.after_iff.mpr (eq_i res_at (Term.int_eval (1)) rfl), trivial⟩ ⟨hq.1, hq.2.1, (hq.2.2.sift fun y hy => Or.inr (N y hy)).mono (by decide) (by decide)⟩⟩
theorem main_1_1 : Claimed_1_1 := comes_1 fun _ _ _ _ _ _ h hF => ⟨h.1, hF⟩
theorem main_1_2 : Claimed_1_2 := comes_1 fun _ _ _ _ _ _ h hF => ⟨h.2.1, hF⟩
end Jvm.Pilot.@@N@@
namespace Jvm.Pilot.@@N@@
open Jvm Jvm.ClassFile Sem Op Lib Jvm.Free Jvm.Stand Jvm.Pilot.@@N@@.Jvm.D
/-! MADE BY PROGRAM (witnessworld.py) out of the Statement's table words and the real class files: 12 classes; the members and pool entries that the words name. The judged class is class 1, her method 1. -/
namespace start1
open Jvm.ClassFile
def u (s : String) : CpInfo := .utf8 (stringToUtf16 s)
/-- a pool by its gaps: so many unusable entries, then the entry; so many at the end -/
def gap : Nat → List CpInfo → List CpInfo
  | 0, r => r
  | n + 1, r => .unusable :: gap n r
def poolList (es : List (Nat × CpInfo)) (last : Nat) : List CpInfo := es.foldr (fun e r => gap e.1 (e.2 :: r)) (gap last [])
def pool (es : List (Nat × CpInfo)) (last : Nat) : Array CpInfo := ⟨poolList es last⟩
def fileOf (pool : Array CpInfo) (this : Nat) (attrs : Array Attribute := #[]) (ms : Array MethodInfo := #[]) (fl : Nat := 33) (sup : Nat := 0) (ifs : Array Nat := #[]) (fds : Array FieldInfo := #[]) : ClassFile where
  minorVersion := 0
  majorVersion := 65
  constantPool := pool
  accessFlags := fl
  thisClass := this
  superClass := sup
  interfaces := ifs
  fields := fds
  methods := ms
  attributes := attrs
def plain (name : String) (sup : Option ClassId) : Class where
  name := name
  kind := .ordinary
  loader := none
  accessFlags := 33
  super := sup
  interfaces := #[]
  cf := none
  fields := #[]
  methods := #[]
  instanceTypes := #[]
  staticTypes := #[]
  resolved := #[]
  callSites := []
  init := .initialized
  statics := none
  mirror := none

def pool0 : Array CpInfo := pool [(5, u "<init>"), (0, u "()V"), (1, .class_ 10), (1, u "java/lang/Object")] 113

def k0m0 : Method := { name := "<init>", desc := "()V", sig := { parameters := [], returnType := none }, accessFlags := 1, code := none }
/-- java/lang/Object -/
def k0 : Class := { plain "java/lang/Object" none with
  accessFlags := 33
  interfaces := #[]
  cf := some (fileOf pool0 8 #[] #[{ accessFlags := 1, nameIndex := 5, descriptorIndex := 6, attributes := #[] }] 33 0 #[] #[])
  fields := #[]
  methods := #[k0m0]
  instanceTypes := #[]
  staticTypes := #[]
  resolved := Array.replicate 124 none
  statics := none }

def pool1 : Array CpInfo := pool [(2, .class_ 4), (1, u "java/lang/Object"), (0, u "<init>"), (0, u "()V"), (0, .fieldref 8 9), (0, .class_ 10), (0, .nameAndType 11 12), (0, u "com/example/lease/lease/model/Outcome"), (0, u "SUCCEEDED"), (0, u "Lcom/example/lease/lease/model/Outcome;"), (0, .fieldref 8 14), (0, .nameAndType 15 12), (0, u "FAILED"), (0, .fieldref 8 17), (0, .nameAndType 18 12), (0, u "EXPIRED"), (0, .fieldref 8 20), (0, .nameAndType 21 12), (0, u "CANCELLED"), (0, .methodref 8 23), (0, .nameAndType 24 25), (0, u "retriable"), (0, u "()Z"), (0, .class_ 27), (0, u "com/example/lease/lease/model/OutcomeRetriablePinLaw"), (2, u "law"), (0, u "(I)Z")] 3

def k1m0 : Method := { name := "<init>", desc := "()V", sig := { parameters := [], returnType := none }, accessFlags := 1, code := none }
def k1c1 : Code := { maxStack := 2, maxLocals := 4, code := code, exceptionTable := #[], attributes := #[] }
def k1m1 : Method := { name := "law", desc := "(I)Z", sig := { parameters := [.int], returnType := some .boolean }, accessFlags := 9, code := some k1c1 }
/-- com/example/lease/lease/model/OutcomeRetriablePinLaw -/
def k1 : Class := { plain "com/example/lease/lease/model/OutcomeRetriablePinLaw" (some 0) with
  accessFlags := 49
  interfaces := #[]
  cf := some (fileOf pool1 26 #[] #[{ accessFlags := 1, nameIndex := 5, descriptorIndex := 6, attributes := #[] }, { accessFlags := 9, nameIndex := 30, descriptorIndex := 31, attributes := #[] }] 49 2 #[] #[])
  fields := #[]
  methods := #[k1m0, k1m1]
  instanceTypes := #[]
  staticTypes := #[]
  resolved := Array.replicate 35 none
  statics := none }

def pool2 : Array CpInfo := pool [(1, .class_ 2), (0, u "java/lang/constant/Constable"), (0, .class_ 4), (0, u "java/lang/Object")] 6

/-- java/lang/constant/Constable -/
def k2 : Class := { plain "java/lang/constant/Constable" (some 0) with
  accessFlags := 1537
  interfaces := #[]
  cf := some (fileOf pool2 1 #[] #[] 1537 3 #[] #[])
  fields := #[]
  methods := #[]
  instanceTypes := #[]
  staticTypes := #[]
  resolved := Array.replicate 11 none
  statics := none }

def pool3 : Array CpInfo := pool [(1, .class_ 2), (0, u "java/lang/Comparable"), (0, .class_ 4), (0, u "java/lang/Object")] 7

/-- java/lang/Comparable -/
def k3 : Class := { plain "java/lang/Comparable" (some 0) with
  accessFlags := 1537
  interfaces := #[]
  cf := some (fileOf pool3 1 #[] #[] 1537 3 #[] #[])
  fields := #[]
  methods := #[]
  instanceTypes := #[]
  staticTypes := #[]
  resolved := Array.replicate 12 none
  statics := none }

def pool4 : Array CpInfo := pool [(1, .class_ 2), (0, u "java/io/Serializable"), (0, .class_ 4), (0, u "java/lang/Object")] 2

/-- java/io/Serializable -/
def k4 : Class := { plain "java/io/Serializable" (some 0) with
  accessFlags := 1537
  interfaces := #[]
  cf := some (fileOf pool4 1 #[] #[] 1537 3 #[] #[])
  fields := #[]
  methods := #[]
  instanceTypes := #[]
  staticTypes := #[]
  resolved := Array.replicate 7 none
  statics := none }

def pool5 : Array CpInfo := pool [(2, .class_ 4), (1, u "java/lang/Enum"), (0, u "name"), (0, u "Ljava/lang/String;"), (2, u "ordinal"), (0, u "I"), (1, .class_ 14), (1, u "java/lang/Object"), (4, u "hash"), (86, .class_ 108), (1, u "java/lang/Enum$EnumDesc"), (2, .class_ 112), (0, u "java/lang/constant/Constable"), (0, .class_ 114), (0, u "java/lang/Comparable"), (0, .class_ 116), (0, u "java/io/Serializable")] 87

/-- java/lang/Enum -/
def k5 : Class := { plain "java/lang/Enum" (some 0) with
  accessFlags := 1057
  interfaces := #[2, 3, 4]
  cf := some (fileOf pool5 2 #[.nestMembers #[106]] #[] 1057 12 #[111, 113, 115] #[{ accessFlags := 18, nameIndex := 5, descriptorIndex := 6, attributes := #[] }, { accessFlags := 18, nameIndex := 9, descriptorIndex := 10, attributes := #[] }, { accessFlags := 2, nameIndex := 19, descriptorIndex := 10, attributes := #[] }])
  fields := #[{ name := "name", type := (.object "java/lang/String"), accessFlags := 18, slot := 0, constantValue := 0 }, { name := "ordinal", type := .int, accessFlags := 18, slot := 1, constantValue := 0 }, { name := "hash", type := .int, accessFlags := 2, slot := 2, constantValue := 0 }]
  methods := #[]
  instanceTypes := #[(.object "java/lang/String"), .int, .int]
  staticTypes := #[]
  resolved := Array.replicate 204 none
  statics := none }

def pool6 : Array CpInfo := pool [(1, .class_ 2), (0, u "com/example/lease/lease/model/Outcome"), (2, u "SUCCEEDED"), (0, u "Lcom/example/lease/lease/model/Outcome;"), (0, .fieldref 1 8), (0, .nameAndType 9 6), (0, u "FAILED"), (0, .fieldref 1 11), (0, .nameAndType 12 6), (0, u "EXPIRED"), (2, u "CANCELLED"), (2, u "$VALUES"), (0, u "[Lcom/example/lease/lease/model/Outcome;"), (6, .class_ 28), (1, u "java/lang/Enum"), (29, u "REPORTED"), (0, u "Ljava/util/Set;"), (8, u "retriable"), (0, u "()Z")] 5

def k6c0 : Code := { maxStack := 2, maxLocals := 1, code := prog_16_method_4_code, exceptionTable := #[], attributes := #[] }
def k6m0 : Method := { name := "retriable", desc := "()Z", sig := { parameters := [], returnType := some .boolean }, accessFlags := 1, code := some k6c0 }
/-- com/example/lease/lease/model/Outcome -/
def k6 : Class := { plain "com/example/lease/lease/model/Outcome" (some 5) with
  accessFlags := 16433
  interfaces := #[]
  cf := some (fileOf pool6 1 #[] #[{ accessFlags := 1, nameIndex := 68, descriptorIndex := 69, attributes := #[] }] 16433 26 #[] #[{ accessFlags := 16409, nameIndex := 5, descriptorIndex := 6, attributes := #[] }, { accessFlags := 16409, nameIndex := 9, descriptorIndex := 6, attributes := #[] }, { accessFlags := 16409, nameIndex := 12, descriptorIndex := 6, attributes := #[] }, { accessFlags := 16409, nameIndex := 15, descriptorIndex := 6, attributes := #[] }, { accessFlags := 25, nameIndex := 58, descriptorIndex := 59, attributes := #[] }, { accessFlags := 4122, nameIndex := 18, descriptorIndex := 19, attributes := #[] }])
  fields := #[{ name := "SUCCEEDED", type := (.object "com/example/lease/lease/model/Outcome"), accessFlags := 16409, slot := 0, constantValue := 0 }, { name := "FAILED", type := (.object "com/example/lease/lease/model/Outcome"), accessFlags := 16409, slot := 1, constantValue := 0 }, { name := "EXPIRED", type := (.object "com/example/lease/lease/model/Outcome"), accessFlags := 16409, slot := 2, constantValue := 0 }, { name := "CANCELLED", type := (.object "com/example/lease/lease/model/Outcome"), accessFlags := 16409, slot := 3, constantValue := 0 }, { name := "REPORTED", type := (.object "java/util/Set"), accessFlags := 25, slot := 4, constantValue := 0 }, { name := "$VALUES", type := (.array (.object "com/example/lease/lease/model/Outcome")), accessFlags := 4122, slot := 5, constantValue := 0 }]
  methods := #[k6m0]
  instanceTypes := #[(.object "java/lang/String"), .int, .int]
  staticTypes := #[(.object "com/example/lease/lease/model/Outcome"), (.object "com/example/lease/lease/model/Outcome"), (.object "com/example/lease/lease/model/Outcome"), (.object "com/example/lease/lease/model/Outcome"), (.object "java/util/Set"), (.array (.object "com/example/lease/lease/model/Outcome"))]
  resolved := Array.replicate 75 none
  statics := some 0 }

def pool7 : Array CpInfo := pool [(1, u "java/lang/Cloneable"), (0, .class_ 1), (0, u "java/lang/Object"), (0, .class_ 3)] 3

/-- java/lang/Cloneable -/
def k7 : Class := { plain "java/lang/Cloneable" (some 0) with
  accessFlags := 1537
  interfaces := #[]
  cf := some (fileOf pool7 2 #[] #[] 1537 4 #[] #[])
  fields := #[]
  methods := #[]
  instanceTypes := #[]
  staticTypes := #[]
  resolved := Array.replicate 8 none
  statics := none }

/-- the primitive byte -/
def k8 : Class := { plain "byte" none with kind := .primitive 'B', accessFlags := 0x411 }
/-- [B -/
def k9 : Class := { plain "[B" (some 0) with kind := .array 8 .byte, interfaces := #[7, 4], accessFlags := 1041 }

/-- the primitive int -/
def k10 : Class := { plain "int" none with kind := .primitive 'I', accessFlags := 0x411 }
/-- [I -/
def k11 : Class := { plain "[I" (some 0) with kind := .array 10 .int, interfaces := #[7, 4], accessFlags := 1041 }

def heap : Heap := #[{ cls := 6, slots := #[.ref 1, .ref 2, .ref 3, .ref 4, .null, .null], vm := .statics 6 },
  { cls := 6, slots := #[.null, .int 0, .int 0], vm := .none },
  { cls := 6, slots := #[.null, .int 1, .int 0], vm := .none },
  { cls := 6, slots := #[.null, .int 2, .int 0], vm := .none },
  { cls := 6, slots := #[.null, .int 3, .int 0], vm := .none }]
def classes : Array Class := #[k0, k1, k2, k3, k4, k5, k6, k7, k8, k9, k10, k11]
def interned : List (Array UInt16 × Addr) := []
def slotsUsed : Nat := 18
def theMethod : MethodId := ⟨1, 1⟩
def args0 : Array Value := #[.int 5]
def aboutOver (below : List Frame) : State where
  vm := { classes := classes, interned := interned.toArray }
  heap := heap
  slotsUsed := slotsUsed
  threads := #[{ frames := .invoking theMethod args0 :: below }]
def below0 : List Frame := [.native { method := ⟨0, 0⟩, args := #[] }]
def about1 : State := aboutOver below0
def p0 : Program := .bare "" "" ""
def e0 : Env := launch0.env 0 0 0
theorem w_frames : about1.frames = Frame.invoking theMethod args0 :: below0 := rfl
set_option maxRecDepth 65536 in
theorem w_args : argsFit about1.vm theMethod args0 = true := by decide +kernel
set_option maxRecDepth 65536 in
theorem w_heap : heapFits about1 = true := by decide +kernel
set_option maxRecDepth 65536 in
theorem w_runnable : about1.curStatus? = some .runnable := by decide +kernel
set_option maxRecDepth 65536 in
theorem w_alone : about1.alone = true := by decide +kernel
set_option maxRecDepth 65536 in
theorem w_named : about1.methodNamed? x = some theMethod := by decide +kernel
set_option maxRecDepth 65536 in
theorem w_hears : about1.hears theMethod below0 = true := by decide +kernel
set_option maxRecDepth 65536 in
theorem w_ripe : about1.ripe theMethod args0 below0 = true := by decide +kernel
theorem w_running : about1.status = .running := rfl
set_option maxRecDepth 65536 in
theorem w_room : about1.hasRoom e0.platform room_1 = true :=
  launch0.hasRoom_least _ room_1 (by decide +kernel) (by decide +kernel) (by decide +kernel) (by decide +kernel) (by decide +kernel) (by decide +kernel)
theorem allAtoms_all (ts : List Jvm.Cond) (a : Array Jvm.Value) (st : Jvm.State) : (allAtoms ts).before a st = ts.all (fun c => c.before a st) := by
  induction ts with
  | nil => rfl
  | cons c t ih =>
    show (Jvm.Cond.and c (allAtoms t)).before a st = _
    rw [Jvm.Cond.before_and, ih, List.all_cons]
def words1 : List Jvm.Cond := Jvm.Cond.code x code maxLocals ret :: tables_1
/-- a 'code' word, met by the world's own term for the bytes: nothing is compared byte by byte -/
theorem code_word {y : MethodName} {bytes : ByteArray} {mx : Nat} {rt : Option FieldType} {a : Array Value} {s : State} {m : MethodId} {meth : Method} {c : Code} (h1 : s.methodNamed? y = some m) (h2 : s.vm.method? m = some meth) (h3 : meth.code = some c) (h4 : c.code = bytes)
    (h5 : (c.maxLocals == mx && c.exceptionTable.isEmpty && decide (c.maxStack ≤ mostOperands) && decide (meth.sig.returnType = rt) && !meth.locks && decide (parseMethodDescriptor y.desc = some meth.sig)) = true) : (Jvm.Cond.code y bytes mx rt).before a s = true := by
  simp only [Bool.and_eq_true, beq_iff_eq, Bool.not_eq_true', decide_eq_true_eq] at h5
  obtain ⟨⟨⟨⟨⟨g1, g2⟩, g3⟩, g4⟩, g5⟩, g6⟩ := h5
  simp [Cond.before, Cond.holds, Cond.value, h1, h2, h3, h4, g1, g2, g3, g4, g5, g6]
def isCode : Jvm.Cond → Bool
  | .code _ _ _ _ => true
  | _ => false
theorem all_split {L : List Jvm.Cond} {P : Jvm.Cond → Bool} (h1 : L.all (fun c => isCode c || P c) = true) (h2 : ∀ c ∈ L.filter isCode, P c = true) : L.all P = true := by
  refine List.all_eq_true.mpr fun c hc => ?_
  have h := List.all_eq_true.mp h1 c hc
  rcases Bool.eq_false_or_eq_true (isCode c) with hi | hi
  · exact h2 c (List.mem_filter.mpr ⟨hc, hi⟩)
  · simpa [hi] using h
set_option maxRecDepth 65536 in
theorem w_c0 : (Jvm.Cond.code x code maxLocals ret).before args0 about1 = true := code_word (m := ⟨1, 1⟩) (meth := k1m1) (c := k1c1) (by decide +kernel) rfl rfl rfl (by decide +kernel)
set_option maxRecDepth 65536 in
theorem w_c1 : (Jvm.Cond.code ({ cls := "com/example/lease/lease/model/Outcome", name := "retriable", desc := "()Z" } : Jvm.MethodName) prog_16_method_4_code (1 : Nat) (Option.some Jvm.ClassFile.FieldType.boolean)).before args0 about1 = true := code_word (m := ⟨6, 0⟩) (meth := k6m0) (c := k6c0) (by decide +kernel) rfl rfl rfl (by decide +kernel)
def codes1 : List Jvm.Cond := [Jvm.Cond.code x code maxLocals ret, Jvm.Cond.code ({ cls := "com/example/lease/lease/model/Outcome", name := "retriable", desc := "()Z" } : Jvm.MethodName) prog_16_method_4_code (1 : Nat) (Option.some Jvm.ClassFile.FieldType.boolean)]
set_option maxRecDepth 65536 in
theorem codes_eq : words1.filter isCode = codes1 := rfl
theorem w_codes : ∀ c ∈ words1.filter isCode, c.before args0 about1 = true := by
  rw [codes_eq]
  intro c hc
  simp only [codes1, List.mem_cons, List.not_mem_nil, or_false] at hc
  rcases hc with rfl | rfl
  · exact w_c0
  · exact w_c1
set_option maxRecDepth 65536 in
theorem w_t1 : words1.all (fun c => isCode c || c.before args0 about1) = true := by decide +kernel
theorem w_tables : (allAtoms (Jvm.Cond.code x code maxLocals ret :: tables_1)).before args0 about1 = true := by
  rw [allAtoms_all]
  show words1.all (fun c => c.before args0 about1) = true
  refine all_split ?_ w_codes
  rw [w_t1]
set_option maxRecDepth 65536 in
theorem w_case : (Jvm.Cond.and given_1 narrow_1).before args0 about1 = true := by decide +kernel
theorem w_applies : (headSpec (Jvm.Cond.code x code maxLocals ret :: tables_1) room_1).applies x e0.platform about1 = true :=
  (Spec.applies_iff w_frames).mpr ⟨w_running, w_runnable, w_alone, w_named, w_hears, w_ripe, w_room, w_tables⟩
theorem atStart : AtStart classFile x code maxLocals ret World_1 tables_1 room_1 Calls_1 rest_1 Pre_1 launch0 p0 e0 about1 theMethod args0 below0 :=
  ⟨lists_1, trivial, launch0.admits_env _ _ _, launch0.least_env, fairChoices_fair.cas, fairChoices_fair.clock, w_frames, w_args, w_heap, w_applies, trivial, trivial, w_case⟩
end start1
theorem witness_1 : WitnessClaimed_1 := ⟨start1.p0, start1.e0, start1.about1, start1.theMethod, start1.args0, start1.below0, start1.atStart⟩
end Jvm.Pilot.@@N@@
