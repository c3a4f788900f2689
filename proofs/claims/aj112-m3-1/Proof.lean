import JvmDerived
import JvmDerived.Pilot.@@N@@Statement
import JvmDerived.Pilot.@@N@@Code
set_option linter.unusedVariables false
set_option linter.unusedSimpArgs false
@@BLOCK:LamKit.lean.txt@@
namespace Jvm.Pilot.@@N@@
open Jvm Jvm.ClassFile Sem Op Lib Jvm.Free Jvm.Stand Jvm.LawKit Jvm.RoadKit Bundle Jvm.Pilot.@@N@@.Jvm.D
section Own
variable {p : Program} {l : Launch} {e : Env} {R : Room} {s : State} {m : MethodId} {args : Array Value} {below : List Frame} {meth : Method} {c : Code} {T : State} {locs : List Loc} {cells slots : Nat} {Z : State} {a0 : Array Value} {K : State → Outcome → Prop} {pc pc' : Nat} {Ls : Array Slot} {st : List Value} {h : Heap}
/-- from here the run ends, and what is left is as K says -/
def own_Go (p : Program) (e : Env) (below : List Frame) (K : State → Outcome → Prop) (T : State) (f : JFrame) : Prop :=
  ∃ s₂ o, Steps p.tables e below (T.setTop f) s₂ ∧ s₂.status = .running ∧ Ended s₂ below o ∧ K s₂ o
def own_K (Q : Option Value → Heap → List Loc → Prop) (s : State) (cs ss : Nat) : State → Outcome → Prop := fun u o => ∃ v L, o = .returned v ∧ Q v u.heap L ∧ FrameEnd s o u L cs ss
theorem own_go {T' : State} {f f' : JFrame} (h : ∀ t, Steps p.tables e below (T'.setTop f') t → Steps p.tables e below (T.setTop f) t) (k : own_Go p e below K T' f') : own_Go p e below K T f := by
  obtain ⟨a, b, c, d⟩ := k
  exact ⟨a, b, h _ c, d⟩
theorem own_w {tb : List Jvm.Cond} (hw : ∀ d ∈ tb, d.before a0 Z = true) {d : Jvm.Cond} (k : Nat) (h : tb[k]? = some d) : d.before a0 Z = true := hw _ (List.mem_of_getElem? h)
/-- a method's contract: called with these arguments over this heap it returns, and Q says what it leaves -/
abbrev own_Met (l : Launch) (Z : State) (y : MethodName) (bytes : ByteArray) (mx : Nat) (rt : Option FieldType) (ws : List Jvm.Cond) (rm : Room) (as : Array Value) (h0 : Heap) (Q : Option Value → Heap → List Loc → Prop) : Prop :=
  MetFree l y (head1 (Jvm.Cond.code y bytes mx rt :: ws) rm) (fun a U => a = as ∧ Z.Warmed39 U.vm ∧ U.heap = h0) (fun _ _ _ _ _ => True) (fun _ U o U' => ∃ v L, o = .returned v ∧ Q v U'.heap L ∧ FrameEnd U o U' L rm.cells rm.slots)
theorem own_body {y : MethodName} {bytes : ByteArray} {mx : Nat} {rt : Option FieldType} {ws : List Jvm.Cond} {rm : Room} {as : Array Value} {h0 : Heap} {Q : Option Value → Heap → List Loc → Prop} (hp : plainFor y = true)
    (body : ∀ (p : Program) (e : Env) (s : State) (m : MethodId) (below : List Frame) (meth : Method) (c : Code) (T : State), Stand p l e rm s m as below meth c T [] 0 0 → p.tables.exec = Jvm.exec → c.code = bytes → c.maxLocals = mx → meth.sig.returnType = rt → meth.locks = false → Z.Warmed39 s.vm → s.vm.findClass y.cls = some m.cls → meth.name = y.name → T.heap = h0 →
      own_Go p e below (own_K Q s rm.cells rm.slots) T (entryFrame m as mx)) : own_Met l Z y bytes mx rt ws rm as h0 Q := by
  refine MetFree.of_bodySF hp hisR ?_
  intro p e s m args below meth c s₁ Bd hml0 hP hK
  obtain ⟨rfl, hZ, hh⟩ := hP
  exact body p e s m below meth c s₁ (Stand.of_body Bd) Bd.exec Bd.bytes hml0 Bd.returns Bd.notSynchronized hZ (findClass_of_methodNamed Bd.named) (name_of_methodNamed Bd.named Bd.method).1 (by rw [← hh, Bd.state]; rfl)
theorem own_ret (X : Stand p l e R s m args below meth c T locs cells slots) (hx : p.tables.exec = Jvm.exec) {Q : Option Value → Heap → List Loc → Prop} {cs ss : Nat} {w : Value} {t : FieldType} {i : Instr} {rest : List Value} (hlk : meth.locks = false) (hret : meth.sig.returnType = some t) (hd : decode c.code pc = .ok (i, 1)) (hn : narrow t w = w)
    (hi : (i = .ireturn ∧ (t = .int ∨ t = .boolean ∨ t = .byte ∨ t = .char ∨ t = .short) ∧ ∃ z, w = .int z) ∨ (i = .lreturn ∧ t = .long ∧ ∃ z, w = .long z) ∨ (i = .dreturn ∧ t = .double ∧ ∃ z, w = .double z) ∨ (i = .freturn ∧ t = .float ∧ ∃ z, w = .float z) ∨ (i = .areturn ∧ t.isReference = true ∧ w.isRef = true))
    (hc : cells ≤ cs) (hs : slots ≤ ss) (hq : Q (some w) T.heap locs) : own_Go p e below (own_K Q s cs ss) T (mkF m pc Ls (w :: rest)) := by
  obtain ⟨fs, hr, hrun, hended, hW, hsame⟩ := X.leave (v := some w) (fun h => by rw [hret] at h; cases h) hlk
  exact ⟨_, _, retOut X hx hret hn hi hd hr, hrun, hended, _, _, rfl, hq, ⟨_, rfl⟩, hW, hsame.mono hc hs⟩
theorem own_retI (X : Stand p l e R s m args below meth c T locs cells slots) (hx : p.tables.exec = Jvm.exec) {Q : Option Value → Heap → List Loc → Prop} {cs ss : Nat} {z : Int32} {rest : List Value} (hlk : meth.locks = false) (hret : meth.sig.returnType = some .int) (hd : decode c.code pc = .ok (.ireturn, 1)) (hc : cells ≤ cs) (hs : slots ≤ ss) (hq : Q (some (.int z)) T.heap locs) : own_Go p e below (own_K Q s cs ss) T (mkF m pc Ls (.int z :: rest)) :=
  own_ret X hx hlk hret hd rfl (Or.inl ⟨rfl, Or.inl rfl, z, rfl⟩) hc hs hq
theorem own_retZ (X : Stand p l e R s m args below meth c T locs cells slots) (hx : p.tables.exec = Jvm.exec) {Q : Option Value → Heap → List Loc → Prop} {cs ss : Nat} {z : Int32} {rest : List Value} (hlk : meth.locks = false) (hret : meth.sig.returnType = some .boolean) (hd : decode c.code pc = .ok (.ireturn, 1)) (hn : z = 0 ∨ z = 1) (hc : cells ≤ cs) (hs : slots ≤ ss) (hq : Q (some (.int z)) T.heap locs) : own_Go p e below (own_K Q s cs ss) T (mkF m pc Ls (.int z :: rest)) :=
  own_ret X hx hlk hret hd (by rcases hn with rfl | rfl <;> rfl) (Or.inl ⟨rfl, Or.inr (Or.inl rfl), z, rfl⟩) hc hs hq
theorem own_retJ (X : Stand p l e R s m args below meth c T locs cells slots) (hx : p.tables.exec = Jvm.exec) {Q : Option Value → Heap → List Loc → Prop} {cs ss : Nat} {z : Int64} {rest : List Value} (hlk : meth.locks = false) (hret : meth.sig.returnType = some .long) (hd : decode c.code pc = .ok (.lreturn, 1)) (hc : cells ≤ cs) (hs : slots ≤ ss) (hq : Q (some (.long z)) T.heap locs) : own_Go p e below (own_K Q s cs ss) T (mkF m pc Ls (.long z :: rest)) :=
  own_ret X hx hlk hret hd rfl (Or.inr (Or.inl ⟨rfl, rfl, z, rfl⟩)) hc hs hq
theorem own_retA (X : Stand p l e R s m args below meth c T locs cells slots) (hx : p.tables.exec = Jvm.exec) {Q : Option Value → Heap → List Loc → Prop} {cs ss : Nat} {w : Value} {t : FieldType} {rest : List Value} (hlk : meth.locks = false) (hret : meth.sig.returnType = some t) (hd : decode c.code pc = .ok (.areturn, 1)) (ht : t.isReference = true) (hv : w.isRef = true) (hc : cells ≤ cs) (hs : slots ≤ ss) (hq : Q (some w) T.heap locs) : own_Go p e below (own_K Q s cs ss) T (mkF m pc Ls (w :: rest)) :=
  own_ret X hx hlk hret hd (by rcases ref_cases hv with rfl | ⟨a, rfl⟩ <;> cases t <;> first | rfl | cases ht) (Or.inr (Or.inr (Or.inr (Or.inr ⟨rfl, ht, hv⟩)))) hc hs hq
theorem own_retV (X : Stand p l e R s m args below meth c T locs cells slots) (hx : p.tables.exec = Jvm.exec) {Q : Option Value → Heap → List Loc → Prop} {cs ss : Nat} (hlk : meth.locks = false) (hret : meth.sig.returnType = none) (hd : decode c.code pc = .ok (.return_, 1)) (hc : cells ≤ cs) (hs : slots ≤ ss) (hq : Q none T.heap locs) : own_Go p e below (own_K Q s cs ss) T (mkF m pc Ls []) := by
  obtain ⟨fs, hr, hrun, hended, hW, hsame⟩ := X.leave (v := none) (fun _ => rfl) hlk
  exact ⟨_, _, X.returnOut hx hret hd hr, hrun, hended, _, _, rfl, hq, ⟨_, rfl⟩, hW, hsame.mono hc hs⟩
/-- the two roads of a conditional branch -/
theorem own_if (X : Stand p l e R s m args below meth c T locs cells slots) (hx : p.tables.exec = Jvm.exec) {cd : ClassFile.Cond} {o : Int} {z : Int32} {rest : List Value} (hd : decode c.code pc = .ok (.ifCond cd o, 3)) (ho : 0 ≤ (pc : Int) + o) (hp : ((pc : Int) + o).toNat = pc') {pc1 : Nat} (hp1 : pc + 3 = pc1) (P : Prop) (h1 : P → ifCond.holds cd z = true) (h2 : ¬ P → ifCond.holds cd z = false)
    (kt : P → own_Go p e below K T (mkF m pc' Ls rest)) (kf : ¬ P → own_Go p e below K T (mkF m pc1 Ls rest)) : own_Go p e below K T (mkF m pc Ls (.int z :: rest)) := by
  subst hp1
  by_cases q : P
  · exact own_go (fun t k => XS.ifYes X.here hx (g := mkF m pc Ls (.int z :: rest)) rfl (pc0 := pc) (pc' := pc') rfl hd rfl (h1 q) ho hp k) (kt q)
  · exact own_go (fun t k => XS.ifNo X.here hx (g := mkF m pc Ls (.int z :: rest)) rfl hd rfl (h2 q) k) (kf q)
theorem own_icmp (X : Stand p l e R s m args below meth c T locs cells slots) (hx : p.tables.exec = Jvm.exec) {cd : ClassFile.Cond} {o : Int} {y z : Int32} {rest : List Value} (hd : decode c.code pc = .ok (.if_icmp cd o, 3)) (ho : 0 ≤ (pc : Int) + o) (hp : ((pc : Int) + o).toNat = pc') {pc1 : Nat} (hp1 : pc + 3 = pc1) (P : Prop) (h1 : P → if_icmp.holds cd y z = true) (h2 : ¬ P → if_icmp.holds cd y z = false)
    (kt : P → own_Go p e below K T (mkF m pc' Ls rest)) (kf : ¬ P → own_Go p e below K T (mkF m pc1 Ls rest)) : own_Go p e below K T (mkF m pc Ls (.int z :: .int y :: rest)) := by
  subst hp1
  by_cases q : P
  · exact own_go (fun t k => XS.icmpYes X.here hx (g := mkF m pc Ls (.int z :: .int y :: rest)) rfl (pc0 := pc) (pc' := pc') rfl hd rfl (h1 q) ho hp k) (kt q)
  · exact own_go (fun t k => XS.icmpNo X.here hx (g := mkF m pc Ls (.int z :: .int y :: rest)) rfl hd rfl (h2 q) k) (kf q)
theorem own_callS (X : Stand p l e R s m args below meth c T locs cells slots) (hx : p.tables.exec = Jvm.exec) (hZ : Z.Warmed39 s.vm) {own : String} {index : Nat} {y : MethodName} {bytes : ByteArray} {mx : Nat} {rt : Option FieldType} {rm : Room} {argsL rest : List Value} {Q : Option Value → Heap → List Loc → Prop}
    (hown : s.vm.findClass own = some m.cls) (w1 : (Jvm.Cond.methodLink own index y).before a0 Z = true) (w2 : (Jvm.Cond.static y).before a0 Z = true) (w3 : (Jvm.Cond.initialized y.cls).before a0 Z = true) (w4 : (Jvm.Cond.code y bytes mx rt).before a0 Z = true) (hy : y.cls ≠ "java/lang/invoke/MethodHandle" ∧ y.cls ≠ "java/lang/invoke/VarHandle")
    (eT : T.heap = h) (hM : own_Met l Z y bytes mx rt [] rm argsL.toArray h Q) (W : Nat) (hf : rm.frames + 1 ≤ R.frames) (hl : W + (mx + 11) + rm.locals ≤ R.locals) (hcl : cells + rm.cells ≤ R.cells) (hsl : slots + rm.slots ≤ R.slots) (hsz : Ls.size = c.maxLocals) (hlen : ∀ sig, parseMethodDescriptor y.desc = some sig → argsL.length = sig.parameters.length)
    (hst : st = argsL.reverse ++ rest) (hW : (rest.map fun v => v.category).sum ≤ W) (hd : decode c.code pc = .ok (.invokestatic index, 3)) :
    ∃ v T' L, Stand p l e R s m args below meth c T' (locs ++ L) (cells + rm.cells) (slots + rm.slots) ∧ Q v T'.heap L ∧ ∀ t, Steps p.tables e below (T'.setTop (mkF m (pc + 3) Ls (v.toList ++ rest))) t → Steps p.tables e below (T.setTop (mkF m pc Ls st)) t := by
  obtain ⟨v, vm1, ⟨T', L', k', n'⟩, -, X', ⟨L, hQ, l1, l2, l3⟩, stp⟩ := Jvm.LawKit.callS X hx (y := y) hown (mvT hZ w1) (mvT hZ w2) (mvT hZ w3) (mvT hZ w4) hy (backOf (W := W) hM hZ w4 w3 hf hl) (g := mkF m pc Ls st) rfl hsz (argsL := argsL) (rest := rest) hlen hst (by show 2 * 0 + _ ≤ _; omega) hd (fun _ _ => ⟨rfl, eT, hcl, hsl⟩)
  dsimp only [Pt.U, Pt.locs, Pt.cells, Pt.slots] at X' l1 l2 l3 stp hQ
  subst l1 l2 l3
  exact ⟨v, T', L, X', hQ, stp⟩
theorem own_callV (X : Stand p l e R s m args below meth c T locs cells slots) (hx : p.tables.exec = Jvm.exec) (hZ : Z.Warmed39 s.vm) {own C : String} {index : Nat} {y z : MethodName} {bytes : ByteArray} {mx : Nat} {rt : Option FieldType} {rm : Room} {b : Addr} {argsL rest : List Value} {Q : Option Value → Heap → List Loc → Prop}
    (hown : s.vm.findClass own = some m.cls) (w1 : (Jvm.Cond.methodLink own index y).before a0 Z = true) (w2 : (Jvm.Cond.declares y).before a0 Z = true) (w3 : (Jvm.Cond.selects C y z).before a0 Z = true) (hnf : NotFace s y) (w4 : (Jvm.Cond.instanceMethod z).before a0 Z = true) (w5 : (Jvm.Cond.code z bytes mx rt).before a0 Z = true) (w6 : (Jvm.Cond.initialized z.cls).before a0 Z = true) (hy : y.cls ≠ "java/lang/invoke/MethodHandle" ∧ y.cls ≠ "java/lang/invoke/VarHandle")
    (eT : T.heap = h) (E : Exa Z h b C) (hM : own_Met l Z z bytes mx rt [] rm (.ref b :: argsL).toArray h Q) (W : Nat) (hf : rm.frames + 1 ≤ R.frames) (hl : W + (mx + 11) + rm.locals ≤ R.locals) (hcl : cells + rm.cells ≤ R.cells) (hsl : slots + rm.slots ≤ R.slots) (hsz : Ls.size = c.maxLocals) (hlen : ∀ sig, parseMethodDescriptor y.desc = some sig → argsL.length = sig.parameters.length)
    (hst : st = argsL.reverse ++ .ref b :: rest) (hW : (rest.map fun v => v.category).sum ≤ W) (hd : decode c.code pc = .ok (.invokevirtual index, 3)) :
    ∃ v T' L, Stand p l e R s m args below meth c T' (locs ++ L) (cells + rm.cells) (slots + rm.slots) ∧ Q v T'.heap L ∧ ∀ t, Steps p.tables e below (T'.setTop (mkF m (pc + 3) Ls (v.toList ++ rest))) t → Steps p.tables e below (T.setTop (mkF m pc Ls st)) t := by
  obtain ⟨cq, kq, q1, q2, q3⟩ := isOf hZ eT E
  obtain ⟨v, vm1, ⟨T', L', k', n'⟩, -, X', ⟨L, hQ, l1, l2, l3⟩, stp⟩ := X.virtualBack hx (y := y) (z := z) hown (mvT hZ w1) (mvT hZ w2) hnf (mvT hZ w3) (mvT hZ w4) hy (backOf (W := W) hM hZ w5 w6 hf hl) q1 q3 (g := mkF m pc Ls st) rfl hsz (Steps.refl _) (argsL := argsL) (rest := rest) hlen hst (by show 2 * 0 + _ ≤ _; omega) hd (fun _ _ => ⟨rfl, eT, hcl, hsl⟩)
  dsimp only [Pt.U, Pt.locs, Pt.cells, Pt.slots] at X' l1 l2 l3 stp hQ
  subst l1 l2 l3
  exact ⟨v, T', L, X', hQ, fun t k => stp.trans k⟩
theorem own_callU (X : Stand p l e R s m args below meth c T locs cells slots) (hx : p.tables.exec = Jvm.exec) (hZ : Z.Warmed39 s.vm) {own C owner : String} {index : Nat} {y z : MethodName} {bytes : ByteArray} {mx : Nat} {rt : Option FieldType} {rm : Room} {b : Addr} {argsL rest : List Value} {Q : Option Value → Heap → List Loc → Prop}
    (hown : s.vm.findClass own = some m.cls) (w1 : (Jvm.Cond.methodLink own index y).before a0 Z = true) (w2 : (Jvm.Cond.sameMethod y.cls owner y.name y.desc).before a0 Z = true) (w2' : (Jvm.Cond.declares ⟨owner, y.name, y.desc⟩).before a0 Z = true) (w3 : (Jvm.Cond.selects C y z).before a0 Z = true) (w4 : (Jvm.Cond.instanceMethod z).before a0 Z = true) (w5 : (Jvm.Cond.code z bytes mx rt).before a0 Z = true) (w6 : (Jvm.Cond.initialized z.cls).before a0 Z = true) (hy : owner ≠ "java/lang/invoke/MethodHandle" ∧ owner ≠ "java/lang/invoke/VarHandle")
    (eT : T.heap = h) (E : Exa Z h b C) (hM : own_Met l Z z bytes mx rt [] rm (.ref b :: argsL).toArray h Q) (W : Nat) (hf : rm.frames + 1 ≤ R.frames) (hl : W + (mx + 11) + rm.locals ≤ R.locals) (hcl : cells + rm.cells ≤ R.cells) (hsl : slots + rm.slots ≤ R.slots) (hsz : Ls.size = c.maxLocals) (hlen : ∀ sig, parseMethodDescriptor y.desc = some sig → argsL.length = sig.parameters.length)
    (hst : st = argsL.reverse ++ .ref b :: rest) (hW : (rest.map fun v => v.category).sum ≤ W) (hd : decode c.code pc = .ok (.invokevirtual index, 3)) :
    ∃ v T' L, Stand p l e R s m args below meth c T' (locs ++ L) (cells + rm.cells) (slots + rm.slots) ∧ Q v T'.heap L ∧ ∀ t, Steps p.tables e below (T'.setTop (mkF m (pc + 3) Ls (v.toList ++ rest))) t → Steps p.tables e below (T.setTop (mkF m pc Ls st)) t := by
  obtain ⟨cq, kq, q1, q2, q3⟩ := isOf hZ eT E
  obtain ⟨v, vm1, ⟨T', L', k', n'⟩, -, X', ⟨L, hQ, l1, l2, l3⟩, stp⟩ := X.virtualBackUp hx (x := y) (y := z) hown (mvT hZ w1) (mvT hZ w2) (mvT hZ w2') hy (mvT hZ w3) (mvT hZ w4) (backOf (W := W) hM hZ w5 w6 hf hl) q1 q3 (g := mkF m pc Ls st) rfl hsz (Steps.refl _) (argsL := argsL) (rest := rest) hlen hst (by show 2 * 0 + _ ≤ _; omega) hd (fun _ _ => ⟨rfl, eT, hcl, hsl⟩)
  dsimp only [Pt.U, Pt.locs, Pt.cells, Pt.slots] at X' l1 l2 l3 stp hQ
  subst l1 l2 l3
  exact ⟨v, T', L, X', hQ, fun t k => stp.trans k⟩
theorem own_callC (X : Stand p l e R s m args below meth c T locs cells slots) (hx : p.tables.exec = Jvm.exec) (hZ : Z.Warmed39 s.vm) {own : String} {index : Nat} {y : MethodName} {bytes : ByteArray} {mx : Nat} {rm : Room} {b : Addr} {argsL rest : List Value} {Q : Option Value → Heap → List Loc → Prop}
    (hy1 : y.name = "<init>") (hown : s.vm.findClass own = some m.cls) (w1 : (Jvm.Cond.methodLink own index y).before a0 Z = true) (w4 : (Jvm.Cond.instanceMethod y).before a0 Z = true) (w5 : (Jvm.Cond.code y bytes mx none).before a0 Z = true) (w6 : (Jvm.Cond.initialized y.cls).before a0 Z = true) (hy : y.cls ≠ "java/lang/invoke/MethodHandle" ∧ y.cls ≠ "java/lang/invoke/VarHandle")
    (eT : T.heap = h) (hM : own_Met l Z y bytes mx none [] rm (.ref b :: argsL).toArray h Q) (W : Nat) (hf : rm.frames + 1 ≤ R.frames) (hl : W + (mx + 11) + rm.locals ≤ R.locals) (hcl : cells + rm.cells ≤ R.cells) (hsl : slots + rm.slots ≤ R.slots) (hsz : Ls.size = c.maxLocals) (hlen : ∀ sig, parseMethodDescriptor y.desc = some sig → argsL.length = sig.parameters.length)
    (hst : st = argsL.reverse ++ .ref b :: rest) (hW : (rest.map fun v => v.category).sum ≤ W) (hd : decode c.code pc = .ok (.invokespecial index, 3)) :
    ∃ v T' L, Stand p l e R s m args below meth c T' (locs ++ L) (cells + rm.cells) (slots + rm.slots) ∧ Q v T'.heap L ∧ ∀ t, Steps p.tables e below (T'.setTop (mkF m (pc + 3) Ls (v.toList ++ rest))) t → Steps p.tables e below (T.setTop (mkF m pc Ls st)) t := by
  obtain ⟨v, vm1, ⟨T', L', k', n'⟩, -, X', ⟨L, hQ, l1, l2, l3⟩, stp⟩ := X.specialBack hx (y := y) hy1 hown (mvT hZ w1) (mvT hZ w4) (mvT hZ w5) hy (backOf (W := W) hM hZ w5 w6 hf hl) (g := mkF m pc Ls st) rfl hsz (Steps.refl _) (a := b) (argsL := argsL) (rest := rest) hlen hst (by show 2 * 0 + _ ≤ _; omega) hd (fun _ _ => ⟨rfl, eT, hcl, hsl⟩)
  dsimp only [Pt.U, Pt.locs, Pt.cells, Pt.slots] at X' l1 l2 l3 stp hQ
  subst l1 l2 l3
  exact ⟨v, T', L, X', hQ, fun t k => stp.trans k⟩
end Own
section OwnStart
variable {Z : State} {args : Array Value} {t u : Term} {a : Addr} {C n d : String}
theorem own_eqI {k : Int32} (h : (Jvm.Cond.eq t (.int k)).value args Z none Z [] = some true) : t.eval args Z none [] Z = some (.int k) := by
  simp only [Cond.value, Term.eval] at h
  cases ht : t.eval args Z none [] Z with
  | none => simp [ht] at h
  | some x => cases x <;> simp [ht] at h ⊢; exact h
theorem own_eqJ {k : Int64} (h : (Jvm.Cond.eq t (.long k)).value args Z none Z [] = some true) : t.eval args Z none [] Z = some (.long k) := by
  simp only [Cond.value, Term.eval] at h
  cases ht : t.eval args Z none [] Z with
  | none => simp [ht] at h
  | some x => cases x <;> simp [ht] at h ⊢; exact h
theorem own_fld {v : Value} (ev : t.eval args Z none [] Z = some (.ref a)) (h : (Term.field t C n d).eval args Z none [] Z = some v) : Fld Z Z.heap a C n d v := Fld.start ((fld_at ev).symm.trans h)
theorem own_eqR {b : Addr} (ha : t.eval args Z none [] Z = some (.ref b)) (h : (Jvm.Cond.eq u t).value args Z none Z [] = some true) : u.eval args Z none [] Z = some (.ref b) := by
  cases hu : u.eval args Z none [] Z with
  | none => simp [Cond.value, hu] at h
  | some x => cases x <;> simp [Cond.value, hu, ha] at h ⊢; exact h
theorem own_lenOf {cl : Cell} {ty : FieldType} {k : Int32} (ev : t.eval args Z none [] Z = some (.ref a)) (A : Arr Z Z.heap a cl ty) (h : (Term.length t).eval args Z none [] Z = some (.int k)) : cl.slots.size < 2 ^ 31 ∧ cl.slots.size.toInt32 = k := by
  have q := A.fin (Vm.Alike.refl _)
  by_cases hl : cl.slots.size < 2 ^ 31
  · rw [len_f ev q hl] at h
    exact ⟨hl, by cases h; rfl⟩
  · simp [Term.eval, ev, q, hl] at h
end OwnStart
section OwnArr
variable {p : Program} {l : Launch} {e : Env} {R : Room} {s : State} {m : MethodId} {args : Array Value} {below : List Frame} {meth : Method} {c : Code} {T : State} {locs : List Loc} {cells slots : Nat} {Z : State} {a0 : Array Value} {K : State → Outcome → Prop} {pc pc' : Nat} {Ls : Array Slot} {rest : List Value} {h : Heap}
theorem own_oldge {n0 : Nat} (O : Old Z n0 h) : n0 ≤ h.size := O.1 ▸ O.2.1
theorem own_newR (X : Stand p l e R s m args below meth c T locs cells slots) (hx : p.tables.exec = Jvm.exec) (hZ : Z.Warmed39 s.vm) {own C : String} {index : Nat} (hown : s.vm.findClass own = some m.cls) (w1 : (Jvm.Cond.classLink own index C).before a0 Z = true) (w2 : (Jvm.Cond.arrayOver (.object C)).before a0 Z = true) (eT : T.heap = h)
    (hd : decode c.code pc = .ok (.anewarray index, 3)) {n : Int32} (hn : ¬ n < 0) (cap : Nat) (hcap : n.toNatClampNeg ≤ cap) (hb : cap * 8 ≤ 536870912) (hc : cells + 1 ≤ R.cells) (hl : slots + cap ≤ R.slots) :
    ∃ T' h' b kA, Stand p l e R s m args below meth c T' locs (cells + 1) (slots + cap) ∧ T'.heap = h' ∧ Ext h h' ∧ b = h.size ∧ Arv Z h' b kA (.object C) n (List.replicate cap .null) .null ∧ Ovr Z kA C ∧ ∀ t, Steps p.tables e below (T'.setTop (mkF m (pc + 3) Ls (.ref b :: rest))) t → Steps p.tables e below (T.setTop (mkF m pc Ls (.int n :: rest))) t := by
  obtain ⟨T', h', kA, X', e', E', A', O', st'⟩ := newR X hx hZ hown w1 w2 eT (g := mkF m pc Ls (.int n :: rest)) rfl hd rfl hn hcap hb hc hl
  exact ⟨T', h', h.size, kA, X', e', E', rfl, (Arv.new A' hn).pad (pad_rep [] _ cap), O', st'⟩
theorem own_stR (X : Stand p l e R s m args below meth c T locs cells slots) (hx : p.tables.exec = Jvm.exec) (hZ : Z.Warmed39 s.vm) (eT : T.heap = h) {b y : Addr} {kA : ClassId} {C : String} {n j : Int32} {vs vs' : List Value} (V : Arv Z h b kA (.object C) n vs .null) (O : Ovr Z kA C) (I : Ins Z h y C true) (hj : ¬ j < 0 ∧ j < n) (i : Nat) (hi : j.toNatClampNeg = i) (hil : i < vs.length) (hvs : vs.set i (.ref y) = vs') {n0 : Nat} (N : Fr n0 locs) (g : n0 ≤ b)
    (hd : decode c.code pc = .ok (.aastore, 1)) :
    ∃ T' h' L', Stand p l e R s m args below meth c T' L' cells slots ∧ Fr n0 L' ∧ T'.heap = h' ∧ Wr h h' b i (.ref y) ∧ Arv Z h' b kA (.object C) n vs' .null ∧ ∀ t, Steps p.tables e below (T'.setTop (mkF m (pc + 1) Ls rest)) t → Steps p.tables e below (T.setTop (mkF m pc Ls (.ref y :: .int j :: .ref b :: rest))) t := by
  obtain ⟨cl, A, q, S, Nn, H, G⟩ := V
  subst hvs
  obtain ⟨T', h', X', e', W', st'⟩ := stR X hx hZ eT A (j := j) (inb_of S hj) rfl (Sto.ofV A q O I) (g := mkF m pc Ls (.ref y :: .int j :: .ref b :: rest)) rfl rfl hd
  refine ⟨T', h', _, X', Fr.snoc X' N g, e', hi ▸ W', Arv.set A q S Nn H G rfl W' i hi hil, st'⟩
theorem own_ldR (X : Stand p l e R s m args below meth c T locs cells slots) (hx : p.tables.exec = Jvm.exec) (hZ : Z.Warmed39 s.vm) (eT : T.heap = h) {b : Addr} {kA : ClassId} {ty : FieldType} {n j : Int32} {vs : List Value} {dv v : Value} (V : Arv Z h b kA ty n vs dv) (hty : ty.isReference = true) (hj : ¬ j < 0 ∧ j < n) (hv : vs.getD j.toNatClampNeg dv = v) (hd : decode c.code pc = .ok (.aaload, 1)) :
    ∀ t, Steps p.tables e below (T.setTop (mkF m (pc + 1) Ls (v :: rest))) t → Steps p.tables e below (T.setTop (mkF m pc Ls (.int j :: .ref b :: rest))) t := by
  obtain ⟨cl, A, q, S, Nn, H, G⟩ := V
  intro t k
  exact X.aaload hx (j := j) (v := v) (by rw [eT]; exact A.1) (State.isArrayOf_alike hZ.alike A.2.1) hty A.2.2 (inb_of S hj) (H.at (inb_of S hj) hv) (g := mkF m pc Ls (.int j :: .ref b :: rest)) rfl rfl hd t k
theorem own_len (X : Stand p l e R s m args below meth c T locs cells slots) (hx : p.tables.exec = Jvm.exec) (hZ : Z.Warmed39 s.vm) (eT : T.heap = h) {b : Addr} {kA : ClassId} {ty : FieldType} {n : Int32} {vs : List Value} {dv : Value} (V : Arv Z h b kA ty n vs dv) (hd : decode c.code pc = .ok (.arraylength, 1)) :
    ∀ t, Steps p.tables e below (T.setTop (mkF m (pc + 1) Ls (.int n :: rest))) t → Steps p.tables e below (T.setTop (mkF m pc Ls (.ref b :: rest))) t := by
  obtain ⟨cl, A, q, S, Nn, H, G⟩ := V
  intro t k
  refine X.arraylength hx (by rw [eT]; exact A.1) (State.isArrayOf_alike hZ.alike A.2.1) (g := mkF m pc Ls (.ref b :: rest)) rfl rfl hd t ?_
  rw [len_of S Nn]
  exact k
end OwnArr
theorem own_maskInt (x : Int32) : 0 ≤ (x &&& (2147483647 : Int32)).toInt := by
  have h : (x &&& (2147483647 : Int32)).toBitVec.msb = false := by
    show (x.toBitVec &&& 2147483647#32).msb = false
    rw [BitVec.msb_and]
    have : (2147483647#32).msb = false := by decide
    rw [this, Bool.and_false]
  have h2 : (x &&& (2147483647 : Int32)).toInt = (x &&& (2147483647 : Int32)).toBitVec.toInt := rfl
  rw [h2, BitVec.toInt_eq_toNat_of_msb h]
  omega
theorem own_rem (x n : Int32) (hn : 0 < n.toInt) : ¬ (x &&& (2147483647 : Int32)) % n < 0 ∧ (x &&& (2147483647 : Int32)) % n < n := by
  have h0 := own_maskInt x
  have e0 : (0 : Int32).toInt = 0 := rfl
  rw [Int32.lt_iff_toInt_lt, Int32.lt_iff_toInt_lt, Int32.toInt_mod, e0]
  have h1 := Int.tmod_nonneg n.toInt h0
  have h2 := Int.tmod_lt_of_pos (x &&& (2147483647 : Int32)).toInt hn
  omega
section OwnPrim
variable {p : Program} {l : Launch} {e : Env} {R : Room} {s : State} {m : MethodId} {args : Array Value} {below : List Frame} {meth : Method} {c : Code} {T : State} {locs : List Loc} {cells slots : Nat} {Z : State} {a0 : Array Value} {K : State → Outcome → Prop} {pc pc' : Nat} {Ls : Array Slot} {rest : List Value} {h : Heap}
theorem own_newP (X : Stand p l e R s m args below meth c T locs cells slots) (hx : p.tables.exec = Jvm.exec) (hZ : Z.Warmed39 s.vm) {aty : ArrayType} {ty : FieldType} (hty : newarray.typeOf aty = ty) (w : (Jvm.Cond.arrayClass ty).before a0 Z = true) (eT : T.heap = h)
    (hd : decode c.code pc = .ok (.newarray aty, 2)) {n : Int32} (hn : ¬ n < 0) (cap : Nat) (hcap : n.toNatClampNeg ≤ cap) (hb : cap * 8 ≤ 536870912) (hc : cells + 1 ≤ R.cells) (hl : slots + cap ≤ R.slots) :
    ∃ T' h' b kA, Stand p l e R s m args below meth c T' locs (cells + 1) (slots + cap) ∧ T'.heap = h' ∧ Ext h h' ∧ b = h.size ∧ Arv Z h' b kA ty n (List.replicate cap (defaultValue ty)) (defaultValue ty) ∧ ∀ t, Steps p.tables e below (T'.setTop (mkF m (pc + 2) Ls (.ref b :: rest))) t → Steps p.tables e below (T.setTop (mkF m pc Ls (.int n :: rest))) t := by
  subst hty
  obtain ⟨T', h', kA, X', e', E', A', st'⟩ := newP X hx hZ w eT (g := mkF m pc Ls (.int n :: rest)) rfl hd rfl hn hcap hb hc hl
  exact ⟨T', h', h.size, kA, X', e', E', rfl, (Arv.new A' hn).pad (pad_rep [] _ cap), st'⟩
theorem own_stB (X : Stand p l e R s m args below meth c T locs cells slots) (hx : p.tables.exec = Jvm.exec) (hZ : Z.Warmed39 s.vm) (eT : T.heap = h) {b : Addr} {kA : ClassId} {n j y : Int32} {vs vs' : List Value} {dv : Value} (V : Arv Z h b kA .byte n vs dv) (hy : y.toInt8.toInt32 = y) (hj : ¬ j < 0 ∧ j < n) (i : Nat) (hi : j.toNatClampNeg = i) (hil : i < vs.length) (hvs : vs.set i (.int y) = vs') {n0 : Nat} (N : Fr n0 locs) (g : n0 ≤ b)
    (hd : decode c.code pc = .ok (.bastore, 1)) :
    ∃ T' h' L', Stand p l e R s m args below meth c T' L' cells slots ∧ Fr n0 L' ∧ T'.heap = h' ∧ Wr h h' b i (.int y) ∧ Arv Z h' b kA .byte n vs' dv ∧ ∀ t, Steps p.tables e below (T'.setTop (mkF m (pc + 1) Ls rest)) t → Steps p.tables e below (T.setTop (mkF m pc Ls (.int y :: .int j :: .ref b :: rest))) t := by
  obtain ⟨cl, A, q, S, Nn, H, G⟩ := V
  subst hvs
  obtain ⟨T', h', X', e', W', st'⟩ := stB X hx hZ eT A (j := j) (inb_of S hj) (g := mkF m pc Ls (.int y :: .int j :: .ref b :: rest)) rfl rfl hd
  have hn : nar .byte y = y := hy
  rw [hn] at W'
  refine ⟨T', h', _, X', Fr.snoc X' N g, e', hi ▸ W', Arv.set A q S Nn H G (by have := fits_nar_byte y; rwa [hy] at this) W' i hi hil, st'⟩
theorem own_stJ (X : Stand p l e R s m args below meth c T locs cells slots) (hx : p.tables.exec = Jvm.exec) (hZ : Z.Warmed39 s.vm) (eT : T.heap = h) {b : Addr} {kA : ClassId} {n j : Int32} {y : Int64} {vs vs' : List Value} {dv : Value} (V : Arv Z h b kA .long n vs dv) (hj : ¬ j < 0 ∧ j < n) (i : Nat) (hi : j.toNatClampNeg = i) (hil : i < vs.length) (hvs : vs.set i (.long y) = vs') {n0 : Nat} (N : Fr n0 locs) (g : n0 ≤ b)
    (hd : decode c.code pc = .ok (.lastore, 1)) :
    ∃ T' h' L', Stand p l e R s m args below meth c T' L' cells slots ∧ Fr n0 L' ∧ T'.heap = h' ∧ Wr h h' b i (.long y) ∧ Arv Z h' b kA .long n vs' dv ∧ ∀ t, Steps p.tables e below (T'.setTop (mkF m (pc + 1) Ls rest)) t → Steps p.tables e below (T.setTop (mkF m pc Ls (.long y :: .int j :: .ref b :: rest))) t := by
  obtain ⟨cl, A, q, S, Nn, H, G⟩ := V
  subst hvs
  obtain ⟨T', h', X', e', W', st'⟩ := stJ X hx hZ eT A (j := j) (inb_of S hj) (g := mkF m pc Ls (.long y :: .int j :: .ref b :: rest)) rfl rfl hd
  refine ⟨T', h', _, X', Fr.snoc X' N g, e', hi ▸ W', Arv.set A q S Nn H G rfl W' i hi hil, st'⟩
theorem own_ldB (X : Stand p l e R s m args below meth c T locs cells slots) (hx : p.tables.exec = Jvm.exec) (hZ : Z.Warmed39 s.vm) (eT : T.heap = h) {b : Addr} {kA : ClassId} {n j : Int32} {vs : List Value} {dv v : Value} (V : Arv Z h b kA .byte n vs dv) (hj : ¬ j < 0 ∧ j < n) (hv : vs.getD j.toNatClampNeg dv = v) (hd : decode c.code pc = .ok (.baload, 1)) :
    ∀ t, Steps p.tables e below (T.setTop (mkF m (pc + 1) Ls (v :: rest))) t → Steps p.tables e below (T.setTop (mkF m pc Ls (.int j :: .ref b :: rest))) t := by
  obtain ⟨cl, A, q, S, Nn, H, G⟩ := V
  intro t k
  exact X.baloadBytes hx (j := j) (v := v) (by rw [eT]; exact A.1) (State.isArrayOf_alike hZ.alike A.2.1) A.2.2 (inb_of S hj) (H.at (inb_of S hj) hv) (g := mkF m pc Ls (.int j :: .ref b :: rest)) rfl rfl hd t k
theorem own_ldJ (X : Stand p l e R s m args below meth c T locs cells slots) (hx : p.tables.exec = Jvm.exec) (hZ : Z.Warmed39 s.vm) (eT : T.heap = h) {b : Addr} {kA : ClassId} {n j : Int32} {vs : List Value} {dv v : Value} (V : Arv Z h b kA .long n vs dv) (hj : ¬ j < 0 ∧ j < n) (hv : vs.getD j.toNatClampNeg dv = v) (hd : decode c.code pc = .ok (.laload, 1)) :
    ∀ t, Steps p.tables e below (T.setTop (mkF m (pc + 1) Ls (v :: rest))) t → Steps p.tables e below (T.setTop (mkF m pc Ls (.int j :: .ref b :: rest))) t := by
  obtain ⟨cl, A, q, S, Nn, H, G⟩ := V
  intro t k
  exact X.laload hx (j := j) (v := v) (by rw [eT]; exact A.1) (State.isArrayOf_alike hZ.alike A.2.1) A.2.2 (inb_of S hj) (H.at (inb_of S hj) hv) (g := mkF m pc Ls (.int j :: .ref b :: rest)) rfl rfl hd t k
end OwnPrim
theorem own_b8 (x : Int32) : x.toInt8.toInt32.toInt8.toInt32 = x.toInt8.toInt32 := by simp
section OwnObj
variable {p : Program} {l : Launch} {e : Env} {R : Room} {s : State} {m : MethodId} {args : Array Value} {below : List Frame} {meth : Method} {c : Code} {T : State} {locs : List Loc} {cells slots : Nat} {Z : State} {a0 : Array Value} {pc : Nat} {Ls : Array Slot} {st rest : List Value} {h : Heap}
theorem own_newO (X : Stand p l e R s m args below meth c T locs cells slots) (hx : p.tables.exec = Jvm.exec) (hZ : Z.Warmed39 s.vm) {own C : String} {index n : Nat} (hown : s.vm.findClass own = some m.cls) (w : (Jvm.Cond.classLink own index C).before a0 Z = true) (wi : (Jvm.Cond.instantiable C n).before a0 Z = true) (wz : (Jvm.Cond.initialized C).before a0 Z = true) (eT : T.heap = h)
    (hd : decode c.code pc = .ok (.new index, 3)) (hc : cells + 1 ≤ R.cells) (hl : slots + n ≤ R.slots) :
    ∃ T' h' b, Stand p l e R s m args below meth c T' locs (cells + 1) (slots + n) ∧ T'.heap = h' ∧ Ext h h' ∧ b = h.size ∧ Exa Z h' b C ∧ (∀ {O nm d : String} {ty : FieldType}, Laid Z a0 C O nm d → parseFieldDescriptor d = some ty → Fld Z h' b O nm d (defaultValue ty)) ∧
      ∀ t, Steps p.tables e below (T'.setTop (mkF m (pc + 3) Ls (.ref b :: st))) t → Steps p.tables e below (T.setTop (mkF m pc Ls st)) t := by
  obtain ⟨T', h', X', e', E', A', D', -, st'⟩ := newO X hx hZ hown w wi wz eT (g := mkF m pc Ls st) rfl hd hc hl
  exact ⟨T', h', h.size, X', e', E', rfl, A', D', st'⟩
theorem own_refNar {t : FieldType} {v : Value} (ht : t.isReference = true) (hv : v.isRef = true) : narrow t v = v := by
  rcases ref_cases hv with rfl | ⟨a, rfl⟩ <;> cases t <;> first | rfl | cases ht
theorem own_refFit {t : FieldType} {v : Value} (ht : t.isReference = true) (hv : v.isRef = true) : fits t v = true := by
  rcases ref_cases hv with rfl | ⟨a, rfl⟩ <;> cases t <;> first | rfl | cases ht
theorem own_putF (X : Stand p l e R s m args below meth c T locs cells slots) (hx : p.tables.exec = Jvm.exec) (hZ : Z.Warmed39 s.vm) {own R0 O n d host C : String} {index kk : Nat} (hown : s.vm.findClass own = some m.cls) (w : (Jvm.Cond.fieldLink own index R0 n d).before a0 Z = true ∨ (Jvm.Cond.fieldLinkNest own index R0 n d host).before a0 Z = true) (via : Via Z R0 O n d)
    (eT : T.heap = h) {a : Addr} {v old : Value} (F : Fld Z h a O n d old) (E : Exa Z h a C) (L : (Jvm.Cond.lays C O n d).before a0 Z = true ∨ ((Jvm.Cond.laysFinal C O n d).before a0 Z = true ∧ own = O ∧ meth.name = "<init>")) (wi : (Jvm.Cond.instantiable C kk).before a0 Z = true)
    (ty : FieldType) (hty : parseFieldDescriptor d = some ty) (hn : narrow ty v = v) (hf : fits ty v = true) {n0 : Nat} (N : Fr n0 locs) (g : n0 ≤ a) (hd : decode c.code pc = .ok (.putfield index, 3)) :
    ∃ T' h' L', Stand p l e R s m args below meth c T' L' cells slots ∧ Fr n0 L' ∧ T'.heap = h' ∧ Wr h h' a (Jvm.RoadKit.slotOf Z O n d) v ∧ Fld Z h' a O n d v ∧ ∀ t, Steps p.tables e below (T'.setTop (mkF m (pc + 3) Ls rest)) t → Steps p.tables e below (T.setTop (mkF m pc Ls (v :: .ref a :: rest))) t := by
  obtain ⟨T', h', X', e', W', st'⟩ := putF X hx hZ hown w via eT F E L wi (ty := ty) hty hn hf (g := mkF m pc Ls (v :: .ref a :: rest)) rfl rfl hd
  exact ⟨T', h', _, X', Fr.snoc X' N g, e', W', F.same W', st'⟩
end OwnObj
section OwnCalls
variable {p : Program} {l : Launch} {e : Env} {R : Room} {s : State} {m : MethodId} {args : Array Value} {below : List Frame} {meth : Method} {c : Code} {T : State} {locs : List Loc} {cells slots : Nat} {Z : State} {a0 : Array Value} {pc : Nat} {Ls : Array Slot} {st rest : List Value} {h : Heap}
theorem own_callP (X : Stand p l e R s m args below meth c T locs cells slots) (hx : p.tables.exec = Jvm.exec) (hZ : Z.Warmed39 s.vm) {own C : String} {index : Nat} {y : MethodName} {bytes : ByteArray} {mx : Nat} {rt : Option FieldType} {rm : Room} {b : Addr} {argsL rest : List Value} {Q : Option Value → Heap → List Loc → Prop}
    (hown : s.vm.findClass own = some m.cls) (w1 : (Jvm.Cond.methodLink own index y).before a0 Z = true) (w2 : (Jvm.Cond.privateMethod y).before a0 Z = true) (w3 : (Jvm.Cond.selects y.cls y y).before a0 Z = true) (w4 : (Jvm.Cond.instanceMethod y).before a0 Z = true) (w5 : (Jvm.Cond.code y bytes mx rt).before a0 Z = true) (w6 : (Jvm.Cond.initialized y.cls).before a0 Z = true) (hy : y.cls ≠ "java/lang/invoke/MethodHandle" ∧ y.cls ≠ "java/lang/invoke/VarHandle")
    (eT : T.heap = h) (E : Exa Z h b C) (hM : own_Met l Z y bytes mx rt [] rm (.ref b :: argsL).toArray h Q) (W : Nat) (hf : rm.frames + 1 ≤ R.frames) (hl : W + (mx + 11) + rm.locals ≤ R.locals) (hcl : cells + rm.cells ≤ R.cells) (hsl : slots + rm.slots ≤ R.slots) (hsz : Ls.size = c.maxLocals) (hlen : ∀ sig, parseMethodDescriptor y.desc = some sig → argsL.length = sig.parameters.length)
    (hst : st = argsL.reverse ++ .ref b :: rest) (hW : (rest.map fun v => v.category).sum ≤ W) (hd : decode c.code pc = .ok (.invokevirtual index, 3)) :
    ∃ v T' L, Stand p l e R s m args below meth c T' (locs ++ L) (cells + rm.cells) (slots + rm.slots) ∧ Q v T'.heap L ∧ ∀ t, Steps p.tables e below (T'.setTop (mkF m (pc + 3) Ls (v.toList ++ rest))) t → Steps p.tables e below (T.setTop (mkF m pc Ls st)) t := by
  obtain ⟨cq, q1, q2⟩ := E.cell
  obtain ⟨v, vm1, ⟨T', L', k', n'⟩, -, X', ⟨L, hQ, l1, l2, l3⟩, stp⟩ := X.privateBack hx (y := y) hown (mvT hZ w1) (mvT hZ w4) (mvT hZ w3) (Cond.privateMethod_at (mvP hZ w2 (args := #[]))) (mvT hZ w5) hy (backOf (W := W) hM hZ w5 w6 hf hl) (g := mkF m pc Ls st) rfl hsz (Steps.refl _) (a := b) (by rw [eT]; exact q1) q2 (argsL := argsL) (rest := rest) hlen hst (by show 2 * 0 + _ ≤ _; omega) hd (fun _ _ => ⟨rfl, eT, hcl, hsl⟩)
  dsimp only [Pt.U, Pt.locs, Pt.cells, Pt.slots] at X' l1 l2 l3 stp hQ
  subst l1 l2 l3
  exact ⟨v, T', L, X', hQ, fun t k => stp.trans k⟩
theorem own_callI (X : Stand p l e R s m args below meth c T locs cells slots) (hx : p.tables.exec = Jvm.exec) (hZ : Z.Warmed39 s.vm) {own C : String} {index count : Nat} {xi y : MethodName} {bytes : ByteArray} {mx : Nat} {rt : Option FieldType} {rm : Room} {b : Addr} {argsL rest : List Value} {Q : Option Value → Heap → List Loc → Prop}
    (hown : s.vm.findClass own = some m.cls) (w1 : (Jvm.Cond.methodLink own index xi).before a0 Z = true) (w2 : (Jvm.Cond.declares xi).before a0 Z = true) (hface : (Jvm.Cond.interfaceMethod xi.cls xi.cls xi.name xi.desc).before args s = true) (w3 : (Jvm.Cond.selects C xi y).before a0 Z = true) (w4 : (Jvm.Cond.instanceMethod y).before a0 Z = true) (w7 : (Jvm.Cond.publicMethod y).before a0 Z = true) (hunh : (Jvm.Cond.unhidden C xi.name xi.desc).before args s = true) (w8 : (Jvm.Cond.castable C xi.cls).before a0 Z = true) (w5 : (Jvm.Cond.code y bytes mx rt).before a0 Z = true) (w6 : (Jvm.Cond.initialized y.cls).before a0 Z = true) (hy : xi.cls ≠ "java/lang/invoke/MethodHandle" ∧ xi.cls ≠ "java/lang/invoke/VarHandle")
    (eT : T.heap = h) (E : Exa Z h b C) (hM : own_Met l Z y bytes mx rt [] rm (.ref b :: argsL).toArray h Q) (W : Nat) (hf : rm.frames + 1 ≤ R.frames) (hl : W + (mx + 11) + rm.locals ≤ R.locals) (hcl : cells + rm.cells ≤ R.cells) (hsl : slots + rm.slots ≤ R.slots) (hsz : Ls.size = c.maxLocals) (hlen : ∀ sig, parseMethodDescriptor xi.desc = some sig → argsL.length = sig.parameters.length)
    (hst : st = argsL.reverse ++ .ref b :: rest) (hW : (rest.map fun v => v.category).sum ≤ W) (hd : decode c.code pc = .ok (.invokeinterface index count, 5)) :
    ∃ v T' L, Stand p l e R s m args below meth c T' (locs ++ L) (cells + rm.cells) (slots + rm.slots) ∧ Q v T'.heap L ∧ ∀ t, Steps p.tables e below (T'.setTop (mkF m (pc + 5) Ls (v.toList ++ rest))) t → Steps p.tables e below (T.setTop (mkF m pc Ls st)) t := by
  obtain ⟨cq, kq, q1, q2, q3⟩ := isOf hZ eT E
  obtain ⟨v, vm1, ⟨T', L', k', n'⟩, -, X', ⟨L, hQ, l1, l2, l3⟩, stp⟩ := X.interfaceBack hx (xi := xi) (y := y) hown (mvT hZ w1) (mvT hZ w2) hface (mvT hZ w3) (mvT hZ w4) (mvT hZ w7) hunh (mvT hZ w8) hy (backOf (W := W) hM hZ w5 w6 hf hl) q1 q2 q3 (g := mkF m pc Ls st) rfl hsz (Steps.refl _) (argsL := argsL) (rest := rest) hlen hst (by show 2 * 0 + _ ≤ _; omega) hd (fun _ _ => ⟨rfl, eT, hcl, hsl⟩)
  dsimp only [Pt.U, Pt.locs, Pt.cells, Pt.slots] at X' l1 l2 l3 stp hQ
  subst l1 l2 l3
  exact ⟨v, T', L, X', hQ, fun t k => stp.trans k⟩
theorem own_cast (X : Stand p l e R s m args below meth c T locs cells slots) (hx : p.tables.exec = Jvm.exec) (hZ : Z.Warmed39 s.vm) {own K : String} {index : Nat} (hown : s.vm.findClass own = some m.cls) (w : (Jvm.Cond.classLink own index K).before a0 Z = true) (eT : T.heap = h) {a : Addr} (F : Ins Z h a K true) (hd : decode c.code pc = .ok (.checkcast index, 3)) :
    ∃ T', Stand p l e R s m args below meth c T' locs cells slots ∧ T'.heap = h ∧ ∀ t, Steps p.tables e below (T'.setTop (mkF m (pc + 3) Ls (.ref a :: rest))) t → Steps p.tables e below (T.setTop (mkF m pc Ls (.ref a :: rest))) t :=
  castY X hx hZ hown w eT F (g := mkF m pc Ls (.ref a :: rest)) rfl rfl hd
/-- a contract whose tables are warmer in the narrow sense (a lambda's site is in its reach) -/
abbrev own_MetH (l : Launch) (Z : State) (y : MethodName) (bytes : ByteArray) (mx : Nat) (rt : Option FieldType) (ws : List Jvm.Cond) (rm : Room) (as : Array Value) (h0 : Heap) (Q : Option Value → Heap → List Loc → Prop) : Prop :=
  MetFree l y (head1 (Jvm.Cond.code y bytes mx rt :: ws) rm) (fun a U => a = as ∧ Z.WarmedH U.vm ∧ U.heap = h0) (fun _ _ _ _ _ => True) (fun _ U o U' => ∃ v L, o = .returned v ∧ Q v U'.heap L ∧ FrameEnd U o U' L rm.cells rm.slots)
theorem own_bodyH {y : MethodName} {bytes : ByteArray} {mx : Nat} {rt : Option FieldType} {ws : List Jvm.Cond} {rm : Room} {as : Array Value} {h0 : Heap} {Q : Option Value → Heap → List Loc → Prop} (hp : plainFor y = true)
    (body : ∀ (p : Program) (e : Env) (s : State) (m : MethodId) (below : List Frame) (meth : Method) (c : Code) (T : State), Stand p l e rm s m as below meth c T [] 0 0 → p.tables.exec = Jvm.exec → c.code = bytes → c.maxLocals = mx → meth.sig.returnType = rt → meth.locks = false → Z.WarmedH s.vm → s.methodNamed? y = some m → meth.name = y.name → T.heap = h0 →
      own_Go p e below (own_K Q s rm.cells rm.slots) T (entryFrame m as mx)) : own_MetH l Z y bytes mx rt ws rm as h0 Q := by
  refine MetFree.of_bodySF hp hisR ?_
  intro p e s m args below meth c s₁ Bd hml0 hP hK
  obtain ⟨rfl, hZ, hh⟩ := hP
  exact body p e s m below meth c s₁ (Stand.of_body Bd) Bd.exec Bd.bytes hml0 Bd.returns Bd.notSynchronized hZ Bd.named (name_of_methodNamed Bd.named Bd.method).1 (by rw [← hh, Bd.state]; rfl)
theorem own_backH {y : MethodName} {bytes : ByteArray} {mx : Nat} {rt : Option FieldType} {rm : Room} {len W : Nat} {as' : Array Value} {Q : Option Value → Heap → List Loc → Prop}
    (hM : own_MetH l Z y bytes mx rt [] rm as' h Q) (hZH : Z.WarmedH s.vm) (wc : (Jvm.Cond.code y bytes mx rt).before a0 Z = true) (wz : (Jvm.Cond.initialized y.cls).before a0 Z = true) (hf : rm.frames + 1 ≤ R.frames) (hl : W + (mx + 11) + rm.locals ≤ R.locals) :
    Back l R p e below s args y len W (fun A a => a = as' ∧ A.U.heap = h ∧ A.cells + rm.cells ≤ R.cells ∧ A.slots + rm.slots ≤ R.slots)
      (fun A _ v B => ∃ L, Q v B.U.heap L ∧ B.locs = A.locs ++ L ∧ B.cells = A.cells + rm.cells ∧ B.slots = A.slots + rm.slots) :=
  Back.of_free (bytes := bytes) (maxL := mx) (ret := rt) (E := fun _ _ o t L k n => k = rm.cells ∧ n = rm.slots ∧ ∃ v, o = .returned v ∧ Q v t.heap L) hM hf hl
    (fun m meth c A a Y hp => have hU : Z.Warmed39 A.U.vm := (State.WarmedH.trans hZH Y.warmed).wide
      ⟨by show (Jvm.Cond.and _ .tt).before a A.U = true; rw [Cond.before_and, mvT hU wc]; rfl, mvT hU wc, mvT hU wz, hp.2.2.1, hp.2.2.2⟩)
    (fun m meth c A a g mk Y hp => ⟨hp.1, State.WarmedH.trans hZH Y.warmed, hp.2.1⟩) (fun _ _ _ _ _ _ _ _ _ => trivial)
    (fun _ _ _ _ ⟨v, L, h1, h2, h3⟩ => ⟨L, _, _, h3, rfl, rfl, v, h1, h2⟩)
    (fun m meth c A a g mk v t L k n Y hp _ _ ⟨e1, e2, v', e3, e4⟩ => by cases e3; subst e1 e2; exact ⟨L, e4, rfl, rfl, rfl⟩)
theorem own_callSH (X : Stand p l e R s m args below meth c T locs cells slots) (hx : p.tables.exec = Jvm.exec) (hZH : Z.WarmedH s.vm) {own : String} {index : Nat} {y : MethodName} {bytes : ByteArray} {mx : Nat} {rt : Option FieldType} {rm : Room} {argsL rest : List Value} {Q : Option Value → Heap → List Loc → Prop}
    (hown : s.vm.findClass own = some m.cls) (w1 : (Jvm.Cond.methodLink own index y).before a0 Z = true) (w2 : (Jvm.Cond.static y).before a0 Z = true) (w3 : (Jvm.Cond.initialized y.cls).before a0 Z = true) (w4 : (Jvm.Cond.code y bytes mx rt).before a0 Z = true) (hy : y.cls ≠ "java/lang/invoke/MethodHandle" ∧ y.cls ≠ "java/lang/invoke/VarHandle")
    (eT : T.heap = h) (hM : own_MetH l Z y bytes mx rt [] rm argsL.toArray h Q) (W : Nat) (hf : rm.frames + 1 ≤ R.frames) (hl : W + (mx + 11) + rm.locals ≤ R.locals) (hcl : cells + rm.cells ≤ R.cells) (hsl : slots + rm.slots ≤ R.slots) (hsz : Ls.size = c.maxLocals) (hlen : ∀ sig, parseMethodDescriptor y.desc = some sig → argsL.length = sig.parameters.length)
    (hst : st = argsL.reverse ++ rest) (hW : (rest.map fun v => v.category).sum ≤ W) (hd : decode c.code pc = .ok (.invokestatic index, 3)) :
    ∃ v T' L, Stand p l e R s m args below meth c T' (locs ++ L) (cells + rm.cells) (slots + rm.slots) ∧ Q v T'.heap L ∧ ∀ t, Steps p.tables e below (T'.setTop (mkF m (pc + 3) Ls (v.toList ++ rest))) t → Steps p.tables e below (T.setTop (mkF m pc Ls st)) t := by
  have hZ := hZH.wide
  obtain ⟨v, vm1, ⟨T', L', k', n'⟩, -, X', ⟨L, hQ, l1, l2, l3⟩, stp⟩ := Jvm.LawKit.callS X hx (y := y) hown (mvT hZ w1) (mvT hZ w2) (mvT hZ w3) (mvT hZ w4) hy (own_backH (W := W) hM hZH w4 w3 hf hl) (g := mkF m pc Ls st) rfl hsz (argsL := argsL) (rest := rest) hlen hst (by show 2 * 0 + _ ≤ _; omega) hd (fun _ _ => ⟨rfl, eT, hcl, hsl⟩)
  dsimp only [Pt.U, Pt.locs, Pt.cells, Pt.slots] at X' l1 l2 l3 stp hQ
  subst l1 l2 l3
  exact ⟨v, T', L, X', hQ, stp⟩
end OwnCalls
section OwnLam
open Jvm.Lambda Jvm.LamKit
abbrev own_RS : String := "com/example/gridtally/gridtally/core/RowSource"
abbrev own_RW : String := "com/example/gridtally/gridtally/core/Row"
abbrev own_sh : Lambda.Shape := Lambda.Shape.mk own_RS "next" (MethodDescriptor.mk [] (some (.object own_RW))) [.object "java/util/Iterator"] 6 own_RS "lambda$of$0" (MethodDescriptor.mk [.object "java/util/Iterator"] (some (.object own_RW))) true (MethodDescriptor.mk [] (some (.object own_RW)))
/-- the forwarder: aload_0, getfield 15, invokestatic 21, areturn -/
def own_fc : ByteArray := ⟨#[0x2a, 0xb4, 0x00, 0x0f, 0xb8, 0x00, 0x15, 0xb0]⟩
theorem own_f0 : decode own_fc 0 = .ok (.aload_n 0, 1) := by decide +kernel
theorem own_f1 : decode own_fc 1 = .ok (.getfield 15, 3) := by decide +kernel
theorem own_f4 : decode own_fc 4 = .ok (.invokestatic 21, 3) := by decide +kernel
theorem own_f7 : decode own_fc 7 = .ok (.areturn, 1) := by decide +kernel
theorem own_cap : capOK own_sh own_RS 15 0 = true := by decide +kernel
/-- what the made class holds: the forwarder, and its entry 21, an InterfaceMethodref to the target -/
def own_okB (D : ClassFile) (f : Method) (ci nt n : Nat) : Bool :=
  decide ((f.code.map fun c => (c.code.data, c.maxLocals)) = some (own_fc.data, 1)) && decide (f.accessFlags = 1) && decide (f.sig.returnType = some (.object own_RW)) && decide (ci = 6) &&
    decide (D.constantPool.className? 6 = some own_sh.implClass) && decide (D.constantPool.nameAndType? nt = some (own_sh.implName, own_sh.implDesc.toString)) && decide (D.constantPool.string? n = some own_sh.implClass) && decide (6 ≠ D.thisClass)
def own_okD (D : ClassFile) : Bool :=
  match (layoutMethods D).bind (·[1]?), D.constantPool[21]?, D.constantPool[6]? with
  | some f, some (CpInfo.interfaceMethodref ci nt), some (CpInfo.class_ n) => own_okB D f ci nt n
  | _, _, _ => false
theorem own_ok : ((own_sh.file own_RS).map own_okD) = some true := by decide +kernel
theorem own_okN : plainName (own_RS ++ "$$Lambda") = true := by decide +kernel
theorem own_resM {e : Setting} {vm : Vm} {cf : ClassFile} {fields : Array Field} {self : ClassId} {i ci nt : Nat} {cn name desc : String} {owner : ClassId} {k : Class} {m : MethodId} (hi : cf.constantPool[i]? = some (.interfaceMethodref ci nt)) (hc : cf.constantPool.className? ci = some cn)
    (hf : vm.findClass cn = some owner) (hk : vm.classes[owner]? = some k) (hnt : cf.constantPool.nameAndType? nt = some (name, desc)) (hl : ((methodIn owner name desc k.isInterface none).ask e vm).1 = .ok m) :
    (resolvedOf e vm cf fields self)[i]? = some (some (.method m)) := by
  simp [resolvedOf, Array.getElem?_mapIdx, hi, hc, hf, hk, hnt, hl]
theorem own_madeS {st : Setting} {vm : Vm} {d c : ClassId} {dk : Class} (hd : vm.classes[d]? = some dk) (hname : dk.name = own_RS) (h : isMade st vm d own_sh c = true) :
    ∃ (k tk : Class) (file : ClassFile) (methk : Method) (ck : Code) (toy : ClassId) (t : MethodId) (nt : Nat),
      vm.classes[c]? = some k ∧ plainName k.name = true ∧ k.cf = some file ∧ file.constantPool[21]? = some (.interfaceMethodref 6 nt) ∧ file.constantPool.nameAndType? nt = some (own_sh.implName, own_sh.implDesc.toString) ∧
      vm.method? ⟨c, 1⟩ = some methk ∧ methk.code = some ck ∧ ck.code = own_fc ∧ ck.maxLocals = 1 ∧ methk.locks = false ∧ methk.accessFlags = 1 ∧ methk.sig.returnType = some (.object own_RW) ∧
      vm.findClass own_sh.implClass = some toy ∧ vm.classes[toy]? = some tk ∧ ((methodIn toy own_sh.implName own_sh.implDesc.toString tk.isInterface none).ask st vm).1 = .ok t ∧
      vm.methodReady c 21 t ∧ vm.classReady c 6 toy := by
  obtain ⟨dk', k, ok, tk, file, cf, object, iface, toy, lay, methods, target, found, hd', hk, hfile, hcf, -, -, -, -, hms, ht, htk, hg, -, hrec, -, -, -, -, hpool, hmeth, -, -, hres, -⟩ := isMade_spec h
  cases hd.symm.trans hd'
  rw [hname] at hcf
  have hok : own_okD cf = true := by
    have q := own_ok
    rw [hcf] at q
    exact Option.some.inj q
  unfold own_okD at hok
  split at hok
  · rename_i f ci nt n hf hidx hci
    simp only [own_okB, Bool.and_eq_true, decide_eq_true_eq] at hok
    obtain ⟨⟨⟨⟨⟨⟨⟨fc, ffl⟩, fr⟩, rfl⟩, hcn⟩, hnt⟩, hs⟩, hne⟩ := hok
    rw [hms] at hf
    obtain ⟨b, hb, hsame⟩ := hmeth 1 f hf
    obtain ⟨-, -, hsig, hfl, x, y, hx, hy, -, hml, hcd, -⟩ := sameMethod_spec hsame
    rw [hx] at fc
    simp only [Option.map_some, Option.some.injEq, Prod.mk.injEq] at fc
    refine ⟨k, tk, file, b, y, toy, target, nt, hk, by rw [hrec.1, hname]; exact own_okN, hfile, by rw [hpool.2.1]; exact hidx, by rw [hpool.2.1]; exact hnt, by simp [Vm.method?, hk, hb], hy, ?_, by rw [hml]; exact fc.2, ?_, by rw [hfl]; exact ffl, by rw [hsig]; exact fr, ht, htk, hg,
      ⟨k, hk, hres 21 _ (own_resM hidx hcn ht htk hnt hg)⟩, ⟨k, hk, hres 6 _ (resolvedOf_class hci hne hs ht)⟩⟩
    · rw [hcd]; exact ByteArray.ext fc.1
    · simp [Method.locks, Method.isSynchronized, hfl, ffl, hasFlag, Acc.synchronized]
  · cases hok
variable {p : Program} {l : Launch} {e : Env} {R : Room} {s : State} {m : MethodId} {args : Array Value} {below : List Frame} {meth : Method} {c : Code} {T : State} {locs : List Loc} {cells slots : Nat} {Z : State} {a0 : Array Value} {pc : Nat} {Ls : Array Slot} {rest : List Value} {h : Heap}
theorem own_madeAt {cK : ClassId} (hW : Z.WarmedH s.vm) (hmd : Jvm.LamKit.Made Z own_RS own_sh cK) : Jvm.LamKit.Made s own_RS own_sh cK := by
  obtain ⟨d, dk, hd, hn, hm, hc⟩ := hmd
  obtain ⟨dk', hd', he⟩ := hW.alike.2.2 _ _ hd
  refine ⟨d, dk', hd', by rw [he]; exact hn, isMade_warmer hW hm, ?_⟩
  have hA := hW.alike
  simp only [State.lambdaCallable, hA.findClass, hA.assignable, hA.superclasses, hA.declaredIn] at hc ⊢
  exact hc
/-- the site: a new function object that holds b -/
theorem own_site (X : Stand p l e R s m args below meth c T locs cells slots) (hx : p.tables.exec = Jvm.exec) (hZH : Z.WarmedH s.vm) {x : MethodName} {index : Nat} (hxc : x.cls = own_RS) (hnamed : s.methodNamed? x = some m)
    (w : (Jvm.Cond.lambdaSite x pc index own_sh).before a0 Z = true) (wO : (Jvm.Cond.instantiable "java/lang/Object" 0).before a0 Z = true) (eT : T.heap = h) {b : Addr} (hsz : Ls.size = c.maxLocals)
    (hd : decode c.code pc = .ok (.invokedynamic index, 5)) (hw : (rest.map fun v => v.category).sum + 1 + 3072 ≤ R.locals) (hc : cells + 1 ≤ R.cells) (hs : slots + 1 ≤ R.slots) :
    ∃ cK T' h' a, Jvm.LamKit.Made Z own_RS own_sh cK ∧ Stand p l e R s m args below meth c T' locs (cells + 1) (slots + 1) ∧ T'.heap = h' ∧ Ext h h' ∧ a = h.size ∧ h'[a]? = some { cls := cK, slots := #[.ref b], vm := .none } ∧
      ∀ t, Steps p.tables e below (T'.setTop (mkF m (pc + 5) Ls (.ref a :: rest))) t → Steps p.tables e below (T.setTop (mkF m pc Ls (.ref b :: rest))) t := by
  obtain ⟨cK, one, hat⟩ := Cond.lambdaSite_spec w
  obtain ⟨mD, kD, cfD, i0, p0, lk, hmD, hkD, hcfD, hsh, -, hfind, hmade, hcan, hl⟩ := State.lambdaAt?_spec hat
  have hm' : s.methodNamed? x = some mD := by
    have q := State.methodNamed?_setVm (s := Z) hZH.alike x
    rw [hmD] at q
    exact q
  cases hnamed.symm.trans hm'
  obtain ⟨kD', hkD', hnameD⟩ := className_of_methodNamed hmD
  cases hkD.symm.trans hkD'
  obtain ⟨kS, hkS, he⟩ := hZH.alike.2.2 _ _ hkD
  rcases hl with ⟨a, cell, -, -, hc0, -⟩ | ⟨rfl, -, -⟩
  · cases hc0
  · obtain ⟨bb, nt, desc, site, h1, h2, h3, h4⟩ := shapeOf?_site hsh
    have hmd : Jvm.LamKit.Made Z own_RS own_sh cK := ⟨_, kD, hkD, hnameD.trans hxc, hmade, hcan⟩
    obtain ⟨d, dk, hd1, hd2, hd3, -⟩ := own_madeAt hZH hmd
    obtain ⟨kc, f, hkc, hkind, hty, -⟩ := made_cap own_cap hd1 hd2 hd3 (noFields wO hZH)
    have hz : ((kc.instanceTypes.toList.zip [Value.ref b]).map fun (t, v) => narrow t v) = [Value.ref b] := by rw [hty]; rfl
    have hwd : e.platform.lambdaLinkWords = 3072 := by rw [X.admits.platform]
    have q := X.lambdaMakes hx (g := mkF m pc Ls (.ref b :: rest)) rfl hsz hd (vals := [.ref b]) (rest := rest) hkS (by rw [he]; exact hfind) (by rw [he]; exact hcfD) h1 h2 (parseLong_of_parse h3) (by rw [h4]; rfl) rfl hkc (by
        rw [hwd]; show 2 * 0 + (1 + (rest.map fun v => v.category).sum) + 3072 ≤ R.locals; omega) hc (by rw [hz]; exact hs)
      (fun i v hv => by
        rw [hz] at hv
        match i, hv with
        | 0, hv => cases hv; simp [State.fitsSlot, State.slotType?, hkc, hkind, hty, fits]
        | i + 1, hv => cases hv)
    rw [hz] at q
    subst eT
    refine ⟨cK, _, _, _, hmd, q.1, rfl, ⟨by show T.heap.size ≤ (T.heap.push _).size; simp, fun a cc ha => ?_⟩, rfl, by show (T.heap.push _)[T.heap.size]? = _; simp, q.2⟩
    show (T.heap.push _)[a]? = _
    rw [Array.getElem?_push_lt (Array.getElem?_eq_some_iff.mp ha).1]; exact (Array.getElem?_eq_getElem _).symm.trans ha
theorem own_retRef (Y : Stand p l e R s m args below meth c T locs cells slots) (hx : p.tables.exec = Jvm.exec) {t : FieldType} {w : Value} {fs : List Frame} (hret : meth.sig.returnType = some t) (ht : t.isReference = true) (hw : w.isRef = true) (hd : decode c.code pc = .ok (.areturn, 1))
    (hleave : ∀ (f : JFrame) (acts : List Action), f.method = m → f.locked = none → f.entered = [] → (doReturn e (T.setTop f) acts (some w)).1 = T.setFrames fs) :
    Steps p.tables e below (T.setTop { method := m, pc := pc, locals := Ls, stack := [w], locked := none }) (T.setFrames fs) := Y.areturnOut hx hw hret ht hd hleave
/-- next() on the function object: the forwarder, the target by its contract, and back -/
theorem own_lam (X : Stand p l e R s m args below meth c T locs cells slots) (hx : p.tables.exec = Jvm.exec) (hZH : Z.WarmedH s.vm) {own : String} {index count : Nat} {xi y : MethodName} {bytes : ByteArray} {mx : Nat} {rt : Option FieldType} {rm : Room} {Q : Option Value → Heap → List Loc → Prop}
    (hown : s.vm.findClass own = some m.cls) (w1 : (Jvm.Cond.methodLink own index xi).before a0 Z = true) (w2 : (Jvm.Cond.declares xi).before a0 Z = true) (hw3 : (Jvm.Cond.interfaceMethod xi.cls xi.cls xi.name xi.desc).before args s = true)
    (w4 : (Jvm.Cond.code y bytes mx rt).before a0 Z = true) (w5 : (Jvm.Cond.static y).before a0 Z = true) (w6 : (Jvm.Cond.initialized y.cls).before a0 Z = true) (wO : (Jvm.Cond.instantiable "java/lang/Object" 0).before a0 Z = true)
    (hxi : xi.cls = own_sh.iface ∧ xi.name = own_sh.name ∧ xi.desc = own_sh.sam.toString) (hy : y.cls = own_sh.implClass ∧ y.name = own_sh.implName ∧ y.desc = own_sh.implDesc.toString)
    {a b : Addr} {cK : ClassId} (hmd : Jvm.LamKit.Made Z own_RS own_sh cK) (hfn : h[a]? = some { cls := cK, slots := #[.ref b], vm := .none }) (eT : T.heap = h)
    (hM : own_Met l Z y bytes mx rt [] rm #[.ref b] h Q) (hv : ∀ v h' L, Q v h' L → ∃ w, v = some w ∧ w.isRef = true)
    (W : Nat) (hf : rm.frames + 2 ≤ R.frames) (hl : W + 12 + ((mx + 11) + rm.locals) ≤ R.locals) (hcl : cells + rm.cells ≤ R.cells) (hsl : slots + rm.slots ≤ R.slots) (hsz : Ls.size = c.maxLocals) (hW : (rest.map fun v => v.category).sum ≤ W)
    (hd : decode c.code pc = .ok (.invokeinterface index count, 5)) :
    ∃ v T' L, Stand p l e R s m args below meth c T' (locs ++ L) (cells + rm.cells) (slots + rm.slots) ∧ Q v T'.heap L ∧ ∀ t, Steps p.tables e below (T'.setTop (mkF m (pc + 5) Ls (v.toList ++ rest))) t → Steps p.tables e below (T.setTop (mkF m pc Ls (.ref a :: rest))) t := by
  have hZ := hZH.wide
  have hms := own_madeAt hZH hmd
  obtain ⟨x1, x2, x3⟩ := hxi
  obtain ⟨y1, y2, y3⟩ := hy
  have hpx : xi.cls ≠ "java/lang/invoke/MethodHandle" ∧ xi.cls ≠ "java/lang/invoke/VarHandle" := by rw [x1]; decide
  have hpy : y.cls ≠ "java/lang/invoke/MethodHandle" ∧ y.cls ≠ "java/lang/invoke/VarHandle" := by rw [y1]; decide
  subst eT
  -- the caller's step
  have hw2 : (Jvm.Cond.declares xi).before args s = true := mvT hZ w2
  obtain ⟨d, dk, hd1, hdn, hmade, hcan⟩ := hms
  obtain ⟨kK, -, -, methk, -, -, -, -, hkK, -, -, -, -, hmk, -, -, -, -, hfl, -⟩ := own_madeS hd1 hdn hmade
  obtain ⟨r0, r, hn, hrm, hstR, hsigR⟩ := Cond.declares_spec hw2
  obtain ⟨cL, kL, r1, hcL, hkL, hiL, hfoundL, hn1⟩ := Cond.interfaceMethod_spec hw3
  cases hn.symm.trans hn1
  have hr0cls : r0.cls = cL := Option.some.inj ((findClass_of_methodNamed hn).symm.trans hcL)
  obtain ⟨hnameR, hdescR⟩ := name_of_methodNamed hn hrm
  obtain ⟨-, -, -, -, -, -, -, iface', -, -, -, -, found, -, -, -, -, -, hi', -, -, -, -, -, -, hfound', -, -, -, -, -, -, -, -, -, -, hsel⟩ := isMade_spec hmade
  rw [← x1] at hi'
  cases hcL.symm.trans hi'
  have hfr0 : found = r0 := by
    have h1 : s.methodFound? xi.cls xi.name xi.desc = some r0 := hfoundL
    simp only [State.methodFound?, hcL, hkL, hiL, Option.bind_eq_bind, Option.bind_some] at h1
    rw [← x2, ← x3] at hfound'
    rw [hfound'] at h1
    exact Option.some.inj h1
  subst hfr0
  obtain ⟨i2, hi2, hasg, hway⟩ := State.lambdaCallable_spec hcan
  rw [← x1] at hi2
  cases hcL.symm.trans hi2
  obtain ⟨vm₁, X₁, hstep₁⟩ := X.invokeinterface hx hown (mvT hZ w1) hn hrm hstR (by rw [hr0cls]; exact hkL) hiL hpx (a := a) (cell := { cls := cK, slots := #[.ref b], vm := .none }) (kcell := kK) hfn (fun z q => by cases q) hkK (by rw [hr0cls]; exact hasg)
    (m' := ⟨cK, 1⟩) (meth' := methk) (by rw [Launch.admits_selectMethod X.admits]; exact hsel) hmk (by rw [hnameR, hdescR, x2, x3]; exact hway) (by rw [hfl]; decide) (by simp [Method.isAbstract, hfl, hasFlag, Acc.abstract]) (g := mkF m pc Ls (.ref a :: rest)) rfl (argsL := []) (by rw [← lenOf (by rw [x3]; exact (by decide +kernel : parseMethodDescriptor own_sh.sam.toString = some ⟨[], some (.object own_RW)⟩)) (L := []) rfl _ hsigR]) rfl hd
  generalize hT1 : T.setVm vm₁ = T1 at X₁ hstep₁
  have hh1 : T1.heap = T.heap := by rw [← hT1]; rfl
  -- the target
  obtain ⟨mT, hmT⟩ := Cond.code_named w4
  obtain ⟨methT, cT, hmethT, hcT, -, hlocT, -, -, -, hsigT⟩ := Cond.code_spec hmT w4
  have hstaticT : methT.isStatic = true := Cond.static_spec hmT hmethT w5
  obtain ⟨kT, hkT, hnameT⟩ := className_of_methodNamed hmT
  have hfT : Z.vm.findClass y.cls = some mT.cls := findClass_of_methodNamed hmT
  have hinitK : kT.init = .initialized := Cond.initialized_spec hfT hkT w6
  have hW₁ : Z.WarmedH T1.vm := State.WarmedH.trans hZH X₁.warmed
  obtain ⟨dZ, dkZ, hdZ, hdnZ, hmadeZ, hcanZ⟩ := hmd
  obtain ⟨kD₁, hkD₁, heD₁⟩ := hW₁.alike.2.2 _ _ hdZ
  obtain ⟨kK₁, tk₁, file₁, methk₁, ck₁, toy₁, t₁, nt, hkK₁, hpn₁, hfile₁, hidx₁, hnt₁, hmk₁, hck₁, hbytes₁, hml₁, hlk₁, -, hretk₁, htoy₁, htk₁, hlook₁, hready₁, hclsR₁⟩ := own_madeS hkD₁ (by rw [heD₁]; exact hdnZ) (isMade_warmer hW₁ hmadeZ)
  have hfT₁ : T1.vm.findClass own_sh.implClass = some mT.cls := by rw [hW₁.alike.findClass, ← y1]; exact hfT
  cases htoy₁.symm.trans hfT₁
  have ht₁ : t₁ = mT := by
    have h1 : (Z.setVm T1.vm).methodFound? y.cls y.name y.desc = some mT := by rw [State.methodFound?_setVm hW₁.alike]; exact State.methodFound?_of_named hmT hpy
    rw [y1, y2, y3] at h1
    simp only [State.methodFound?, State.vm_setVm, hfT₁, htk₁, Option.bind_eq_bind, Option.bind_some] at h1
    rw [hlook₁] at h1
    exact Option.some.inj h1
  subst ht₁
  have hmethT₁ : T1.vm.method? t₁ = some methT := by rw [hW₁.alike.method?]; exact hmethT
  obtain ⟨kT₁, hkT₁, heT₁⟩ := hW₁.alike.2.2 _ _ hkT
  cases htk₁.symm.trans hkT₁
  have hsp : ∀ z : Method, signaturePolymorphic tk₁ z = false := fun z => by
    have hn' : tk₁.name = y.cls := by rw [heT₁]; exact hnameT
    simp [signaturePolymorphic, hn', hpy.1, hpy.2]
  obtain ⟨bq, hmem⟩ := memberRef_ask' (e := e) (vm := T1.vm) (d := cK) (index := 21) hkK₁ hfile₁ (Or.inr hidx₁) hnt₁
  have hpk : T1.plainMethod ⟨cK, 1⟩ := State.plainMethod.of_name (fun k' hk' => by cases hkK₁.symm.trans hk'; exact hpn₁)
  -- into the forwarder
  obtain ⟨Y₀, hin⟩ := X₁.into (g := mkF m pc Ls rest) rfl hsz hd #[.ref a] (R' := { frames := rm.frames + 1, cells := rm.cells, slots := rm.slots, locals := (mx + 11) + rm.locals }) hmk₁ hck₁ hlk₁ hpk hf (by
    rw [hml₁]; show 2 * 0 + (rest.map fun v => v.category).sum + (1 + 11) + ((mx + 11) + rm.locals) ≤ R.locals; omega) hcl hsl
  rw [hml₁, show entryFrame ⟨cK, 1⟩ #[.ref a] 1 = mkF ⟨cK, 1⟩ 0 #[.val (.ref a)] [] from rfl] at Y₀ hin
  generalize hU : (T1.setTop (mkF m pc Ls rest)).pushFrame (.java (mkF ⟨cK, 1⟩ 0 #[.val (.ref a)] [])) = U at Y₀ hin
  have hvmU : U.vm = T1.vm := by rw [← hU]; rfl
  have hheapU : U.heap = T.heap := by rw [← hh1, ← hU]; rfl
  generalize hs' : T1.calling (mkF m pc Ls rest) ⟨cK, 1⟩ #[.ref a] = s' at Y₀
  have hvm' : s'.vm = T1.vm := by rw [← hs']; rfl
  have hWs' : Z.WarmedH s'.vm := by rw [hvm']; exact hW₁
  have hnamedU : U.methodNamed? y = some t₁ := by
    have q : (Z.setVm T1.vm).methodNamed? y = some t₁ := by rw [State.methodNamed?_setVm hW₁.alike]; exact hmT
    rw [← hU]; exact q
  obtain ⟨v, ⟨U', ls, cc, sl⟩, Y₁, ⟨L, hq, hlq, hcq, hsq⟩, hsteps⟩ := backOf (R := { frames := rm.frames + 1, cells := rm.cells, slots := rm.slots, locals := (mx + 11) + rm.locals }) (W := 0) (len := 3) hM hWs'.wide w4 w6 (Nat.le_refl _) (by show 0 + (mx + 11) + rm.locals ≤ (mx + 11) + rm.locals; omega)
    ⟨cK, 1⟩ methk₁ ck₁ ⟨U, [], 0, 0⟩ (mkF ⟨cK, 1⟩ 4 #[.val (.ref a)] []) (.invokestatic 21) t₁ #[.ref b] Y₀ rfl (by rw [hml₁]; rfl) (by rw [hbytes₁]; exact own_f4) (Nat.le_refl _) hnamedU ⟨rfl, hheapU, by show 0 + rm.cells ≤ rm.cells; omega, by show 0 + rm.slots ≤ rm.slots; omega⟩
  dsimp only [Pt.U, Pt.locs, Pt.cells, Pt.slots] at Y₁ hq hlq hcq hsq hsteps
  subst hlq; subst hcq; subst hsq
  obtain ⟨w, rfl, hwr⟩ := hv _ _ _ hq
  obtain ⟨fs, hleave, -, hended, hWe, hsame⟩ := Y₁.leave (v := some w) (fun q => by rw [hretk₁] at q; cases q) hlk₁
  subst hs'
  obtain ⟨T', X', -, -, ht⟩ := X₁.outOf (g := mkF m pc Ls rest) rfl hd hended hWe hsame
  have hheap' : T'.heap = U'.heap := by
    have q : (U'.setFrames fs).heap = (T'.setTop { (mkF m pc Ls rest) with pc := pc + 5, stack := (some w).toList ++ rest }).heap := congrArg State.heap ht
    exact q.symm
  refine ⟨some w, T', _, by simpa using X', by rw [hheap']; exact hq, fun target k => hstep₁ _ fun acts => ?_⟩
  show Steps p.tables e below (doInvoke e (T1.setTop (mkF m pc Ls rest)) acts ⟨cK, 1⟩ #[.ref a]).1 target
  refine Steps.trans ?_ k
  have ht' : U'.setFrames fs = T'.setTop (mkF m (pc + 5) Ls ((some w).toList ++ rest)) := ht
  rw [hin acts, ← ht']
  refine Steps.weaken (mid := [.java (mkF m pc Ls rest)]) ?_
  refine XS.aloadN Y₀.here hx rfl (hb hbytes₁ own_f0) rfl rfl ?_
  refine getCap hx Y₀.here (by rw [hvmU]; exact hW₁) ⟨dZ, dkZ, hdZ, hdnZ, hmadeZ, hcanZ⟩ own_cap wO (a := a) (by rw [hheapU]; exact hfn) rfl (v := .ref b) rfl rfl rfl (hb hbytes₁ own_f1) ?_
  have hsU : U.topJava?.isSome := Y₀.here.top
  have hdI' : decode ck₁.code 4 = .ok (.invokestatic 21, 3) := by rw [hbytes₁]; exact own_f4
  show Steps p.tables e _ (U.setTop { method := ⟨cK, 1⟩, pc := 4, locals := #[.val (.ref a)], stack := [.ref b], locked := none }) _
  jvm_step Y₀.here [hx, hdI', invokestatic.wp_ready (e := e) (s := U) (m := t₁) (k := tk₁) (meth := methT) (args := [.ref b]) (rest := [])
    (f := { method := ⟨cK, 1⟩, pc := 4, locals := #[.val (.ref a)], stack := [.ref b], locked := none }) hsU ⟨6, _, _, bq, t₁.cls, tk₁, by rw [hvmU]; exact hmem, by rw [hvmU]; exact hclsR₁, by rw [hvmU]; exact htk₁, by simp [hsp]⟩ (by rw [hvmU]; exact hready₁) (by rw [hvmU]; exact htk₁) (by rw [hvmU]; exact hmethT₁) (hsp _) hstaticT (by rw [heT₁]; exact hinitK) (lenOf (by rw [y3]; exact (by decide +kernel : parseMethodDescriptor own_sh.implDesc.toString = some ⟨[.object "java/util/Iterator"], some (.object own_RW)⟩)) rfl _ hsigT) (by simp)]
  intro acts'
  rw [doInvoke_state]
  refine hsteps.trans ?_
  exact own_retRef Y₁ hx hretk₁ rfl hwr (by rw [hbytes₁]; exact own_f7) hleave
end OwnLam
theorem own_and3 (x : Int32) : x &&& (3 : Int32) = 0 ∨ x &&& (3 : Int32) = 1 ∨ x &&& (3 : Int32) = 2 ∨ x &&& (3 : Int32) = 3 := by
  have e : (x &&& (3 : Int32)).toBitVec.toNat = x.toBitVec.toNat % 4 := by
    show (x.toBitVec &&& 3#32).toNat = _
    rw [BitVec.toNat_and]
    exact Nat.and_two_pow_sub_one_eq_mod x.toBitVec.toNat 2
  have h : x.toBitVec.toNat % 4 < 4 := Nat.mod_lt _ (by decide)
  have k : ∀ z : Int32, (x &&& (3 : Int32)).toBitVec.toNat = z.toBitVec.toNat → x &&& (3 : Int32) = z := fun z q => Int32.toBitVec_inj.mp (BitVec.eq_of_toNat_eq q)
  rw [e] at k
  have c : x.toBitVec.toNat % 4 = 0 ∨ x.toBitVec.toNat % 4 = 1 ∨ x.toBitVec.toNat % 4 = 2 ∨ x.toBitVec.toNat % 4 = 3 := by omega
  rcases c with q | q | q | q
  · exact Or.inl (k 0 q)
  · exact Or.inr (Or.inl (k 1 q))
  · exact Or.inr (Or.inr (Or.inl (k 2 q)))
  · exact Or.inr (Or.inr (Or.inr (k 3 q)))
theorem own_xi : ((⟨"com/example/gridtally/gridtally/core/RowSource", "next", "()Lcom/example/gridtally/gridtally/core/Row;"⟩ : MethodName)).cls = own_sh.iface ∧ ((⟨"com/example/gridtally/gridtally/core/RowSource", "next", "()Lcom/example/gridtally/gridtally/core/Row;"⟩ : MethodName)).name = own_sh.name ∧ ((⟨"com/example/gridtally/gridtally/core/RowSource", "next", "()Lcom/example/gridtally/gridtally/core/Row;"⟩ : MethodName)).desc = own_sh.sam.toString := by decide +kernel
theorem own_yi : ((⟨"com/example/gridtally/gridtally/core/RowSource", "lambda$of$0", "(Ljava/util/Iterator;)Lcom/example/gridtally/gridtally/core/Row;"⟩ : MethodName)).cls = own_sh.implClass ∧ ((⟨"com/example/gridtally/gridtally/core/RowSource", "lambda$of$0", "(Ljava/util/Iterator;)Lcom/example/gridtally/gridtally/core/Row;"⟩ : MethodName)).name = own_sh.implName ∧ ((⟨"com/example/gridtally/gridtally/core/RowSource", "lambda$of$0", "(Ljava/util/Iterator;)Lcom/example/gridtally/gridtally/core/Row;"⟩ : MethodName)).desc = own_sh.implDesc.toString := by decide +kernel
theorem pn_com_example_gridtally_gridtally_core_Row : plainName "com/example/gridtally/gridtally/core/Row" = true := by first | (simp [plainName, overriddenIn]; done) | decide +kernel
theorem ef_1 (m : MethodId) (x0 : Addr) (x2 : Int64) (x3 : Addr) (x4 : Addr) : entryFrame m #[(.ref x0), .null, (.long x2), (.ref x3), (.ref x4)] 6 = mkF m 0 #[.val (.ref x0), .val .null, .val (.long x2), .second, .val (.ref x3), .val (.ref x4)] [] := by first | (simp [entryFrame, mkF, argsToLocals, Value.category]; done) | rfl
theorem d1_0 : decode prog_47_method_1_code 0 = .ok (.aload_n 0, 1) := by decide +kernel
theorem d1_1 : decode prog_47_method_1_code 1 = .ok (.invokespecial 1, 3) := by decide +kernel
theorem d1_4 : decode prog_47_method_1_code 4 = .ok (.aload_n 0, 1) := by decide +kernel
theorem d1_5 : decode prog_47_method_1_code 5 = .ok (.aload_n 1, 1) := by decide +kernel
theorem d1_6 : decode prog_47_method_1_code 6 = .ok (.putfield 7, 3) := by decide +kernel
theorem d1_9 : decode prog_47_method_1_code 9 = .ok (.aload_n 0, 1) := by decide +kernel
theorem d1_10 : decode prog_47_method_1_code 10 = .ok (.lload_n 2, 1) := by decide +kernel
theorem d1_11 : decode prog_47_method_1_code 11 = .ok (.putfield 13, 3) := by decide +kernel
theorem d1_14 : decode prog_47_method_1_code 14 = .ok (.aload_n 0, 1) := by decide +kernel
theorem d1_15 : decode prog_47_method_1_code 15 = .ok (.aload 4, 2) := by decide +kernel
theorem d1_17 : decode prog_47_method_1_code 17 = .ok (.putfield 17, 3) := by decide +kernel
theorem d1_20 : decode prog_47_method_1_code 20 = .ok (.aload_n 0, 1) := by decide +kernel
theorem d1_21 : decode prog_47_method_1_code 21 = .ok (.aload 5, 2) := by decide +kernel
theorem d1_23 : decode prog_47_method_1_code 23 = .ok (.putfield 21, 3) := by decide +kernel
theorem d1_26 : decode prog_47_method_1_code 26 = .ok (.return_, 1) := by decide +kernel
theorem pn_java_util_AbstractCollection : plainName "java/util/AbstractCollection" = true := by first | (simp [plainName, overriddenIn]; done) | decide +kernel
theorem ef_5 (m : MethodId) (x0 : Addr) : entryFrame m #[(.ref x0)] 1 = mkF m 0 #[.val (.ref x0)] [] := by first | (simp [entryFrame, mkF, argsToLocals, Value.category]; done) | rfl
theorem d5_0 : decode jdk_22_method_1_code 0 = .ok (.aload_n 0, 1) := by decide +kernel
theorem d5_1 : decode jdk_22_method_1_code 1 = .ok (.invokespecial 1, 3) := by decide +kernel
theorem d5_4 : decode jdk_22_method_1_code 4 = .ok (.return_, 1) := by decide +kernel
theorem pn_java_util_AbstractList : plainName "java/util/AbstractList" = true := by first | (simp [plainName, overriddenIn]; done) | decide +kernel
theorem ef_4 (m : MethodId) (x0 : Addr) : entryFrame m #[(.ref x0)] 1 = mkF m 0 #[.val (.ref x0)] [] := by first | (simp [entryFrame, mkF, argsToLocals, Value.category]; done) | rfl
theorem d4_0 : decode jdk_39_method_1_code 0 = .ok (.aload_n 0, 1) := by decide +kernel
theorem d4_1 : decode jdk_39_method_1_code 1 = .ok (.invokespecial 1, 3) := by decide +kernel
theorem pd_4 : parseMethodDescriptor "()V" = some ⟨[], none⟩ := by decide +kernel
theorem d4_4 : decode jdk_39_method_1_code 4 = .ok (.aload_n 0, 1) := by decide +kernel
theorem d4_5 : decode jdk_39_method_1_code 5 = .ok (.iconst 0, 1) := by decide +kernel
theorem d4_6 : decode jdk_39_method_1_code 6 = .ok (.putfield 7, 3) := by decide +kernel
theorem d4_9 : decode jdk_39_method_1_code 9 = .ok (.return_, 1) := by decide +kernel
theorem pn_java_util_ArrayList : plainName "java/util/ArrayList" = true := by first | (simp [plainName, overriddenIn]; done) | decide +kernel
theorem ef_3 (m : MethodId) (x0 : Addr) : entryFrame m #[(.ref x0)] 1 = mkF m 0 #[.val (.ref x0)] [] := by first | (simp [entryFrame, mkF, argsToLocals, Value.category]; done) | rfl
theorem d3_0 : decode jdk_38_method_2_code 0 = .ok (.aload_n 0, 1) := by decide +kernel
theorem d3_1 : decode jdk_38_method_2_code 1 = .ok (.invokespecial 1, 3) := by decide +kernel
theorem d3_4 : decode jdk_38_method_2_code 4 = .ok (.aload_n 0, 1) := by decide +kernel
theorem d3_5 : decode jdk_38_method_2_code 5 = .ok (.getstatic 39, 3) := by decide +kernel
theorem d3_8 : decode jdk_38_method_2_code 8 = .ok (.putfield 9, 3) := by decide +kernel
theorem d3_11 : decode jdk_38_method_2_code 11 = .ok (.return_, 1) := by decide +kernel
theorem ef_16 (m : MethodId) (x0 : Int32) (x1 : Int32) : entryFrame m #[(.int x0), (.int x1)] 2 = mkF m 0 #[.val (.int x0), .val (.int x1)] [] := by first | (simp [entryFrame, mkF, argsToLocals, Value.category]; done) | rfl
theorem d16_0 : decode jdk_29_method_65_code 0 = .ok (.iload_n 0, 1) := by decide +kernel
theorem d16_1 : decode jdk_29_method_65_code 1 = .ok (.iload_n 1, 1) := by decide +kernel
theorem d16_2 : decode jdk_29_method_65_code 2 = .ok (.if_icmp .lt 7, 3) := by decide +kernel
theorem d16_5 : decode jdk_29_method_65_code 5 = .ok (.iload_n 0, 1) := by decide +kernel
theorem d16_6 : decode jdk_29_method_65_code 6 = .ok (.goto 4, 3) := by decide +kernel
theorem d16_10 : decode jdk_29_method_65_code 10 = .ok (.ireturn, 1) := by decide +kernel
theorem ef_15 (m : MethodId) (x0 : Addr) (x1 : Int32) : entryFrame m #[(.ref x0), (.int x1)] 4 = mkF m 0 #[.val (.ref x0), .val (.int x1), .unset, .unset] [] := by first | (simp [entryFrame, mkF, argsToLocals, Value.category]; done) | rfl
theorem d15_0 : decode jdk_38_method_6_code 0 = .ok (.aload_n 0, 1) := by decide +kernel
theorem d15_1 : decode jdk_38_method_6_code 1 = .ok (.getfield 9, 3) := by decide +kernel
theorem d15_4 : decode jdk_38_method_6_code 4 = .ok (.arraylength, 1) := by decide +kernel
theorem d15_5 : decode jdk_38_method_6_code 5 = .ok (.istore_n 2, 1) := by decide +kernel
theorem d15_6 : decode jdk_38_method_6_code 6 = .ok (.iload_n 2, 1) := by decide +kernel
theorem d15_7 : decode jdk_38_method_6_code 7 = .ok (.ifCond .gt 13, 3) := by decide +kernel
theorem d15_10 : decode jdk_38_method_6_code 10 = .ok (.aload_n 0, 1) := by decide +kernel
theorem d15_11 : decode jdk_38_method_6_code 11 = .ok (.getfield 9, 3) := by decide +kernel
theorem d15_14 : decode jdk_38_method_6_code 14 = .ok (.getstatic 39, 3) := by decide +kernel
theorem d15_17 : decode jdk_38_method_6_code 17 = .ok (.if_acmp .eq 28, 3) := by decide +kernel
theorem d15_45 : decode jdk_38_method_6_code 45 = .ok (.aload_n 0, 1) := by decide +kernel
theorem d15_46 : decode jdk_38_method_6_code 46 = .ok (.bipush 10, 2) := by decide +kernel
theorem d15_48 : decode jdk_38_method_6_code 48 = .ok (.iload_n 1, 1) := by decide +kernel
theorem d15_49 : decode jdk_38_method_6_code 49 = .ok (.invokestatic 79, 3) := by decide +kernel
theorem pd_8 : parseMethodDescriptor "(II)I" = some ⟨[.int, .int], some .int⟩ := by decide +kernel
theorem d15_52 : decode jdk_38_method_6_code 52 = .ok (.anewarray 7, 3) := by decide +kernel
theorem d15_55 : decode jdk_38_method_6_code 55 = .ok (.dup_x1, 1) := by decide +kernel
theorem d15_56 : decode jdk_38_method_6_code 56 = .ok (.putfield 9, 3) := by decide +kernel
theorem d15_59 : decode jdk_38_method_6_code 59 = .ok (.areturn, 1) := by decide +kernel
theorem ef_14 (m : MethodId) (x0 : Addr) : entryFrame m #[(.ref x0)] 1 = mkF m 0 #[.val (.ref x0)] [] := by first | (simp [entryFrame, mkF, argsToLocals, Value.category]; done) | rfl
theorem d14_0 : decode jdk_38_method_7_code 0 = .ok (.aload_n 0, 1) := by decide +kernel
theorem d14_1 : decode jdk_38_method_7_code 1 = .ok (.aload_n 0, 1) := by decide +kernel
theorem d14_2 : decode jdk_38_method_7_code 2 = .ok (.getfield 48, 3) := by decide +kernel
theorem d14_5 : decode jdk_38_method_7_code 5 = .ok (.iconst 1, 1) := by decide +kernel
theorem d14_6 : decode jdk_38_method_7_code 6 = .ok (.iadd, 1) := by decide +kernel
theorem d14_7 : decode jdk_38_method_7_code 7 = .ok (.invokevirtual 69, 3) := by decide +kernel
theorem pd_7 : parseMethodDescriptor "(I)[Ljava/lang/Object;" = some ⟨[.int], some (.array (.object "java/lang/Object"))⟩ := by decide +kernel
theorem d14_10 : decode jdk_38_method_7_code 10 = .ok (.areturn, 1) := by decide +kernel
theorem ef_13 (m : MethodId) (x0 : Addr) (x1 : Addr) (x2 : Addr) (x3 : Int32) : entryFrame m #[(.ref x0), (.ref x1), (.ref x2), (.int x3)] 4 = mkF m 0 #[.val (.ref x0), .val (.ref x1), .val (.ref x2), .val (.int x3)] [] := by first | (simp [entryFrame, mkF, argsToLocals, Value.category]; done) | rfl
theorem d13_0 : decode jdk_38_method_24_code 0 = .ok (.iload_n 3, 1) := by decide +kernel
theorem d13_1 : decode jdk_38_method_24_code 1 = .ok (.aload_n 2, 1) := by decide +kernel
theorem d13_2 : decode jdk_38_method_24_code 2 = .ok (.arraylength, 1) := by decide +kernel
theorem d13_3 : decode jdk_38_method_24_code 3 = .ok (.if_icmp .ne 8, 3) := by decide +kernel
theorem d13_6 : decode jdk_38_method_24_code 6 = .ok (.aload_n 0, 1) := by decide +kernel
theorem d13_7 : decode jdk_38_method_24_code 7 = .ok (.invokevirtual 129, 3) := by decide +kernel
theorem pd_6 : parseMethodDescriptor "()[Ljava/lang/Object;" = some ⟨[], some (.array (.object "java/lang/Object"))⟩ := by decide +kernel
theorem d13_10 : decode jdk_38_method_24_code 10 = .ok (.astore_n 2, 1) := by decide +kernel
theorem d13_11 : decode jdk_38_method_24_code 11 = .ok (.aload_n 2, 1) := by decide +kernel
theorem d13_12 : decode jdk_38_method_24_code 12 = .ok (.iload_n 3, 1) := by decide +kernel
theorem d13_13 : decode jdk_38_method_24_code 13 = .ok (.aload_n 1, 1) := by decide +kernel
theorem d13_14 : decode jdk_38_method_24_code 14 = .ok (.aastore, 1) := by decide +kernel
theorem d13_15 : decode jdk_38_method_24_code 15 = .ok (.aload_n 0, 1) := by decide +kernel
theorem d13_16 : decode jdk_38_method_24_code 16 = .ok (.iload_n 3, 1) := by decide +kernel
theorem d13_17 : decode jdk_38_method_24_code 17 = .ok (.iconst 1, 1) := by decide +kernel
theorem d13_18 : decode jdk_38_method_24_code 18 = .ok (.iadd, 1) := by decide +kernel
theorem d13_19 : decode jdk_38_method_24_code 19 = .ok (.putfield 48, 3) := by decide +kernel
theorem d13_22 : decode jdk_38_method_24_code 22 = .ok (.return_, 1) := by decide +kernel
theorem ef_12 (m : MethodId) (x0 : Addr) (x1 : Addr) : entryFrame m #[(.ref x0), (.ref x1)] 2 = mkF m 0 #[.val (.ref x0), .val (.ref x1)] [] := by first | (simp [entryFrame, mkF, argsToLocals, Value.category]; done) | rfl
theorem d12_0 : decode jdk_38_method_25_code 0 = .ok (.aload_n 0, 1) := by decide +kernel
theorem d12_1 : decode jdk_38_method_25_code 1 = .ok (.dup, 1) := by decide +kernel
theorem d12_2 : decode jdk_38_method_25_code 2 = .ok (.getfield 63, 3) := by decide +kernel
theorem d12_5 : decode jdk_38_method_25_code 5 = .ok (.iconst 1, 1) := by decide +kernel
theorem d12_6 : decode jdk_38_method_25_code 6 = .ok (.iadd, 1) := by decide +kernel
theorem d12_7 : decode jdk_38_method_25_code 7 = .ok (.putfield 63, 3) := by decide +kernel
theorem d12_10 : decode jdk_38_method_25_code 10 = .ok (.aload_n 0, 1) := by decide +kernel
theorem d12_11 : decode jdk_38_method_25_code 11 = .ok (.aload_n 1, 1) := by decide +kernel
theorem d12_12 : decode jdk_38_method_25_code 12 = .ok (.aload_n 0, 1) := by decide +kernel
theorem d12_13 : decode jdk_38_method_25_code 13 = .ok (.getfield 9, 3) := by decide +kernel
theorem d12_16 : decode jdk_38_method_25_code 16 = .ok (.aload_n 0, 1) := by decide +kernel
theorem d12_17 : decode jdk_38_method_25_code 17 = .ok (.getfield 48, 3) := by decide +kernel
theorem d12_20 : decode jdk_38_method_25_code 20 = .ok (.invokevirtual 131, 3) := by decide +kernel
theorem pd_12 : parseMethodDescriptor "(Ljava/lang/Object;[Ljava/lang/Object;I)V" = some ⟨[(.object "java/lang/Object"), (.array (.object "java/lang/Object")), .int], none⟩ := by decide +kernel
theorem d12_23 : decode jdk_38_method_25_code 23 = .ok (.iconst 1, 1) := by decide +kernel
theorem d12_24 : decode jdk_38_method_25_code 24 = .ok (.ireturn, 1) := by decide +kernel
theorem pn_java_util_ArrayList_Itr : plainName "java/util/ArrayList$Itr" = true := by first | (simp [plainName, overriddenIn]; done) | decide +kernel
theorem ef_8 (m : MethodId) (x0 : Addr) (x1 : Addr) : entryFrame m #[(.ref x0), (.ref x1)] 2 = mkF m 0 #[.val (.ref x0), .val (.ref x1)] [] := by first | (simp [entryFrame, mkF, argsToLocals, Value.category]; done) | rfl
theorem d8_0 : decode jdk_49_method_1_code 0 = .ok (.aload_n 0, 1) := by decide +kernel
theorem d8_1 : decode jdk_49_method_1_code 1 = .ok (.aload_n 1, 1) := by decide +kernel
theorem d8_2 : decode jdk_49_method_1_code 2 = .ok (.putfield 1, 3) := by decide +kernel
theorem d8_5 : decode jdk_49_method_1_code 5 = .ok (.aload_n 0, 1) := by decide +kernel
theorem d8_6 : decode jdk_49_method_1_code 6 = .ok (.invokespecial 7, 3) := by decide +kernel
theorem d8_9 : decode jdk_49_method_1_code 9 = .ok (.aload_n 0, 1) := by decide +kernel
theorem d8_10 : decode jdk_49_method_1_code 10 = .ok (.iconst (-1), 1) := by decide +kernel
theorem d8_11 : decode jdk_49_method_1_code 11 = .ok (.putfield 13, 3) := by decide +kernel
theorem d8_14 : decode jdk_49_method_1_code 14 = .ok (.aload_n 0, 1) := by decide +kernel
theorem d8_15 : decode jdk_49_method_1_code 15 = .ok (.aload_n 0, 1) := by decide +kernel
theorem d8_16 : decode jdk_49_method_1_code 16 = .ok (.getfield 1, 3) := by decide +kernel
theorem d8_19 : decode jdk_49_method_1_code 19 = .ok (.getfield 17, 3) := by decide +kernel
theorem d8_22 : decode jdk_49_method_1_code 22 = .ok (.putfield 22, 3) := by decide +kernel
theorem d8_25 : decode jdk_49_method_1_code 25 = .ok (.return_, 1) := by decide +kernel
theorem ef_7 (m : MethodId) (x0 : Addr) : entryFrame m #[(.ref x0)] 1 = mkF m 0 #[.val (.ref x0)] [] := by first | (simp [entryFrame, mkF, argsToLocals, Value.category]; done) | rfl
theorem d7_0 : decode jdk_38_method_55_code 0 = .ok (.new 267, 3) := by decide +kernel
theorem d7_3 : decode jdk_38_method_55_code 3 = .ok (.dup, 1) := by decide +kernel
theorem d7_4 : decode jdk_38_method_55_code 4 = .ok (.aload_n 0, 1) := by decide +kernel
theorem d7_5 : decode jdk_38_method_55_code 5 = .ok (.invokespecial 269, 3) := by decide +kernel
theorem pd_13 : parseMethodDescriptor "(Ljava/util/ArrayList;)V" = some ⟨[(.object "java/util/ArrayList")], none⟩ := by decide +kernel
theorem d7_8 : decode jdk_38_method_55_code 8 = .ok (.areturn, 1) := by decide +kernel
theorem pn_com_example_gridtally_gridtally_core_RowSource : plainName "com/example/gridtally/gridtally/core/RowSource" = true := by first | (simp [plainName, overriddenIn]; done) | decide +kernel
theorem ef_6 (m : MethodId) (x0 : Addr) : entryFrame m #[(.ref x0)] 2 = mkF m 0 #[.val (.ref x0), .unset] [] := by first | (simp [entryFrame, mkF, argsToLocals, Value.category]; done) | rfl
theorem d6_0 : decode prog_48_method_2_code 0 = .ok (.aload_n 0, 1) := by decide +kernel
theorem d6_1 : decode prog_48_method_2_code 1 = .ok (.invokeinterface 1 1, 5) := by decide +kernel
theorem pd_3 : parseMethodDescriptor "()Ljava/util/Iterator;" = some ⟨[], some (.object "java/util/Iterator")⟩ := by decide +kernel
theorem d6_6 : decode prog_48_method_2_code 6 = .ok (.astore_n 1, 1) := by decide +kernel
theorem d6_7 : decode prog_48_method_2_code 7 = .ok (.aload_n 1, 1) := by decide +kernel
theorem d6_8 : decode prog_48_method_2_code 8 = .ok (.invokedynamic 7, 5) := by decide +kernel
theorem d6_13 : decode prog_48_method_2_code 13 = .ok (.areturn, 1) := by decide +kernel
theorem ef_10 (m : MethodId) (x0 : Addr) : entryFrame m #[(.ref x0)] 1 = mkF m 0 #[.val (.ref x0)] [] := by first | (simp [entryFrame, mkF, argsToLocals, Value.category]; done) | rfl
theorem d10_0 : decode jdk_49_method_2_code 0 = .ok (.aload_n 0, 1) := by decide +kernel
theorem d10_1 : decode jdk_49_method_2_code 1 = .ok (.getfield 25, 3) := by decide +kernel
theorem d10_4 : decode jdk_49_method_2_code 4 = .ok (.aload_n 0, 1) := by decide +kernel
theorem d10_5 : decode jdk_49_method_2_code 5 = .ok (.getfield 1, 3) := by decide +kernel
theorem d10_8 : decode jdk_49_method_2_code 8 = .ok (.getfield 28, 3) := by decide +kernel
theorem d10_11 : decode jdk_49_method_2_code 11 = .ok (.if_icmp .eq 7, 3) := by decide +kernel
theorem d10_18 : decode jdk_49_method_2_code 18 = .ok (.iconst 0, 1) := by decide +kernel
theorem d10_19 : decode jdk_49_method_2_code 19 = .ok (.ireturn, 1) := by decide +kernel
theorem d10_14 : decode jdk_49_method_2_code 14 = .ok (.iconst 1, 1) := by decide +kernel
theorem d10_15 : decode jdk_49_method_2_code 15 = .ok (.goto 4, 3) := by decide +kernel
theorem ef_18 (m : MethodId) (x0 : Addr) : entryFrame m #[(.ref x0)] 1 = mkF m 0 #[.val (.ref x0)] [] := by first | (simp [entryFrame, mkF, argsToLocals, Value.category]; done) | rfl
theorem d18_0 : decode jdk_49_method_6_code 0 = .ok (.aload_n 0, 1) := by decide +kernel
theorem d18_1 : decode jdk_49_method_6_code 1 = .ok (.getfield 1, 3) := by decide +kernel
theorem d18_4 : decode jdk_49_method_6_code 4 = .ok (.getfield 17, 3) := by decide +kernel
theorem d18_7 : decode jdk_49_method_6_code 7 = .ok (.aload_n 0, 1) := by decide +kernel
theorem d18_8 : decode jdk_49_method_6_code 8 = .ok (.getfield 22, 3) := by decide +kernel
theorem d18_11 : decode jdk_49_method_6_code 11 = .ok (.if_icmp .eq 11, 3) := by decide +kernel
theorem d18_22 : decode jdk_49_method_6_code 22 = .ok (.return_, 1) := by decide +kernel
theorem ef_17 (m : MethodId) (x0 : Addr) : entryFrame m #[(.ref x0)] 3 = mkF m 0 #[.val (.ref x0), .unset, .unset] [] := by first | (simp [entryFrame, mkF, argsToLocals, Value.category]; done) | rfl
theorem d17_0 : decode jdk_49_method_3_code 0 = .ok (.aload_n 0, 1) := by decide +kernel
theorem d17_1 : decode jdk_49_method_3_code 1 = .ok (.invokevirtual 31, 3) := by decide +kernel
theorem d17_4 : decode jdk_49_method_3_code 4 = .ok (.aload_n 0, 1) := by decide +kernel
theorem d17_5 : decode jdk_49_method_3_code 5 = .ok (.getfield 25, 3) := by decide +kernel
theorem d17_8 : decode jdk_49_method_3_code 8 = .ok (.istore_n 1, 1) := by decide +kernel
theorem d17_9 : decode jdk_49_method_3_code 9 = .ok (.iload_n 1, 1) := by decide +kernel
theorem d17_10 : decode jdk_49_method_3_code 10 = .ok (.aload_n 0, 1) := by decide +kernel
theorem d17_11 : decode jdk_49_method_3_code 11 = .ok (.getfield 1, 3) := by decide +kernel
theorem d17_14 : decode jdk_49_method_3_code 14 = .ok (.getfield 28, 3) := by decide +kernel
theorem d17_17 : decode jdk_49_method_3_code 17 = .ok (.if_icmp .lt 11, 3) := by decide +kernel
theorem d17_28 : decode jdk_49_method_3_code 28 = .ok (.aload_n 0, 1) := by decide +kernel
theorem d17_29 : decode jdk_49_method_3_code 29 = .ok (.getfield 1, 3) := by decide +kernel
theorem d17_32 : decode jdk_49_method_3_code 32 = .ok (.getfield 37, 3) := by decide +kernel
theorem d17_35 : decode jdk_49_method_3_code 35 = .ok (.astore_n 2, 1) := by decide +kernel
theorem d17_36 : decode jdk_49_method_3_code 36 = .ok (.iload_n 1, 1) := by decide +kernel
theorem d17_37 : decode jdk_49_method_3_code 37 = .ok (.aload_n 2, 1) := by decide +kernel
theorem d17_38 : decode jdk_49_method_3_code 38 = .ok (.arraylength, 1) := by decide +kernel
theorem d17_39 : decode jdk_49_method_3_code 39 = .ok (.if_icmp .lt 11, 3) := by decide +kernel
theorem d17_50 : decode jdk_49_method_3_code 50 = .ok (.aload_n 0, 1) := by decide +kernel
theorem d17_51 : decode jdk_49_method_3_code 51 = .ok (.iload_n 1, 1) := by decide +kernel
theorem d17_52 : decode jdk_49_method_3_code 52 = .ok (.iconst 1, 1) := by decide +kernel
theorem d17_53 : decode jdk_49_method_3_code 53 = .ok (.iadd, 1) := by decide +kernel
theorem d17_54 : decode jdk_49_method_3_code 54 = .ok (.putfield 25, 3) := by decide +kernel
theorem d17_57 : decode jdk_49_method_3_code 57 = .ok (.aload_n 2, 1) := by decide +kernel
theorem d17_58 : decode jdk_49_method_3_code 58 = .ok (.aload_n 0, 1) := by decide +kernel
theorem d17_59 : decode jdk_49_method_3_code 59 = .ok (.iload_n 1, 1) := by decide +kernel
theorem d17_60 : decode jdk_49_method_3_code 60 = .ok (.dup_x1, 1) := by decide +kernel
theorem d17_61 : decode jdk_49_method_3_code 61 = .ok (.putfield 13, 3) := by decide +kernel
theorem d17_64 : decode jdk_49_method_3_code 64 = .ok (.aaload, 1) := by decide +kernel
theorem d17_65 : decode jdk_49_method_3_code 65 = .ok (.areturn, 1) := by decide +kernel
theorem ef_9 (m : MethodId) (x0 : Addr) : entryFrame m #[(.ref x0)] 1 = mkF m 0 #[.val (.ref x0)] [] := by first | (simp [entryFrame, mkF, argsToLocals, Value.category]; done) | rfl
theorem d9_0 : decode prog_48_method_3_code 0 = .ok (.aload_n 0, 1) := by decide +kernel
theorem d9_1 : decode prog_48_method_3_code 1 = .ok (.invokeinterface 11 1, 5) := by decide +kernel
theorem pd_5 : parseMethodDescriptor "()Z" = some ⟨[], some .boolean⟩ := by decide +kernel
theorem d9_6 : decode prog_48_method_3_code 6 = .ok (.ifCond .eq 15, 3) := by decide +kernel
theorem d9_9 : decode prog_48_method_3_code 9 = .ok (.aload_n 0, 1) := by decide +kernel
theorem d9_10 : decode prog_48_method_3_code 10 = .ok (.invokeinterface 17 1, 5) := by decide +kernel
theorem pd_2 : parseMethodDescriptor "()Ljava/lang/Object;" = some ⟨[], some (.object "java/lang/Object")⟩ := by decide +kernel
theorem d9_15 : decode prog_48_method_3_code 15 = .ok (.checkcast 20, 3) := by decide +kernel
theorem d9_18 : decode prog_48_method_3_code 18 = .ok (.goto 4, 3) := by decide +kernel
theorem d9_22 : decode prog_48_method_3_code 22 = .ok (.areturn, 1) := by decide +kernel
theorem d9_21 : decode prog_48_method_3_code 21 = .ok (.aconst_null, 1) := by decide +kernel
theorem ef_11 (m : MethodId) (x0 : Addr) : entryFrame m #[(.ref x0)] 1 = mkF m 0 #[.val (.ref x0)] [] := by first | (simp [entryFrame, mkF, argsToLocals, Value.category]; done) | rfl
theorem d11_0 : decode jdk_38_method_8_code 0 = .ok (.aload_n 0, 1) := by decide +kernel
theorem d11_1 : decode jdk_38_method_8_code 1 = .ok (.getfield 48, 3) := by decide +kernel
theorem d11_4 : decode jdk_38_method_8_code 4 = .ok (.ireturn, 1) := by decide +kernel
theorem pn_com_example_gridtally_gridtally_core_RowSourceOfPinLaw : plainName "com/example/gridtally/gridtally/core/RowSourceOfPinLaw" = true := by first | (simp [plainName, overriddenIn]; done) | decide +kernel
theorem ef_0 (m : MethodId) (x0 : Int32) (x1 : Int64) (x2 : Int64) (x3 : Int64) : entryFrame m #[(.int x0), (.long x1), (.long x2), (.long x3)] maxLocals = mkF m 0 #[.val (.int x0), .val (.long x1), .second, .val (.long x2), .second, .val (.long x3), .second, .unset, .unset, .unset, .unset, .unset, .unset, .unset, .unset, .unset, .unset, .unset, .unset, .unset, .unset] [] := by first | (simp [entryFrame, mkF, argsToLocals, Value.category, maxLocals]; done) | rfl
theorem pd_10 : parseMethodDescriptor "(Lcom/example/gridtally/gridtally/core/CsvFile;J[B[I)V" = some ⟨[(.object "com/example/gridtally/gridtally/core/CsvFile"), .long, (.array .byte), (.array .int)], none⟩ := by decide +kernel
theorem pd_15 : parseMethodDescriptor "(Ljava/util/List;)Lcom/example/gridtally/gridtally/core/RowSource;" = some ⟨[(.object "java/util/List")], some (.object "com/example/gridtally/gridtally/core/RowSource")⟩ := by decide +kernel
theorem pd_0 : parseMethodDescriptor "()I" = some ⟨[], some .int⟩ := by decide +kernel
theorem pd_11 : parseMethodDescriptor "(Ljava/lang/Object;)Z" = some ⟨[(.object "java/lang/Object")], some .boolean⟩ := by decide +kernel
set_option maxRecDepth 65536 in
set_option maxHeartbeats 40000000 in
theorem rmRow (l : Launch) (Z : State) (a0 : Array Value) (hw : ∀ d ∈ tables_1, d.before a0 Z = true) (ws : List Jvm.Cond) (a1 b2 b3 : Addr) (q1 : Int64) (h0 : Heap) (n0 : Nat) (Z0 : n0 ≤ h0.size) (E_a : Exa Z h0 a1 "com/example/gridtally/gridtally/core/Row") (F_a_source : Fld Z h0 a1 "com/example/gridtally/gridtally/core/Row" "source" "Lcom/example/gridtally/gridtally/core/CsvFile;" .null) (F_a_line : Fld Z h0 a1 "com/example/gridtally/gridtally/core/Row" "line" "J" (.long (0 : Int64))) (F_a_bytes : Fld Z h0 a1 "com/example/gridtally/gridtally/core/Row" "bytes" "[B" .null) (F_a_ends : Fld Z h0 a1 "com/example/gridtally/gridtally/core/Row" "ends" "[I" .null) (g1 : n0 ≤ a1) :
    own_Met l Z (⟨"com/example/gridtally/gridtally/core/Row", "<init>", "(Lcom/example/gridtally/gridtally/core/CsvFile;J[B[I)V"⟩ : MethodName) prog_47_method_1_code 6 none ws ({ frames := 1, cells := 0, slots := 0, locals := 12 } : Room) #[(.ref a1), .null, (.long q1), (.ref b2), (.ref b3)] h0 (fun v h L => v = none ∧ Fr n0 L ∧ Keep h0 h [a1]) := by
  refine own_body (by first | exact plainFor_of_name pn_com_example_gridtally_gridtally_core_Row | decide +kernel) ?_
  intro p e s m below meth c T0 X0 hx hby hml hret hlk hZ hown hnm e0
  have hown : s.vm.findClass "com/example/gridtally/gridtally/core/Row" = some m.cls := hown
  have hnm : meth.name = "<init>" := hnm
  have N0 := Fr.nil n0
  rw [ef_1 m a1 q1 b2 b3]
  show own_Go p e below _ T0 (mkF m 0 #[.val (.ref a1), .val .null, .val (.long q1), .second, .val (.ref b2), .val (.ref b3)] [])
  refine own_go (fun t_ k_ => XS.aloadN X0.here hx rfl (hb hby d1_0) rfl rfl k_) ?_
  show own_Go p e below _ T0 (mkF m 1 #[.val (.ref a1), .val .null, .val (.long q1), .second, .val (.ref b2), .val (.ref b3)] [(.ref a1)])
  obtain ⟨T1, X1, e1, st1⟩ := initO X0 hx hZ hown (own_w hw 8 rfl) (own_w hw 9 rfl) (own_w hw 10 rfl) e0 (g := (mkF m 1 #[.val (.ref a1), .val .null, .val (.long q1), .second, .val (.ref b2), .val (.ref b3)] [(.ref a1)])) rfl (by rw [hml]; rfl) rfl (hb hby d1_1) (by decide) (W := 0) (by show 2 * 0 + _ ≤ _; exact Nat.le_of_eq rfl) (by decide)
  refine own_go st1 ?_
  show own_Go p e below _ T1 (mkF m 4 #[.val (.ref a1), .val .null, .val (.long q1), .second, .val (.ref b2), .val (.ref b3)] [])
  refine own_go (fun t_ k_ => XS.aloadN X1.here hx rfl (hb hby d1_4) rfl rfl k_) ?_
  show own_Go p e below _ T1 (mkF m 5 #[.val (.ref a1), .val .null, .val (.long q1), .second, .val (.ref b2), .val (.ref b3)] [(.ref a1)])
  refine own_go (fun t_ k_ => XS.aloadN X1.here hx rfl (hb hby d1_5) rfl rfl k_) ?_
  show own_Go p e below _ T1 (mkF m 6 #[.val (.ref a1), .val .null, .val (.long q1), .second, .val (.ref b2), .val (.ref b3)] [.null, (.ref a1)])
  obtain ⟨T2, h2, L2, X2, N2, e2, W2, G2, st2⟩ := own_putF X1 hx hZ hown (v := .null) (host := "") (Or.inl (own_w hw 11 rfl)) Via.refl e1 F_a_source E_a (Or.inr ⟨(own_w hw 12 rfl), rfl, hnm⟩) (own_w hw 1 rfl) (.object "com/example/gridtally/gridtally/core/CsvFile") (by decide) rfl rfl N0 g1 (Ls := #[.val (.ref a1), .val .null, .val (.long q1), .second, .val (.ref b2), .val (.ref b3)]) (rest := []) (hb hby d1_6)
  have H2_line := F_a_line.other W2 (Or.inr (slot_ne (Or.inr (own_w hw 14 rfl)) (Or.inr (own_w hw 12 rfl)) (by decide) (t := .long) (t' := (.object "com/example/gridtally/gridtally/core/CsvFile")) (by decide) (by decide)))
  have H2_bytes := F_a_bytes.other W2 (Or.inr (slot_ne (Or.inr (own_w hw 16 rfl)) (Or.inr (own_w hw 12 rfl)) (by decide) (t := (.array .byte)) (t' := (.object "com/example/gridtally/gridtally/core/CsvFile")) (by decide) (by decide)))
  have H2_ends := F_a_ends.other W2 (Or.inr (slot_ne (Or.inr (own_w hw 18 rfl)) (Or.inr (own_w hw 12 rfl)) (by decide) (t := (.array .int)) (t' := (.object "com/example/gridtally/gridtally/core/CsvFile")) (by decide) (by decide)))
  have kp2 := (Keep.refl h0 [a1]).wr W2 (Or.inl (List.mem_of_getElem? (i := 0) rfl))
  refine own_go st2 ?_
  show own_Go p e below _ T2 (mkF m 9 #[.val (.ref a1), .val .null, .val (.long q1), .second, .val (.ref b2), .val (.ref b3)] [])
  refine own_go (fun t_ k_ => XS.aloadN X2.here hx rfl (hb hby d1_9) rfl rfl k_) ?_
  show own_Go p e below _ T2 (mkF m 10 #[.val (.ref a1), .val .null, .val (.long q1), .second, .val (.ref b2), .val (.ref b3)] [(.ref a1)])
  refine own_go (fun t_ k_ => XS.lloadN X2.here hx rfl (hb hby d1_10) rfl k_) ?_
  show own_Go p e below _ T2 (mkF m 11 #[.val (.ref a1), .val .null, .val (.long q1), .second, .val (.ref b2), .val (.ref b3)] [(.long q1), (.ref a1)])
  obtain ⟨T3, h3, L3, X3, N3, e3, W3, G3, st3⟩ := own_putF X2 hx hZ hown (v := (.long q1)) (host := "") (Or.inl (own_w hw 13 rfl)) Via.refl e2 H2_line (E_a.wr W2) (Or.inr ⟨(own_w hw 14 rfl), rfl, hnm⟩) (own_w hw 1 rfl) .long (by decide) rfl rfl N2 g1 (Ls := #[.val (.ref a1), .val .null, .val (.long q1), .second, .val (.ref b2), .val (.ref b3)]) (rest := []) (hb hby d1_11)
  have H3_source := G2.other W3 (Or.inr (slot_ne (Or.inr (own_w hw 12 rfl)) (Or.inr (own_w hw 14 rfl)) (by decide) (t := (.object "com/example/gridtally/gridtally/core/CsvFile")) (t' := .long) (by decide) (by decide)))
  have H3_bytes := H2_bytes.other W3 (Or.inr (slot_ne (Or.inr (own_w hw 16 rfl)) (Or.inr (own_w hw 14 rfl)) (by decide) (t := (.array .byte)) (t' := .long) (by decide) (by decide)))
  have H3_ends := H2_ends.other W3 (Or.inr (slot_ne (Or.inr (own_w hw 18 rfl)) (Or.inr (own_w hw 14 rfl)) (by decide) (t := (.array .int)) (t' := .long) (by decide) (by decide)))
  have kp3 := kp2.wr W3 (Or.inl (List.mem_of_getElem? (i := 0) rfl))
  refine own_go st3 ?_
  show own_Go p e below _ T3 (mkF m 14 #[.val (.ref a1), .val .null, .val (.long q1), .second, .val (.ref b2), .val (.ref b3)] [])
  refine own_go (fun t_ k_ => XS.aloadN X3.here hx rfl (hb hby d1_14) rfl rfl k_) ?_
  show own_Go p e below _ T3 (mkF m 15 #[.val (.ref a1), .val .null, .val (.long q1), .second, .val (.ref b2), .val (.ref b3)] [(.ref a1)])
  refine own_go (fun t_ k_ => XS.aload X3.here hx rfl (hb hby d1_15) rfl rfl k_) ?_
  show own_Go p e below _ T3 (mkF m 17 #[.val (.ref a1), .val .null, .val (.long q1), .second, .val (.ref b2), .val (.ref b3)] [(.ref b2), (.ref a1)])
  obtain ⟨T4, h4, L4, X4, N4, e4, W4, G4, st4⟩ := own_putF X3 hx hZ hown (v := (.ref b2)) (host := "") (Or.inl (own_w hw 15 rfl)) Via.refl e3 H3_bytes ((E_a.wr W2).wr W3) (Or.inr ⟨(own_w hw 16 rfl), rfl, hnm⟩) (own_w hw 1 rfl) (.array .byte) (by decide) rfl rfl N3 g1 (Ls := #[.val (.ref a1), .val .null, .val (.long q1), .second, .val (.ref b2), .val (.ref b3)]) (rest := []) (hb hby d1_17)
  have H4_source := H3_source.other W4 (Or.inr (slot_ne (Or.inr (own_w hw 12 rfl)) (Or.inr (own_w hw 16 rfl)) (by decide) (t := (.object "com/example/gridtally/gridtally/core/CsvFile")) (t' := (.array .byte)) (by decide) (by decide)))
  have H4_line := G3.other W4 (Or.inr (slot_ne (Or.inr (own_w hw 14 rfl)) (Or.inr (own_w hw 16 rfl)) (by decide) (t := .long) (t' := (.array .byte)) (by decide) (by decide)))
  have H4_ends := H3_ends.other W4 (Or.inr (slot_ne (Or.inr (own_w hw 18 rfl)) (Or.inr (own_w hw 16 rfl)) (by decide) (t := (.array .int)) (t' := (.array .byte)) (by decide) (by decide)))
  have kp4 := kp3.wr W4 (Or.inl (List.mem_of_getElem? (i := 0) rfl))
  refine own_go st4 ?_
  show own_Go p e below _ T4 (mkF m 20 #[.val (.ref a1), .val .null, .val (.long q1), .second, .val (.ref b2), .val (.ref b3)] [])
  refine own_go (fun t_ k_ => XS.aloadN X4.here hx rfl (hb hby d1_20) rfl rfl k_) ?_
  show own_Go p e below _ T4 (mkF m 21 #[.val (.ref a1), .val .null, .val (.long q1), .second, .val (.ref b2), .val (.ref b3)] [(.ref a1)])
  refine own_go (fun t_ k_ => XS.aload X4.here hx rfl (hb hby d1_21) rfl rfl k_) ?_
  show own_Go p e below _ T4 (mkF m 23 #[.val (.ref a1), .val .null, .val (.long q1), .second, .val (.ref b2), .val (.ref b3)] [(.ref b3), (.ref a1)])
  obtain ⟨T5, h5, L5, X5, N5, e5, W5, G5, st5⟩ := own_putF X4 hx hZ hown (v := (.ref b3)) (host := "") (Or.inl (own_w hw 17 rfl)) Via.refl e4 H4_ends (((E_a.wr W2).wr W3).wr W4) (Or.inr ⟨(own_w hw 18 rfl), rfl, hnm⟩) (own_w hw 1 rfl) (.array .int) (by decide) rfl rfl N4 g1 (Ls := #[.val (.ref a1), .val .null, .val (.long q1), .second, .val (.ref b2), .val (.ref b3)]) (rest := []) (hb hby d1_23)
  have H5_source := H4_source.other W5 (Or.inr (slot_ne (Or.inr (own_w hw 12 rfl)) (Or.inr (own_w hw 18 rfl)) (by decide) (t := (.object "com/example/gridtally/gridtally/core/CsvFile")) (t' := (.array .int)) (by decide) (by decide)))
  have H5_line := H4_line.other W5 (Or.inr (slot_ne (Or.inr (own_w hw 14 rfl)) (Or.inr (own_w hw 18 rfl)) (by decide) (t := .long) (t' := (.array .int)) (by decide) (by decide)))
  have H5_bytes := G4.other W5 (Or.inr (slot_ne (Or.inr (own_w hw 16 rfl)) (Or.inr (own_w hw 18 rfl)) (by decide) (t := (.array .byte)) (t' := (.array .int)) (by decide) (by decide)))
  have kp5 := kp4.wr W5 (Or.inl (List.mem_of_getElem? (i := 0) rfl))
  refine own_go st5 ?_
  show own_Go p e below _ T5 (mkF m 26 #[.val (.ref a1), .val .null, .val (.long q1), .second, .val (.ref b2), .val (.ref b3)] [])
  refine own_retV X5 hx hlk hret (hb hby d1_26) (by decide) (by decide) ?_
  exact ⟨rfl, N5, by rw [e5]; exact kp5⟩
set_option maxRecDepth 65536 in
set_option maxHeartbeats 40000000 in
theorem rmAC (l : Launch) (Z : State) (a0 : Array Value) (hw : ∀ d ∈ tables_1, d.before a0 Z = true) (ws : List Jvm.Cond) (a1 : Addr) (h0 : Heap) (n0 : Nat) (Z0 : n0 ≤ h0.size) :
    own_Met l Z (⟨"java/util/AbstractCollection", "<init>", "()V"⟩ : MethodName) jdk_22_method_1_code 1 none ws ({ frames := 1, cells := 0, slots := 0, locals := 12 } : Room) #[(.ref a1)] h0 (fun v h L => v = none ∧ Fr n0 L ∧ h = h0) := by
  refine own_body (by first | exact plainFor_of_name pn_java_util_AbstractCollection | decide +kernel) ?_
  intro p e s m below meth c T0 X0 hx hby hml hret hlk hZ hown hnm e0
  have hown : s.vm.findClass "java/util/AbstractCollection" = some m.cls := hown
  have hnm : meth.name = "<init>" := hnm
  have N0 := Fr.nil n0
  rw [ef_5 m a1]
  show own_Go p e below _ T0 (mkF m 0 #[.val (.ref a1)] [])
  refine own_go (fun t_ k_ => XS.aloadN X0.here hx rfl (hb hby d5_0) rfl rfl k_) ?_
  show own_Go p e below _ T0 (mkF m 1 #[.val (.ref a1)] [(.ref a1)])
  obtain ⟨T1, X1, e1, st1⟩ := initO X0 hx hZ hown (own_w hw 37 rfl) (own_w hw 9 rfl) (own_w hw 10 rfl) e0 (g := (mkF m 1 #[.val (.ref a1)] [(.ref a1)])) rfl (by rw [hml]; rfl) rfl (hb hby d5_1) (by decide) (W := 0) (by show 2 * 0 + _ ≤ _; exact Nat.le_of_eq rfl) (by decide)
  refine own_go st1 ?_
  show own_Go p e below _ T1 (mkF m 4 #[.val (.ref a1)] [])
  refine own_retV X1 hx hlk hret (hb hby d5_4) (by decide) (by decide) ?_
  exact ⟨rfl, N0, e1⟩
set_option maxRecDepth 65536 in
set_option maxHeartbeats 40000000 in
theorem rmABL (l : Launch) (Z : State) (a0 : Array Value) (hw : ∀ d ∈ tables_1, d.before a0 Z = true) (ws : List Jvm.Cond) (a1 : Addr) (h0 : Heap) (n0 : Nat) (Z0 : n0 ≤ h0.size) (E_a : Exa Z h0 a1 "java/util/ArrayList") (F_a_ed : Fld Z h0 a1 "java/util/ArrayList" "elementData" "[Ljava/lang/Object;" .null) (F_a_sz : Fld Z h0 a1 "java/util/ArrayList" "size" "I" (.int (0 : Int32))) (F_a_mc : Fld Z h0 a1 "java/util/AbstractList" "modCount" "I" (.int (0 : Int32))) (g1 : n0 ≤ a1) :
    own_Met l Z (⟨"java/util/AbstractList", "<init>", "()V"⟩ : MethodName) jdk_39_method_1_code 1 none ws ({ frames := 2, cells := 0, slots := 0, locals := 24 } : Room) #[(.ref a1)] h0 (fun v h L => v = none ∧ Fr n0 L ∧ Keep h0 h [a1] ∧ Exa Z h a1 "java/util/ArrayList" ∧ Fld Z h a1 "java/util/ArrayList" "elementData" "[Ljava/lang/Object;" .null ∧ Fld Z h a1 "java/util/ArrayList" "size" "I" (.int (0 : Int32)) ∧ Fld Z h a1 "java/util/AbstractList" "modCount" "I" (.int (0 : Int32))) := by
  refine own_body (by first | exact plainFor_of_name pn_java_util_AbstractList | decide +kernel) ?_
  intro p e s m below meth c T0 X0 hx hby hml hret hlk hZ hown hnm e0
  have hown : s.vm.findClass "java/util/AbstractList" = some m.cls := hown
  have hnm : meth.name = "<init>" := hnm
  have N0 := Fr.nil n0
  rw [ef_4 m a1]
  show own_Go p e below _ T0 (mkF m 0 #[.val (.ref a1)] [])
  refine own_go (fun t_ k_ => XS.aloadN X0.here hx rfl (hb hby d4_0) rfl rfl k_) ?_
  show own_Go p e below _ T0 (mkF m 1 #[.val (.ref a1)] [(.ref a1)])
  obtain ⟨_, T1, L1, X1, ⟨rfl, N1, e1⟩, st1⟩ := own_callC X0 hx hZ (y := (⟨"java/util/AbstractCollection", "<init>", "()V"⟩ : MethodName)) (b := a1) (argsL := []) (rest := []) (Ls := #[.val (.ref a1)]) rfl hown (own_w hw 31 rfl) (own_w hw 32 rfl) (own_w hw 36 rfl) (own_w hw 35 rfl) (by decide) e0 (rmAC l Z a0 hw [] a1 h0 n0 Z0) 0 (by decide) (by decide) (by decide) (by decide) (by rw [hml]; rfl) (lenOf pd_4 rfl) rfl (Nat.le_of_eq rfl) (hb hby d4_1)
  have M1 := Fr.app N0 N1
  refine own_go st1 ?_
  show own_Go p e below _ T1 (mkF m 4 #[.val (.ref a1)] [])
  refine own_go (fun t_ k_ => XS.aloadN X1.here hx rfl (hb hby d4_4) rfl rfl k_) ?_
  show own_Go p e below _ T1 (mkF m 5 #[.val (.ref a1)] [(.ref a1)])
  refine own_go (fun t_ k_ => XS.iconst X1.here hx rfl (hb hby d4_5) k_) ?_
  show own_Go p e below _ T1 (mkF m 6 #[.val (.ref a1)] [(.int (0 : Int32)), (.ref a1)])
  obtain ⟨T2, h2, L2, X2, N2, e2, W2, G2, st2⟩ := own_putF X1 hx hZ hown (v := (.int (0 : Int32))) (host := "") (Or.inl (own_w hw 38 rfl)) Via.refl e1 F_a_mc E_a (Or.inl (own_w hw 39 rfl)) (own_w hw 20 rfl) .int (by decide) rfl rfl M1 g1 (Ls := #[.val (.ref a1)]) (rest := []) (hb hby d4_6)
  have H2_elementData := F_a_ed.other W2 (Or.inr (slot_ne (Or.inl (own_w hw 42 rfl)) (Or.inl (own_w hw 39 rfl)) (by decide) (t := (.array (.object "java/lang/Object"))) (t' := .int) (by decide) (by decide)))
  have H2_size := F_a_sz.other W2 (Or.inr (slot_ne (Or.inl (own_w hw 92 rfl)) (Or.inl (own_w hw 39 rfl)) (by decide) (t := .int) (t' := .int) (by decide) (by decide)))
  have kp2 := (Keep.refl h0 [a1]).wr W2 (Or.inl (List.mem_of_getElem? (i := 0) rfl))
  refine own_go st2 ?_
  show own_Go p e below _ T2 (mkF m 9 #[.val (.ref a1)] [])
  refine own_retV X2 hx hlk hret (hb hby d4_9) (by decide) (by decide) ?_
  exact ⟨rfl, N2, by rw [e2]; exact ⟨kp2, (E_a.wr W2), H2_elementData, H2_size, G2⟩⟩
set_option maxRecDepth 65536 in
set_option maxHeartbeats 40000000 in
theorem rmAL (l : Launch) (Z : State) (a0 : Array Value) (hw : ∀ d ∈ tables_1, d.before a0 Z = true) (ws : List Jvm.Cond) (a1 : Addr) (da : Addr) (kd : ClassId) (h0 : Heap) (n0 : Nat) (Z0 : n0 ≤ h0.size) (O0 : Old Z n0 h0) (S_D : Sta Z Z.heap "java/util/ArrayList" "DEFAULTCAPACITY_EMPTY_ELEMENTDATA" "[Ljava/lang/Object;" (.ref da)) (V_d : Arv Z Z.heap da kd (.object "java/lang/Object") (0 : Int32) [] .null) (E_a : Exa Z h0 a1 "java/util/ArrayList") (F_a_ed : Fld Z h0 a1 "java/util/ArrayList" "elementData" "[Ljava/lang/Object;" .null) (F_a_sz : Fld Z h0 a1 "java/util/ArrayList" "size" "I" (.int (0 : Int32))) (F_a_mc : Fld Z h0 a1 "java/util/AbstractList" "modCount" "I" (.int (0 : Int32))) (g1 : n0 ≤ a1) :
    own_Met l Z (⟨"java/util/ArrayList", "<init>", "()V"⟩ : MethodName) jdk_38_method_2_code 1 none ws ({ frames := 3, cells := 0, slots := 0, locals := 36 } : Room) #[(.ref a1)] h0 (fun v h L => v = none ∧ Fr n0 L ∧ Keep h0 h [a1] ∧ Exa Z h a1 "java/util/ArrayList" ∧ Fld Z h a1 "java/util/ArrayList" "elementData" "[Ljava/lang/Object;" (.ref da) ∧ Fld Z h a1 "java/util/ArrayList" "size" "I" (.int (0 : Int32)) ∧ Fld Z h a1 "java/util/AbstractList" "modCount" "I" (.int (0 : Int32))) := by
  refine own_body (by first | exact plainFor_of_name pn_java_util_ArrayList | decide +kernel) ?_
  intro p e s m below meth c T0 X0 hx hby hml hret hlk hZ hown hnm e0
  have hown : s.vm.findClass "java/util/ArrayList" = some m.cls := hown
  have hnm : meth.name = "<init>" := hnm
  have N0 := Fr.nil n0
  rw [ef_3 m a1]
  show own_Go p e below _ T0 (mkF m 0 #[.val (.ref a1)] [])
  refine own_go (fun t_ k_ => XS.aloadN X0.here hx rfl (hb hby d3_0) rfl rfl k_) ?_
  show own_Go p e below _ T0 (mkF m 1 #[.val (.ref a1)] [(.ref a1)])
  obtain ⟨_, T1, L1, X1, ⟨rfl, N1, K1, E1, F1_ed, F1_sz, F1_mc⟩, st1⟩ := own_callC X0 hx hZ (y := (⟨"java/util/AbstractList", "<init>", "()V"⟩ : MethodName)) (b := a1) (argsL := []) (rest := []) (Ls := #[.val (.ref a1)]) rfl hown (own_w hw 25 rfl) (own_w hw 26 rfl) (own_w hw 30 rfl) (own_w hw 29 rfl) (by decide) e0 (rmABL l Z a0 hw [] a1 h0 n0 (own_oldge O0) E_a F_a_ed F_a_sz F_a_mc g1) 0 (by decide) (by decide) (by decide) (by decide) (by rw [hml]; rfl) (lenOf pd_4 rfl) rfl (Nat.le_of_eq rfl) (hb hby d3_1)
  have M1 := Fr.app N0 N1
  have kE1_a1 := E_a.keep K1
  have old1 := O0.keep K1 (allS g1 all0)
  have kp1 := (Keep.refl h0 [a1]).trans K1 (allS (Or.inl (List.mem_of_getElem? (i := 0) rfl)) all0)
  refine own_go st1 ?_
  show own_Go p e below _ T1 (mkF m 4 #[.val (.ref a1)] [])
  refine own_go (fun t_ k_ => XS.aloadN X1.here hx rfl (hb hby d3_4) rfl rfl k_) ?_
  show own_Go p e below _ T1 (mkF m 5 #[.val (.ref a1)] [(.ref a1)])
  obtain ⟨T2, X2, e2, st2⟩ := getS2 X1 hx hZ hown (host := "") (Or.inl (own_w hw 40 rfl)) Via.refl rfl (S_D.ext old1.2) (g := (mkF m 5 #[.val (.ref a1)] [(.ref a1)])) rfl (hb hby d3_5)
  refine own_go st2 ?_
  show own_Go p e below _ T2 (mkF m 8 #[.val (.ref a1)] [(.ref da), (.ref a1)])
  obtain ⟨T3, h3, L3, X3, N3, e3, W3, G3, st3⟩ := own_putF X2 hx hZ hown (v := (.ref da)) (host := "") (Or.inl (own_w hw 41 rfl)) Via.refl e2 F1_ed E1 (Or.inl (own_w hw 42 rfl)) (own_w hw 20 rfl) (.array (.object "java/lang/Object")) (by decide) rfl rfl M1 g1 (Ls := #[.val (.ref a1)]) (rest := []) (hb hby d3_8)
  have H3_size := F1_sz.other W3 (Or.inr (slot_ne (Or.inl (own_w hw 92 rfl)) (Or.inl (own_w hw 42 rfl)) (by decide) (t := .int) (t' := (.array (.object "java/lang/Object"))) (by decide) (by decide)))
  have H3_modCount := F1_mc.other W3 (Or.inr (slot_ne (Or.inl (own_w hw 39 rfl)) (Or.inl (own_w hw 42 rfl)) (by decide) (t := .int) (t' := (.array (.object "java/lang/Object"))) (by decide) (by decide)))
  have old3 := old1.wr W3 g1
  have kp3 := kp1.wr W3 (Or.inl (List.mem_of_getElem? (i := 0) rfl))
  refine own_go st3 ?_
  show own_Go p e below _ T3 (mkF m 11 #[.val (.ref a1)] [])
  refine own_retV X3 hx hlk hret (hb hby d3_11) (by decide) (by decide) ?_
  exact ⟨rfl, N3, by rw [e3]; exact ⟨kp3, (E1.wr W3), G3, H3_size, H3_modCount⟩⟩
set_option maxRecDepth 65536 in
set_option maxHeartbeats 40000000 in
theorem rmMax (l : Launch) (Z : State) (a0 : Array Value) (hw : ∀ d ∈ tables_1, d.before a0 Z = true) (ws : List Jvm.Cond) (x0 x1 : Int32) (h0 : Heap) (n0 : Nat) (Z0 : n0 ≤ h0.size) (hm : ¬ x0 < x1) :
    own_Met l Z (⟨"java/lang/Math", "max", "(II)I"⟩ : MethodName) jdk_29_method_65_code 2 (some .int) ws ({ frames := 0, cells := 0, slots := 0, locals := 0 } : Room) #[(.int x0), (.int x1)] h0 (fun v h L => v = some (.int x0) ∧ Fr n0 L ∧ h = h0) := by
  refine own_body (Jvm.Free.JP.mathPlain rfl (by decide +kernel)) ?_
  intro p e s m below meth c T0 X0 hx hby hml hret hlk hZ hown hnm e0
  have hown : s.vm.findClass "java/lang/Math" = some m.cls := hown
  have hnm : meth.name = "max" := hnm
  have N0 := Fr.nil n0
  rw [ef_16 m x0 x1]
  show own_Go p e below _ T0 (mkF m 0 #[.val (.int x0), .val (.int x1)] [])
  refine own_go (fun t_ k_ => XS.iloadN X0.here hx rfl (hb hby d16_0) rfl k_) ?_
  show own_Go p e below _ T0 (mkF m 1 #[.val (.int x0), .val (.int x1)] [(.int x0)])
  refine own_go (fun t_ k_ => XS.iloadN X0.here hx rfl (hb hby d16_1) rfl k_) ?_
  show own_Go p e below _ T0 (mkF m 2 #[.val (.int x0), .val (.int x1)] [(.int x1), (.int x0)])
  refine own_go (fun t_ k_ => XS.icmpNo X0.here hx rfl (hb hby d16_2) rfl (XT.ii_lt_f hm) k_) ?_
  show own_Go p e below _ T0 (mkF m 5 #[.val (.int x0), .val (.int x1)] [])
  refine own_go (fun t_ k_ => XS.iloadN X0.here hx rfl (hb hby d16_5) rfl k_) ?_
  show own_Go p e below _ T0 (mkF m 6 #[.val (.int x0), .val (.int x1)] [(.int x0)])
  refine own_go (fun t_ k_ => XS.goto X0.here hx rfl (pc0 := 6) (pc' := 10) rfl (hb hby d16_6) (by decide) (by decide) k_) ?_
  show own_Go p e below _ T0 (mkF m 10 #[.val (.int x0), .val (.int x1)] [(.int x0)])
  refine own_retI X0 hx hlk hret (hb hby d16_10) (by decide) (by decide) ?_
  exact ⟨rfl, N0, e0⟩
set_option maxRecDepth 65536 in
set_option maxHeartbeats 40000000 in
theorem rmG1 (l : Launch) (Z : State) (a0 : Array Value) (hw : ∀ d ∈ tables_1, d.before a0 Z = true) (ws : List Jvm.Cond) (a1 : Addr) (da : Addr) (kd : ClassId) (mc : Int32) (h0 : Heap) (n0 : Nat) (Z0 : n0 ≤ h0.size) (O0 : Old Z n0 h0) (S_D : Sta Z Z.heap "java/util/ArrayList" "DEFAULTCAPACITY_EMPTY_ELEMENTDATA" "[Ljava/lang/Object;" (.ref da)) (V_d : Arv Z Z.heap da kd (.object "java/lang/Object") (0 : Int32) [] .null) (E_a : Exa Z h0 a1 "java/util/ArrayList") (F_a_ed : Fld Z h0 a1 "java/util/ArrayList" "elementData" "[Ljava/lang/Object;" (.ref da)) (F_a_sz : Fld Z h0 a1 "java/util/ArrayList" "size" "I" (.int (0 : Int32))) (F_a_mc : Fld Z h0 a1 "java/util/AbstractList" "modCount" "I" (.int mc)) (g1 : n0 ≤ a1) :
    own_Met l Z (⟨"java/util/ArrayList", "grow", "(I)[Ljava/lang/Object;"⟩ : MethodName) jdk_38_method_6_code 4 (some (.array (.object "java/lang/Object"))) ws ({ frames := 1, cells := 1, slots := 10, locals := 14 } : Room) #[(.ref a1), (.int (1 : Int32))] h0 (fun v h L => (∃ (ea : Addr) (kA : ClassId), v = some (.ref ea) ∧ Exa Z h a1 "java/util/ArrayList" ∧ Fld Z h a1 "java/util/ArrayList" "elementData" "[Ljava/lang/Object;" (.ref ea) ∧ Fld Z h a1 "java/util/ArrayList" "size" "I" (.int (0 : Int32)) ∧ Fld Z h a1 "java/util/AbstractList" "modCount" "I" (.int mc) ∧ Arv Z h ea kA (.object "java/lang/Object") (10 : Int32) [.null, .null, .null, .null, .null, .null, .null, .null, .null, .null] .null ∧ Ovr Z kA "java/lang/Object" ∧ h0.size ≤ ea ∧ Keep h0 h [a1]) ∧ Fr n0 L) := by
  refine own_body (by first | exact plainFor_of_name pn_java_util_ArrayList | decide +kernel) ?_
  intro p e s m below meth c T0 X0 hx hby hml hret hlk hZ hown hnm e0
  have hown : s.vm.findClass "java/util/ArrayList" = some m.cls := hown
  have hnm : meth.name = "grow" := hnm
  have N0 := Fr.nil n0
  rw [ef_15 m a1 (1 : Int32)]
  show own_Go p e below _ T0 (mkF m 0 #[.val (.ref a1), .val (.int (1 : Int32)), .unset, .unset] [])
  refine own_go (fun t_ k_ => XS.aloadN X0.here hx rfl (hb hby d15_0) rfl rfl k_) ?_
  show own_Go p e below _ T0 (mkF m 1 #[.val (.ref a1), .val (.int (1 : Int32)), .unset, .unset] [(.ref a1)])
  obtain ⟨T1, X1, e1, st1⟩ := getF X0 hx hZ hown (host := "") (Or.inl (own_w hw 41 rfl)) Via.refl e0 F_a_ed (g := (mkF m 1 #[.val (.ref a1), .val (.int (1 : Int32)), .unset, .unset] [(.ref a1)])) rfl rfl (hb hby d15_1)
  refine own_go st1 ?_
  show own_Go p e below _ T1 (mkF m 4 #[.val (.ref a1), .val (.int (1 : Int32)), .unset, .unset] [(.ref da)])
  refine own_go (own_len X1 hx hZ e1 (Ls := #[.val (.ref a1), .val (.int (1 : Int32)), .unset, .unset]) (rest := []) (V_d.ext O0.2) (hb hby d15_4)) ?_
  show own_Go p e below _ T1 (mkF m 5 #[.val (.ref a1), .val (.int (1 : Int32)), .unset, .unset] [(.int (0 : Int32))])
  refine own_go (fun t_ k_ => XS.istoreN X1.here hx rfl (hb hby d15_5) rfl (l' := #[.val (.ref a1), .val (.int (1 : Int32)), .val (.int (0 : Int32)), .unset]) rfl k_) ?_
  show own_Go p e below _ T1 (mkF m 6 #[.val (.ref a1), .val (.int (1 : Int32)), .val (.int (0 : Int32)), .unset] [])
  refine own_go (fun t_ k_ => XS.iloadN X1.here hx rfl (hb hby d15_6) rfl k_) ?_
  show own_Go p e below _ T1 (mkF m 7 #[.val (.ref a1), .val (.int (1 : Int32)), .val (.int (0 : Int32)), .unset] [(.int (0 : Int32))])
  refine own_go (fun t_ k_ => XS.ifNo X1.here hx rfl (hb hby d15_7) rfl (XT.i0_gt_f (by decide)) k_) ?_
  show own_Go p e below _ T1 (mkF m 10 #[.val (.ref a1), .val (.int (1 : Int32)), .val (.int (0 : Int32)), .unset] [])
  refine own_go (fun t_ k_ => XS.aloadN X1.here hx rfl (hb hby d15_10) rfl rfl k_) ?_
  show own_Go p e below _ T1 (mkF m 11 #[.val (.ref a1), .val (.int (1 : Int32)), .val (.int (0 : Int32)), .unset] [(.ref a1)])
  obtain ⟨T2, X2, e2, st2⟩ := getF X1 hx hZ hown (host := "") (Or.inl (own_w hw 41 rfl)) Via.refl e1 F_a_ed (g := (mkF m 11 #[.val (.ref a1), .val (.int (1 : Int32)), .val (.int (0 : Int32)), .unset] [(.ref a1)])) rfl rfl (hb hby d15_11)
  refine own_go st2 ?_
  show own_Go p e below _ T2 (mkF m 14 #[.val (.ref a1), .val (.int (1 : Int32)), .val (.int (0 : Int32)), .unset] [(.ref da)])
  obtain ⟨T3, X3, e3, st3⟩ := getS2 X2 hx hZ hown (host := "") (Or.inl (own_w hw 40 rfl)) Via.refl e2 (S_D.ext O0.2) (g := (mkF m 14 #[.val (.ref a1), .val (.int (1 : Int32)), .val (.int (0 : Int32)), .unset] [(.ref da)])) rfl (hb hby d15_14)
  refine own_go st3 ?_
  show own_Go p e below _ T3 (mkF m 17 #[.val (.ref a1), .val (.int (1 : Int32)), .val (.int (0 : Int32)), .unset] [(.ref da), (.ref da)])
  refine own_go (fun t_ k_ => XT.acmpYes X3.here hx rfl (pc0 := 17) (pc' := 45) rfl (hb hby d15_17) rfl rfl rfl (XT.aa_eq_t rfl) (by decide) (by decide) k_) ?_
  show own_Go p e below _ T3 (mkF m 45 #[.val (.ref a1), .val (.int (1 : Int32)), .val (.int (0 : Int32)), .unset] [])
  refine own_go (fun t_ k_ => XS.aloadN X3.here hx rfl (hb hby d15_45) rfl rfl k_) ?_
  show own_Go p e below _ T3 (mkF m 46 #[.val (.ref a1), .val (.int (1 : Int32)), .val (.int (0 : Int32)), .unset] [(.ref a1)])
  refine own_go (fun t_ k_ => XS.bipush X3.here hx rfl (hb hby d15_46) k_) ?_
  show own_Go p e below _ T3 (mkF m 48 #[.val (.ref a1), .val (.int (1 : Int32)), .val (.int (0 : Int32)), .unset] [(.int (10 : Int32)), (.ref a1)])
  refine own_go (fun t_ k_ => XS.iloadN X3.here hx rfl (hb hby d15_48) rfl k_) ?_
  show own_Go p e below _ T3 (mkF m 49 #[.val (.ref a1), .val (.int (1 : Int32)), .val (.int (0 : Int32)), .unset] [(.int (1 : Int32)), (.int (10 : Int32)), (.ref a1)])
  obtain ⟨_, T4, L4, X4, ⟨rfl, N4, e4⟩, st4⟩ := own_callS X3 hx hZ (y := (⟨"java/lang/Math", "max", "(II)I"⟩ : MethodName)) (argsL := [(.int (10 : Int32)), (.int (1 : Int32))]) (rest := [(.ref a1)]) (Ls := #[.val (.ref a1), .val (.int (1 : Int32)), .val (.int (0 : Int32)), .unset]) hown (own_w hw 120 rfl) (own_w hw 121 rfl) (own_w hw 122 rfl) (own_w hw 123 rfl) (by decide) e3 (rmMax l Z a0 hw [] (10 : Int32) (1 : Int32) h0 n0 Z0 (by decide)) 1 (by decide) (by decide) (by decide) (by decide) (by rw [hml]; rfl) (lenOf pd_8 rfl) rfl (Nat.le_of_eq rfl) (hb hby d15_49)
  have M4 := Fr.app N0 N4
  refine own_go st4 ?_
  show own_Go p e below _ T4 (mkF m 52 #[.val (.ref a1), .val (.int (1 : Int32)), .val (.int (0 : Int32)), .unset] [(.int (10 : Int32)), (.ref a1)])
  obtain ⟨T5, h5, b5, k5, X5, e5, E5, g5, V5, O5, st5⟩ := own_newR X4 hx hZ hown (own_w hw 124 rfl) (own_w hw 125 rfl) e4 (Ls := #[.val (.ref a1), .val (.int (1 : Int32)), .val (.int (0 : Int32)), .unset]) (rest := [(.ref a1)]) (hb hby d15_52) (n := (10 : Int32)) (by decide) 10 (by decide) (by decide) (by decide) (by decide)
  have ge_b5 : n0 ≤ b5 := g5 ▸ own_oldge O0
  have old5 := O0.ext E5
  have kp5 := (Keep.refl h0 [a1]).ext E5
  have V5 : Arv Z h5 b5 k5 (.object "java/lang/Object") (10 : Int32) [.null, .null, .null, .null, .null, .null, .null, .null, .null, .null] .null := V5
  refine own_go st5 ?_
  show own_Go p e below _ T5 (mkF m 55 #[.val (.ref a1), .val (.int (1 : Int32)), .val (.int (0 : Int32)), .unset] [(.ref b5), (.ref a1)])
  have ne_b5_a1 : b5 ≠ a1 := fun q => absurd E_a.lt (by rw [← q, g5]; exact Nat.lt_irrefl _)
  have sz_b5 : h0.size ≤ b5 := Nat.le_of_eq g5.symm
  refine own_go (fun t_ k_ => XS.dupX1 X5.here hx rfl (hb hby d15_55) rfl rfl rfl k_) ?_
  show own_Go p e below _ T5 (mkF m 56 #[.val (.ref a1), .val (.int (1 : Int32)), .val (.int (0 : Int32)), .unset] [(.ref b5), (.ref a1), (.ref b5)])
  obtain ⟨T6, h6, L6, X6, N6, e6, W6, G6, st6⟩ := own_putF X5 hx hZ hown (v := (.ref b5)) (host := "") (Or.inl (own_w hw 41 rfl)) Via.refl e5 (F_a_ed.ext E5) (E_a.ext E5) (Or.inl (own_w hw 42 rfl)) (own_w hw 20 rfl) (.array (.object "java/lang/Object")) (by decide) rfl rfl M4 g1 (Ls := #[.val (.ref a1), .val (.int (1 : Int32)), .val (.int (0 : Int32)), .unset]) (rest := [(.ref b5)]) (hb hby d15_56)
  have H6_size := (F_a_sz.ext E5).other W6 (Or.inr (slot_ne (Or.inl (own_w hw 92 rfl)) (Or.inl (own_w hw 42 rfl)) (by decide) (t := .int) (t' := (.array (.object "java/lang/Object"))) (by decide) (by decide)))
  have H6_modCount := (F_a_mc.ext E5).other W6 (Or.inr (slot_ne (Or.inl (own_w hw 39 rfl)) (Or.inl (own_w hw 42 rfl)) (by decide) (t := .int) (t' := (.array (.object "java/lang/Object"))) (by decide) (by decide)))
  have old6 := old5.wr W6 g1
  have kp6 := kp5.wr W6 (Or.inl (List.mem_of_getElem? (i := 0) rfl))
  refine own_go st6 ?_
  show own_Go p e below _ T6 (mkF m 59 #[.val (.ref a1), .val (.int (1 : Int32)), .val (.int (0 : Int32)), .unset] [(.ref b5)])
  refine own_retA X6 hx hlk hret (hb hby d15_59) rfl rfl (by decide) (by decide) ?_
  exact ⟨⟨b5, k5, rfl, by rw [e6]; exact ⟨((E_a.ext E5).wr W6), G6, H6_size, H6_modCount, (V5.other W6 ne_b5_a1), O5, sz_b5, kp6⟩⟩, N6⟩
set_option maxRecDepth 65536 in
set_option maxHeartbeats 40000000 in
theorem rmG0 (l : Launch) (Z : State) (a0 : Array Value) (hw : ∀ d ∈ tables_1, d.before a0 Z = true) (ws : List Jvm.Cond) (a1 : Addr) (da : Addr) (kd : ClassId) (mc : Int32) (h0 : Heap) (n0 : Nat) (Z0 : n0 ≤ h0.size) (O0 : Old Z n0 h0) (S_D : Sta Z Z.heap "java/util/ArrayList" "DEFAULTCAPACITY_EMPTY_ELEMENTDATA" "[Ljava/lang/Object;" (.ref da)) (V_d : Arv Z Z.heap da kd (.object "java/lang/Object") (0 : Int32) [] .null) (E_a : Exa Z h0 a1 "java/util/ArrayList") (F_a_ed : Fld Z h0 a1 "java/util/ArrayList" "elementData" "[Ljava/lang/Object;" (.ref da)) (F_a_sz : Fld Z h0 a1 "java/util/ArrayList" "size" "I" (.int (0 : Int32))) (F_a_mc : Fld Z h0 a1 "java/util/AbstractList" "modCount" "I" (.int mc)) (g1 : n0 ≤ a1) :
    own_Met l Z (⟨"java/util/ArrayList", "grow", "()[Ljava/lang/Object;"⟩ : MethodName) jdk_38_method_7_code 1 (some (.array (.object "java/lang/Object"))) ws ({ frames := 2, cells := 1, slots := 10, locals := 29 } : Room) #[(.ref a1)] h0 (fun v h L => (∃ (ea : Addr) (kA : ClassId), v = some (.ref ea) ∧ Exa Z h a1 "java/util/ArrayList" ∧ Fld Z h a1 "java/util/ArrayList" "elementData" "[Ljava/lang/Object;" (.ref ea) ∧ Fld Z h a1 "java/util/ArrayList" "size" "I" (.int (0 : Int32)) ∧ Fld Z h a1 "java/util/AbstractList" "modCount" "I" (.int mc) ∧ Arv Z h ea kA (.object "java/lang/Object") (10 : Int32) [.null, .null, .null, .null, .null, .null, .null, .null, .null, .null] .null ∧ Ovr Z kA "java/lang/Object" ∧ h0.size ≤ ea ∧ Keep h0 h [a1]) ∧ Fr n0 L) := by
  refine own_body (by first | exact plainFor_of_name pn_java_util_ArrayList | decide +kernel) ?_
  intro p e s m below meth c T0 X0 hx hby hml hret hlk hZ hown hnm e0
  have hown : s.vm.findClass "java/util/ArrayList" = some m.cls := hown
  have hnm : meth.name = "grow" := hnm
  have N0 := Fr.nil n0
  rw [ef_14 m a1]
  show own_Go p e below _ T0 (mkF m 0 #[.val (.ref a1)] [])
  refine own_go (fun t_ k_ => XS.aloadN X0.here hx rfl (hb hby d14_0) rfl rfl k_) ?_
  show own_Go p e below _ T0 (mkF m 1 #[.val (.ref a1)] [(.ref a1)])
  refine own_go (fun t_ k_ => XS.aloadN X0.here hx rfl (hb hby d14_1) rfl rfl k_) ?_
  show own_Go p e below _ T0 (mkF m 2 #[.val (.ref a1)] [(.ref a1), (.ref a1)])
  obtain ⟨T1, X1, e1, st1⟩ := getF X0 hx hZ hown (host := "") (Or.inl (own_w hw 98 rfl)) Via.refl e0 F_a_sz (g := (mkF m 2 #[.val (.ref a1)] [(.ref a1), (.ref a1)])) rfl rfl (hb hby d14_2)
  refine own_go st1 ?_
  show own_Go p e below _ T1 (mkF m 5 #[.val (.ref a1)] [(.int (0 : Int32)), (.ref a1)])
  refine own_go (fun t_ k_ => XS.iconst X1.here hx rfl (hb hby d14_5) k_) ?_
  show own_Go p e below _ T1 (mkF m 6 #[.val (.ref a1)] [(.int (1 : Int32)), (.int (0 : Int32)), (.ref a1)])
  refine own_go (fun t_ k_ => XS.iadd X1.here hx rfl (hb hby d14_6) rfl k_) ?_
  show own_Go p e below _ T1 (mkF m 7 #[.val (.ref a1)] [(.int ((0 : Int32) + (1 : Int32))), (.ref a1)])
  rw [show ((0 : Int32) + (1 : Int32)) = (1 : Int32) from by decide]
  show own_Go p e below _ T1 (mkF m 7 #[.val (.ref a1)] [(.int (1 : Int32)), (.ref a1)])
  obtain ⟨_, T2, L2, X2, ⟨⟨ea2, kA2, rfl, E2, F2_ed, F2_sz, F2_mc, V2, O2, ge2, K2⟩, N2⟩, st2⟩ := own_callP X1 hx hZ (y := (⟨"java/util/ArrayList", "grow", "(I)[Ljava/lang/Object;"⟩ : MethodName)) (b := a1) (argsL := [(.int (1 : Int32))]) (rest := []) (Ls := #[.val (.ref a1)]) hown (own_w hw 115 rfl) (own_w hw 117 rfl) (own_w hw 118 rfl) (own_w hw 116 rfl) (own_w hw 119 rfl) (own_w hw 21 rfl) (by decide) e1 E_a (rmG1 l Z a0 hw [] a1 da kd mc h0 n0 (own_oldge O0) O0 S_D V_d E_a F_a_ed F_a_sz F_a_mc g1) 0 (by decide) (by decide) (by decide) (by decide) (by rw [hml]; rfl) (lenOf pd_7 rfl) rfl (Nat.le_of_eq rfl) (hb hby d14_7)
  have M2 := Fr.app N0 N2
  have kE2_a1 := E_a.keep K2
  have old2 := O0.keep K2 (allS g1 all0)
  have kp2 := (Keep.refl h0 [a1]).trans K2 (allS (Or.inl (List.mem_of_getElem? (i := 0) rfl)) all0)
  have sz_ea2 : h0.size ≤ ea2 := Nat.le_trans (by first | exact Nat.le_refl _ | exact kp2.1) ge2
  have ge_ea2 : n0 ≤ ea2 := Nat.le_trans Z0 sz_ea2
  have ne_a1_ea2 : a1 ≠ ea2 := Exa.neArv E2 V2 (own_w hw 20 rfl)
  have ne_ea2_a1 := Ne.symm ne_a1_ea2
  refine own_go st2 ?_
  show own_Go p e below _ T2 (mkF m 10 #[.val (.ref a1)] [(.ref ea2)])
  refine own_retA X2 hx hlk hret (hb hby d14_10) rfl rfl (by decide) (by decide) ?_
  exact ⟨⟨ea2, kA2, rfl, by exact ⟨E2, F2_ed, F2_sz, F2_mc, V2, O2, sz_ea2, kp2⟩⟩, M2⟩
set_option maxRecDepth 65536 in
set_option maxHeartbeats 40000000 in
theorem rmA3_0 (l : Launch) (Z : State) (a0 : Array Value) (hw : ∀ d ∈ tables_1, d.before a0 Z = true) (ws : List Jvm.Cond) (a1 r : Addr) (da : Addr) (kd : ClassId) (mc : Int32) (h0 : Heap) (n0 : Nat) (Z0 : n0 ≤ h0.size) (O0 : Old Z n0 h0) (S_D : Sta Z Z.heap "java/util/ArrayList" "DEFAULTCAPACITY_EMPTY_ELEMENTDATA" "[Ljava/lang/Object;" (.ref da)) (V_d : Arv Z Z.heap da kd (.object "java/lang/Object") (0 : Int32) [] .null) (E_r : Exa Z h0 r "com/example/gridtally/gridtally/core/Row") (g1 : n0 ≤ a1) (E_a : Exa Z h0 a1 "java/util/ArrayList") (F_a_ed : Fld Z h0 a1 "java/util/ArrayList" "elementData" "[Ljava/lang/Object;" (.ref da)) (F_a_sz : Fld Z h0 a1 "java/util/ArrayList" "size" "I" (.int (0 : Int32))) (F_a_mc : Fld Z h0 a1 "java/util/AbstractList" "modCount" "I" (.int mc)) :
    own_Met l Z (⟨"java/util/ArrayList", "add", "(Ljava/lang/Object;[Ljava/lang/Object;I)V"⟩ : MethodName) jdk_38_method_24_code 4 none ws ({ frames := 3, cells := 1, slots := 10, locals := 41 } : Room) #[(.ref a1), (.ref r), (.ref da), (.int (0 : Int32))] h0 (fun v h L => v = none ∧ (∃ (ea : Addr) (kA : ClassId), Exa Z h a1 "java/util/ArrayList" ∧ Fld Z h a1 "java/util/ArrayList" "elementData" "[Ljava/lang/Object;" (.ref ea) ∧ Fld Z h a1 "java/util/ArrayList" "size" "I" (.int (1 : Int32)) ∧ Fld Z h a1 "java/util/AbstractList" "modCount" "I" (.int mc) ∧ Arv Z h ea kA (.object "java/lang/Object") (10 : Int32) [(.ref r), .null, .null, .null, .null, .null, .null, .null, .null, .null] .null ∧ Ovr Z kA "java/lang/Object" ∧ h0.size ≤ ea ∧ Keep h0 h [a1]) ∧ Fr n0 L) := by
  refine own_body (by first | exact plainFor_of_name pn_java_util_ArrayList | decide +kernel) ?_
  intro p e s m below meth c T0 X0 hx hby hml hret hlk hZ hown hnm e0
  have hown : s.vm.findClass "java/util/ArrayList" = some m.cls := hown
  have hnm : meth.name = "add" := hnm
  have N0 := Fr.nil n0
  rw [ef_13 m a1 r da (0 : Int32)]
  show own_Go p e below _ T0 (mkF m 0 #[.val (.ref a1), .val (.ref r), .val (.ref da), .val (.int (0 : Int32))] [])
  refine own_go (fun t_ k_ => XS.iloadN X0.here hx rfl (hb hby d13_0) rfl k_) ?_
  show own_Go p e below _ T0 (mkF m 1 #[.val (.ref a1), .val (.ref r), .val (.ref da), .val (.int (0 : Int32))] [(.int (0 : Int32))])
  refine own_go (fun t_ k_ => XS.aloadN X0.here hx rfl (hb hby d13_1) rfl rfl k_) ?_
  show own_Go p e below _ T0 (mkF m 2 #[.val (.ref a1), .val (.ref r), .val (.ref da), .val (.int (0 : Int32))] [(.ref da), (.int (0 : Int32))])
  refine own_go (own_len X0 hx hZ e0 (Ls := #[.val (.ref a1), .val (.ref r), .val (.ref da), .val (.int (0 : Int32))]) (rest := [(.int (0 : Int32))]) (V_d.ext O0.2) (hb hby d13_2)) ?_
  show own_Go p e below _ T0 (mkF m 3 #[.val (.ref a1), .val (.ref r), .val (.ref da), .val (.int (0 : Int32))] [(.int (0 : Int32)), (.int (0 : Int32))])
  refine own_go (fun t_ k_ => XS.icmpNo X0.here hx rfl (hb hby d13_3) rfl (XT.ii_ne_f (by decide)) k_) ?_
  show own_Go p e below _ T0 (mkF m 6 #[.val (.ref a1), .val (.ref r), .val (.ref da), .val (.int (0 : Int32))] [])
  refine own_go (fun t_ k_ => XS.aloadN X0.here hx rfl (hb hby d13_6) rfl rfl k_) ?_
  show own_Go p e below _ T0 (mkF m 7 #[.val (.ref a1), .val (.ref r), .val (.ref da), .val (.int (0 : Int32))] [(.ref a1)])
  obtain ⟨_, T1, L1, X1, ⟨⟨ea1, kA1, rfl, E1, F1_ed, F1_sz, F1_mc, V1, O1, ge1, K1⟩, N1⟩, st1⟩ := own_callP X0 hx hZ (y := (⟨"java/util/ArrayList", "grow", "()[Ljava/lang/Object;"⟩ : MethodName)) (b := a1) (argsL := []) (rest := []) (Ls := #[.val (.ref a1), .val (.ref r), .val (.ref da), .val (.int (0 : Int32))]) hown (own_w hw 110 rfl) (own_w hw 112 rfl) (own_w hw 113 rfl) (own_w hw 111 rfl) (own_w hw 114 rfl) (own_w hw 21 rfl) (by decide) e0 E_a (rmG0 l Z a0 hw [] a1 da kd mc h0 n0 (own_oldge O0) O0 S_D V_d E_a F_a_ed F_a_sz F_a_mc g1) 0 (by decide) (by decide) (by decide) (by decide) (by rw [hml]; rfl) (lenOf pd_6 rfl) rfl (Nat.le_of_eq rfl) (hb hby d13_7)
  have M1 := Fr.app N0 N1
  have kE1_a1 := E_a.keep K1
  have kE1_r := E_r.keep K1
  have old1 := O0.keep K1 (allS g1 all0)
  have kp1 := (Keep.refl h0 [a1]).trans K1 (allS (Or.inl (List.mem_of_getElem? (i := 0) rfl)) all0)
  have sz_ea1 : h0.size ≤ ea1 := Nat.le_trans (by first | exact Nat.le_refl _ | exact kp1.1) ge1
  have ge_ea1 : n0 ≤ ea1 := Nat.le_trans Z0 sz_ea1
  have ne_a1_ea1 : a1 ≠ ea1 := Exa.neArv E1 V1 (own_w hw 20 rfl)
  have ne_ea1_a1 := Ne.symm ne_a1_ea1
  refine own_go st1 ?_
  show own_Go p e below _ T1 (mkF m 10 #[.val (.ref a1), .val (.ref r), .val (.ref da), .val (.int (0 : Int32))] [(.ref ea1)])
  refine own_go (fun t_ k_ => XS.astoreN X1.here hx rfl (hb hby d13_10) rfl rfl (l' := #[.val (.ref a1), .val (.ref r), .val (.ref ea1), .val (.int (0 : Int32))]) rfl k_) ?_
  show own_Go p e below _ T1 (mkF m 11 #[.val (.ref a1), .val (.ref r), .val (.ref ea1), .val (.int (0 : Int32))] [])
  refine own_go (fun t_ k_ => XS.aloadN X1.here hx rfl (hb hby d13_11) rfl rfl k_) ?_
  show own_Go p e below _ T1 (mkF m 12 #[.val (.ref a1), .val (.ref r), .val (.ref ea1), .val (.int (0 : Int32))] [(.ref ea1)])
  refine own_go (fun t_ k_ => XS.iloadN X1.here hx rfl (hb hby d13_12) rfl k_) ?_
  show own_Go p e below _ T1 (mkF m 13 #[.val (.ref a1), .val (.ref r), .val (.ref ea1), .val (.int (0 : Int32))] [(.int (0 : Int32)), (.ref ea1)])
  refine own_go (fun t_ k_ => XS.aloadN X1.here hx rfl (hb hby d13_13) rfl rfl k_) ?_
  show own_Go p e below _ T1 (mkF m 14 #[.val (.ref a1), .val (.ref r), .val (.ref ea1), .val (.int (0 : Int32))] [(.ref r), (.int (0 : Int32)), (.ref ea1)])
  obtain ⟨T2, h2, L2, X2, N2, e2, W2, V2, st2⟩ := own_stR X1 hx hZ rfl (j := (0 : Int32)) (vs' := [(.ref r), .null, .null, .null, .null, .null, .null, .null, .null, .null]) V1 O1 (Ins.of_exa kE1_r (own_w hw 126 rfl)) (by decide) 0 rfl (Nat.le_of_ble_eq_true rfl) rfl M1 ge_ea1 (Ls := #[.val (.ref a1), .val (.ref r), .val (.ref ea1), .val (.int (0 : Int32))]) (rest := []) (hb hby d13_14)
  have old2 := old1.wr W2 ge_ea1
  have H2_a1_elementData := F1_ed.other W2 (Or.inl ne_a1_ea1)
  have H2_a1_size := F1_sz.other W2 (Or.inl ne_a1_ea1)
  have H2_a1_modCount := F1_mc.other W2 (Or.inl ne_a1_ea1)
  have kp2 := kp1.wr W2 (Or.inr sz_ea1)
  refine own_go st2 ?_
  show own_Go p e below _ T2 (mkF m 15 #[.val (.ref a1), .val (.ref r), .val (.ref ea1), .val (.int (0 : Int32))] [])
  refine own_go (fun t_ k_ => XS.aloadN X2.here hx rfl (hb hby d13_15) rfl rfl k_) ?_
  show own_Go p e below _ T2 (mkF m 16 #[.val (.ref a1), .val (.ref r), .val (.ref ea1), .val (.int (0 : Int32))] [(.ref a1)])
  refine own_go (fun t_ k_ => XS.iloadN X2.here hx rfl (hb hby d13_16) rfl k_) ?_
  show own_Go p e below _ T2 (mkF m 17 #[.val (.ref a1), .val (.ref r), .val (.ref ea1), .val (.int (0 : Int32))] [(.int (0 : Int32)), (.ref a1)])
  refine own_go (fun t_ k_ => XS.iconst X2.here hx rfl (hb hby d13_17) k_) ?_
  show own_Go p e below _ T2 (mkF m 18 #[.val (.ref a1), .val (.ref r), .val (.ref ea1), .val (.int (0 : Int32))] [(.int (1 : Int32)), (.int (0 : Int32)), (.ref a1)])
  refine own_go (fun t_ k_ => XS.iadd X2.here hx rfl (hb hby d13_18) rfl k_) ?_
  show own_Go p e below _ T2 (mkF m 19 #[.val (.ref a1), .val (.ref r), .val (.ref ea1), .val (.int (0 : Int32))] [(.int ((0 : Int32) + (1 : Int32))), (.ref a1)])
  rw [show ((0 : Int32) + (1 : Int32)) = (1 : Int32) from by decide]
  show own_Go p e below _ T2 (mkF m 19 #[.val (.ref a1), .val (.ref r), .val (.ref ea1), .val (.int (0 : Int32))] [(.int (1 : Int32)), (.ref a1)])
  obtain ⟨T3, h3, L3, X3, N3, e3, W3, G3, st3⟩ := own_putF X2 hx hZ hown (v := (.int (1 : Int32))) (host := "") (Or.inl (own_w hw 98 rfl)) Via.refl e2 H2_a1_size (E1.wr W2) (Or.inl (own_w hw 92 rfl)) (own_w hw 20 rfl) .int (by decide) rfl rfl N2 g1 (Ls := #[.val (.ref a1), .val (.ref r), .val (.ref ea1), .val (.int (0 : Int32))]) (rest := []) (hb hby d13_19)
  have H3_elementData := H2_a1_elementData.other W3 (Or.inr (slot_ne (Or.inl (own_w hw 42 rfl)) (Or.inl (own_w hw 92 rfl)) (by decide) (t := (.array (.object "java/lang/Object"))) (t' := .int) (by decide) (by decide)))
  have H3_modCount := H2_a1_modCount.other W3 (Or.inr (slot_ne (Or.inl (own_w hw 39 rfl)) (Or.inl (own_w hw 92 rfl)) (by decide) (t := .int) (t' := .int) (by decide) (by decide)))
  have old3 := old2.wr W3 g1
  have kp3 := kp2.wr W3 (Or.inl (List.mem_of_getElem? (i := 0) rfl))
  refine own_go st3 ?_
  show own_Go p e below _ T3 (mkF m 22 #[.val (.ref a1), .val (.ref r), .val (.ref ea1), .val (.int (0 : Int32))] [])
  refine own_retV X3 hx hlk hret (hb hby d13_22) (by decide) (by decide) ?_
  exact ⟨rfl, ⟨ea1, kA1, by rw [e3]; exact ⟨((E1.wr W2).wr W3), H3_elementData, G3, H3_modCount, (V2.other W3 ne_ea1_a1), O1, sz_ea1, kp3⟩⟩, N3⟩
set_option maxRecDepth 65536 in
set_option maxHeartbeats 40000000 in
theorem rmAd_0 (l : Launch) (Z : State) (a0 : Array Value) (hw : ∀ d ∈ tables_1, d.before a0 Z = true) (ws : List Jvm.Cond) (a1 r : Addr) (da : Addr) (kd : ClassId) (h0 : Heap) (n0 : Nat) (Z0 : n0 ≤ h0.size) (O0 : Old Z n0 h0) (S_D : Sta Z Z.heap "java/util/ArrayList" "DEFAULTCAPACITY_EMPTY_ELEMENTDATA" "[Ljava/lang/Object;" (.ref da)) (V_d : Arv Z Z.heap da kd (.object "java/lang/Object") (0 : Int32) [] .null) (E_r : Exa Z h0 r "com/example/gridtally/gridtally/core/Row") (g1 : n0 ≤ a1) (E_a : Exa Z h0 a1 "java/util/ArrayList") (F_a_ed : Fld Z h0 a1 "java/util/ArrayList" "elementData" "[Ljava/lang/Object;" (.ref da)) (F_a_sz : Fld Z h0 a1 "java/util/ArrayList" "size" "I" (.int (0 : Int32))) (F_a_mc : Fld Z h0 a1 "java/util/AbstractList" "modCount" "I" (.int (0 : Int32))) :
    own_Met l Z (⟨"java/util/ArrayList", "add", "(Ljava/lang/Object;)Z"⟩ : MethodName) jdk_38_method_25_code 2 (some .boolean) ws ({ frames := 4, cells := 1, slots := 10, locals := 56 } : Room) #[(.ref a1), (.ref r)] h0 (fun v h L => v = some (.int 1) ∧ (∃ (ea : Addr) (kA : ClassId), Exa Z h a1 "java/util/ArrayList" ∧ Fld Z h a1 "java/util/ArrayList" "elementData" "[Ljava/lang/Object;" (.ref ea) ∧ Fld Z h a1 "java/util/ArrayList" "size" "I" (.int (1 : Int32)) ∧ Fld Z h a1 "java/util/AbstractList" "modCount" "I" (.int (1 : Int32)) ∧ Arv Z h ea kA (.object "java/lang/Object") (10 : Int32) [(.ref r), .null, .null, .null, .null, .null, .null, .null, .null, .null] .null ∧ Ovr Z kA "java/lang/Object" ∧ h0.size ≤ ea ∧ Keep h0 h [a1]) ∧ Fr n0 L) := by
  refine own_body (by first | exact plainFor_of_name pn_java_util_ArrayList | decide +kernel) ?_
  intro p e s m below meth c T0 X0 hx hby hml hret hlk hZ hown hnm e0
  have hown : s.vm.findClass "java/util/ArrayList" = some m.cls := hown
  have hnm : meth.name = "add" := hnm
  have N0 := Fr.nil n0
  rw [ef_12 m a1 r]
  show own_Go p e below _ T0 (mkF m 0 #[.val (.ref a1), .val (.ref r)] [])
  refine own_go (fun t_ k_ => XS.aloadN X0.here hx rfl (hb hby d12_0) rfl rfl k_) ?_
  show own_Go p e below _ T0 (mkF m 1 #[.val (.ref a1), .val (.ref r)] [(.ref a1)])
  refine own_go (fun t_ k_ => XS.dup X0.here hx rfl (hb hby d12_1) rfl rfl k_) ?_
  show own_Go p e below _ T0 (mkF m 2 #[.val (.ref a1), .val (.ref r)] [(.ref a1), (.ref a1)])
  obtain ⟨T1, X1, e1, st1⟩ := getF X0 hx hZ hown (host := "") (Or.inl (own_w hw 104 rfl)) (Via.of (own_w hw 69 rfl)) e0 F_a_mc (g := (mkF m 2 #[.val (.ref a1), .val (.ref r)] [(.ref a1), (.ref a1)])) rfl rfl (hb hby d12_2)
  refine own_go st1 ?_
  show own_Go p e below _ T1 (mkF m 5 #[.val (.ref a1), .val (.ref r)] [(.int (0 : Int32)), (.ref a1)])
  refine own_go (fun t_ k_ => XS.iconst X1.here hx rfl (hb hby d12_5) k_) ?_
  show own_Go p e below _ T1 (mkF m 6 #[.val (.ref a1), .val (.ref r)] [(.int (1 : Int32)), (.int (0 : Int32)), (.ref a1)])
  refine own_go (fun t_ k_ => XS.iadd X1.here hx rfl (hb hby d12_6) rfl k_) ?_
  show own_Go p e below _ T1 (mkF m 7 #[.val (.ref a1), .val (.ref r)] [(.int ((0 : Int32) + (1 : Int32))), (.ref a1)])
  rw [show ((0 : Int32) + (1 : Int32)) = (1 : Int32) from by decide]
  show own_Go p e below _ T1 (mkF m 7 #[.val (.ref a1), .val (.ref r)] [(.int (1 : Int32)), (.ref a1)])
  obtain ⟨T2, h2, L2, X2, N2, e2, W2, G2, st2⟩ := own_putF X1 hx hZ hown (v := (.int (1 : Int32))) (host := "") (Or.inl (own_w hw 104 rfl)) (Via.of (own_w hw 69 rfl)) e1 F_a_mc E_a (Or.inl (own_w hw 39 rfl)) (own_w hw 20 rfl) .int (by decide) rfl rfl N0 g1 (Ls := #[.val (.ref a1), .val (.ref r)]) (rest := []) (hb hby d12_7)
  have H2_elementData := F_a_ed.other W2 (Or.inr (slot_ne (Or.inl (own_w hw 42 rfl)) (Or.inl (own_w hw 39 rfl)) (by decide) (t := (.array (.object "java/lang/Object"))) (t' := .int) (by decide) (by decide)))
  have H2_size := F_a_sz.other W2 (Or.inr (slot_ne (Or.inl (own_w hw 92 rfl)) (Or.inl (own_w hw 39 rfl)) (by decide) (t := .int) (t' := .int) (by decide) (by decide)))
  have old2 := O0.wr W2 g1
  have kp2 := (Keep.refl h0 [a1]).wr W2 (Or.inl (List.mem_of_getElem? (i := 0) rfl))
  refine own_go st2 ?_
  show own_Go p e below _ T2 (mkF m 10 #[.val (.ref a1), .val (.ref r)] [])
  refine own_go (fun t_ k_ => XS.aloadN X2.here hx rfl (hb hby d12_10) rfl rfl k_) ?_
  show own_Go p e below _ T2 (mkF m 11 #[.val (.ref a1), .val (.ref r)] [(.ref a1)])
  refine own_go (fun t_ k_ => XS.aloadN X2.here hx rfl (hb hby d12_11) rfl rfl k_) ?_
  show own_Go p e below _ T2 (mkF m 12 #[.val (.ref a1), .val (.ref r)] [(.ref r), (.ref a1)])
  refine own_go (fun t_ k_ => XS.aloadN X2.here hx rfl (hb hby d12_12) rfl rfl k_) ?_
  show own_Go p e below _ T2 (mkF m 13 #[.val (.ref a1), .val (.ref r)] [(.ref a1), (.ref r), (.ref a1)])
  obtain ⟨T3, X3, e3, st3⟩ := getF X2 hx hZ hown (host := "") (Or.inl (own_w hw 41 rfl)) Via.refl e2 H2_elementData (g := (mkF m 13 #[.val (.ref a1), .val (.ref r)] [(.ref a1), (.ref r), (.ref a1)])) rfl rfl (hb hby d12_13)
  refine own_go st3 ?_
  show own_Go p e below _ T3 (mkF m 16 #[.val (.ref a1), .val (.ref r)] [(.ref da), (.ref r), (.ref a1)])
  refine own_go (fun t_ k_ => XS.aloadN X3.here hx rfl (hb hby d12_16) rfl rfl k_) ?_
  show own_Go p e below _ T3 (mkF m 17 #[.val (.ref a1), .val (.ref r)] [(.ref a1), (.ref da), (.ref r), (.ref a1)])
  obtain ⟨T4, X4, e4, st4⟩ := getF X3 hx hZ hown (host := "") (Or.inl (own_w hw 98 rfl)) Via.refl e3 H2_size (g := (mkF m 17 #[.val (.ref a1), .val (.ref r)] [(.ref a1), (.ref da), (.ref r), (.ref a1)])) rfl rfl (hb hby d12_17)
  refine own_go st4 ?_
  show own_Go p e below _ T4 (mkF m 20 #[.val (.ref a1), .val (.ref r)] [(.int (0 : Int32)), (.ref da), (.ref r), (.ref a1)])
  have kp_at := kp2
  obtain ⟨_, T5, L5, X5, ⟨rfl, ⟨ea5, kA5, E5, F5_ed, F5_sz, F5_mc, V5, O5, ge5, K5⟩, N5⟩, st5⟩ := own_callP X4 hx hZ (y := (⟨"java/util/ArrayList", "add", "(Ljava/lang/Object;[Ljava/lang/Object;I)V"⟩ : MethodName)) (b := a1) (argsL := [(.ref r), (.ref da), (.int (0 : Int32))]) (rest := []) (Ls := #[.val (.ref a1), .val (.ref r)]) hown (own_w hw 105 rfl) (own_w hw 107 rfl) (own_w hw 108 rfl) (own_w hw 106 rfl) (own_w hw 109 rfl) (own_w hw 21 rfl) (by decide) e4 (E_a.wr W2) (rmA3_0 l Z a0 hw [] a1 r da kd (1 : Int32)  h2 n0 (own_oldge old2) old2 S_D V_d (E_r.wr W2) g1 (E_a.wr W2) H2_elementData H2_size G2) 0 (by decide) (by decide) (by decide) (by decide) (by rw [hml]; rfl) (lenOf pd_12 rfl) rfl (Nat.le_of_eq rfl) (hb hby d12_20)
  have M5 := Fr.app N2 N5
  have kE5_a1 := (E_a.wr W2).keep K5
  have kE5_r := (E_r.wr W2).keep K5
  have old5 := old2.keep K5 (allS g1 all0)
  have kp5 := kp2.trans K5 (allS (Or.inl (List.mem_of_getElem? (i := 0) rfl)) all0)
  have sz_ea5 : h0.size ≤ ea5 := Nat.le_trans kp_at.1 ge5
  refine own_go st5 ?_
  show own_Go p e below _ T5 (mkF m 23 #[.val (.ref a1), .val (.ref r)] [])
  refine own_go (fun t_ k_ => XS.iconst X5.here hx rfl (hb hby d12_23) k_) ?_
  show own_Go p e below _ T5 (mkF m 24 #[.val (.ref a1), .val (.ref r)] [(.int (1 : Int32))])
  refine own_retZ X5 hx hlk hret (hb hby d12_24) (Or.inr rfl) (by decide) (by decide) ?_
  exact ⟨rfl, ⟨ea5, kA5, by exact ⟨E5, F5_ed, F5_sz, F5_mc, V5, O5, sz_ea5, kp5⟩⟩, M5⟩
set_option maxRecDepth 65536 in
set_option maxHeartbeats 40000000 in
theorem rmA3_1 (l : Launch) (Z : State) (a0 : Array Value) (hw : ∀ d ∈ tables_1, d.before a0 Z = true) (ws : List Jvm.Cond) (a1 r : Addr) (ea : Addr) (kA : ClassId) (mc : Int32) (u0 : Value) (h0 : Heap) (n0 : Nat) (Z0 : n0 ≤ h0.size) (O0 : Old Z n0 h0) (V_ea : Arv Z h0 ea kA (.object "java/lang/Object") (10 : Int32) [u0, .null, .null, .null, .null, .null, .null, .null, .null, .null] .null) (O_ea : Ovr Z kA "java/lang/Object") (ge_ea : n0 ≤ ea) (E_r : Exa Z h0 r "com/example/gridtally/gridtally/core/Row") (g1 : n0 ≤ a1) (E_a : Exa Z h0 a1 "java/util/ArrayList") (F_a_ed : Fld Z h0 a1 "java/util/ArrayList" "elementData" "[Ljava/lang/Object;" (.ref ea)) (F_a_sz : Fld Z h0 a1 "java/util/ArrayList" "size" "I" (.int (1 : Int32))) (F_a_mc : Fld Z h0 a1 "java/util/AbstractList" "modCount" "I" (.int mc)) :
    own_Met l Z (⟨"java/util/ArrayList", "add", "(Ljava/lang/Object;[Ljava/lang/Object;I)V"⟩ : MethodName) jdk_38_method_24_code 4 none ws ({ frames := 0, cells := 0, slots := 0, locals := 0 } : Room) #[(.ref a1), (.ref r), (.ref ea), (.int (1 : Int32))] h0 (fun v h L => v = none ∧ (Exa Z h a1 "java/util/ArrayList" ∧ Fld Z h a1 "java/util/ArrayList" "elementData" "[Ljava/lang/Object;" (.ref ea) ∧ Fld Z h a1 "java/util/ArrayList" "size" "I" (.int (2 : Int32)) ∧ Fld Z h a1 "java/util/AbstractList" "modCount" "I" (.int mc) ∧ Arv Z h ea kA (.object "java/lang/Object") (10 : Int32) [u0, (.ref r), .null, .null, .null, .null, .null, .null, .null, .null] .null ∧ Keep h0 h [a1, ea]) ∧ Fr n0 L) := by
  refine own_body (by first | exact plainFor_of_name pn_java_util_ArrayList | decide +kernel) ?_
  intro p e s m below meth c T0 X0 hx hby hml hret hlk hZ hown hnm e0
  have hown : s.vm.findClass "java/util/ArrayList" = some m.cls := hown
  have hnm : meth.name = "add" := hnm
  have N0 := Fr.nil n0
  rw [ef_13 m a1 r ea (1 : Int32)]
  show own_Go p e below _ T0 (mkF m 0 #[.val (.ref a1), .val (.ref r), .val (.ref ea), .val (.int (1 : Int32))] [])
  have ne_a1_ea : a1 ≠ ea := Exa.neArv E_a V_ea (own_w hw 20 rfl)
  have ne_ea_a1 := Ne.symm ne_a1_ea
  refine own_go (fun t_ k_ => XS.iloadN X0.here hx rfl (hb hby d13_0) rfl k_) ?_
  show own_Go p e below _ T0 (mkF m 1 #[.val (.ref a1), .val (.ref r), .val (.ref ea), .val (.int (1 : Int32))] [(.int (1 : Int32))])
  refine own_go (fun t_ k_ => XS.aloadN X0.here hx rfl (hb hby d13_1) rfl rfl k_) ?_
  show own_Go p e below _ T0 (mkF m 2 #[.val (.ref a1), .val (.ref r), .val (.ref ea), .val (.int (1 : Int32))] [(.ref ea), (.int (1 : Int32))])
  refine own_go (own_len X0 hx hZ e0 (Ls := #[.val (.ref a1), .val (.ref r), .val (.ref ea), .val (.int (1 : Int32))]) (rest := [(.int (1 : Int32))]) V_ea (hb hby d13_2)) ?_
  show own_Go p e below _ T0 (mkF m 3 #[.val (.ref a1), .val (.ref r), .val (.ref ea), .val (.int (1 : Int32))] [(.int (10 : Int32)), (.int (1 : Int32))])
  refine own_go (fun t_ k_ => XS.icmpYes X0.here hx rfl (pc0 := 3) (pc' := 11) rfl (hb hby d13_3) rfl (XT.ii_ne_t (by decide)) (by decide) (by decide) k_) ?_
  show own_Go p e below _ T0 (mkF m 11 #[.val (.ref a1), .val (.ref r), .val (.ref ea), .val (.int (1 : Int32))] [])
  refine own_go (fun t_ k_ => XS.aloadN X0.here hx rfl (hb hby d13_11) rfl rfl k_) ?_
  show own_Go p e below _ T0 (mkF m 12 #[.val (.ref a1), .val (.ref r), .val (.ref ea), .val (.int (1 : Int32))] [(.ref ea)])
  refine own_go (fun t_ k_ => XS.iloadN X0.here hx rfl (hb hby d13_12) rfl k_) ?_
  show own_Go p e below _ T0 (mkF m 13 #[.val (.ref a1), .val (.ref r), .val (.ref ea), .val (.int (1 : Int32))] [(.int (1 : Int32)), (.ref ea)])
  refine own_go (fun t_ k_ => XS.aloadN X0.here hx rfl (hb hby d13_13) rfl rfl k_) ?_
  show own_Go p e below _ T0 (mkF m 14 #[.val (.ref a1), .val (.ref r), .val (.ref ea), .val (.int (1 : Int32))] [(.ref r), (.int (1 : Int32)), (.ref ea)])
  obtain ⟨T1, h1, L1, X1, N1, e1, W1, V1, st1⟩ := own_stR X0 hx hZ e0 (j := (1 : Int32)) (vs' := [u0, (.ref r), .null, .null, .null, .null, .null, .null, .null, .null]) V_ea O_ea (Ins.of_exa E_r (own_w hw 126 rfl)) (by decide) 1 rfl (Nat.le_of_ble_eq_true rfl) rfl N0 ge_ea (Ls := #[.val (.ref a1), .val (.ref r), .val (.ref ea), .val (.int (1 : Int32))]) (rest := []) (hb hby d13_14)
  have old1 := O0.wr W1 ge_ea
  have H1_a1_elementData := F_a_ed.other W1 (Or.inl ne_a1_ea)
  have H1_a1_size := F_a_sz.other W1 (Or.inl ne_a1_ea)
  have H1_a1_modCount := F_a_mc.other W1 (Or.inl ne_a1_ea)
  have kp1 := (Keep.refl h0 [a1, ea]).wr W1 (Or.inl (List.mem_of_getElem? (i := 1) rfl))
  refine own_go st1 ?_
  show own_Go p e below _ T1 (mkF m 15 #[.val (.ref a1), .val (.ref r), .val (.ref ea), .val (.int (1 : Int32))] [])
  refine own_go (fun t_ k_ => XS.aloadN X1.here hx rfl (hb hby d13_15) rfl rfl k_) ?_
  show own_Go p e below _ T1 (mkF m 16 #[.val (.ref a1), .val (.ref r), .val (.ref ea), .val (.int (1 : Int32))] [(.ref a1)])
  refine own_go (fun t_ k_ => XS.iloadN X1.here hx rfl (hb hby d13_16) rfl k_) ?_
  show own_Go p e below _ T1 (mkF m 17 #[.val (.ref a1), .val (.ref r), .val (.ref ea), .val (.int (1 : Int32))] [(.int (1 : Int32)), (.ref a1)])
  refine own_go (fun t_ k_ => XS.iconst X1.here hx rfl (hb hby d13_17) k_) ?_
  show own_Go p e below _ T1 (mkF m 18 #[.val (.ref a1), .val (.ref r), .val (.ref ea), .val (.int (1 : Int32))] [(.int (1 : Int32)), (.int (1 : Int32)), (.ref a1)])
  refine own_go (fun t_ k_ => XS.iadd X1.here hx rfl (hb hby d13_18) rfl k_) ?_
  show own_Go p e below _ T1 (mkF m 19 #[.val (.ref a1), .val (.ref r), .val (.ref ea), .val (.int (1 : Int32))] [(.int ((1 : Int32) + (1 : Int32))), (.ref a1)])
  rw [show ((1 : Int32) + (1 : Int32)) = (2 : Int32) from by decide]
  show own_Go p e below _ T1 (mkF m 19 #[.val (.ref a1), .val (.ref r), .val (.ref ea), .val (.int (1 : Int32))] [(.int (2 : Int32)), (.ref a1)])
  obtain ⟨T2, h2, L2, X2, N2, e2, W2, G2, st2⟩ := own_putF X1 hx hZ hown (v := (.int (2 : Int32))) (host := "") (Or.inl (own_w hw 98 rfl)) Via.refl e1 H1_a1_size (E_a.wr W1) (Or.inl (own_w hw 92 rfl)) (own_w hw 20 rfl) .int (by decide) rfl rfl N1 g1 (Ls := #[.val (.ref a1), .val (.ref r), .val (.ref ea), .val (.int (1 : Int32))]) (rest := []) (hb hby d13_19)
  have H2_elementData := H1_a1_elementData.other W2 (Or.inr (slot_ne (Or.inl (own_w hw 42 rfl)) (Or.inl (own_w hw 92 rfl)) (by decide) (t := (.array (.object "java/lang/Object"))) (t' := .int) (by decide) (by decide)))
  have H2_modCount := H1_a1_modCount.other W2 (Or.inr (slot_ne (Or.inl (own_w hw 39 rfl)) (Or.inl (own_w hw 92 rfl)) (by decide) (t := .int) (t' := .int) (by decide) (by decide)))
  have old2 := old1.wr W2 g1
  have kp2 := kp1.wr W2 (Or.inl (List.mem_of_getElem? (i := 0) rfl))
  refine own_go st2 ?_
  show own_Go p e below _ T2 (mkF m 22 #[.val (.ref a1), .val (.ref r), .val (.ref ea), .val (.int (1 : Int32))] [])
  refine own_retV X2 hx hlk hret (hb hby d13_22) (by decide) (by decide) ?_
  exact ⟨rfl, by rw [e2]; exact ⟨((E_a.wr W1).wr W2), H2_elementData, G2, H2_modCount, (V1.other W2 ne_ea_a1), kp2⟩, N2⟩
set_option maxRecDepth 65536 in
set_option maxHeartbeats 40000000 in
theorem rmAd_1 (l : Launch) (Z : State) (a0 : Array Value) (hw : ∀ d ∈ tables_1, d.before a0 Z = true) (ws : List Jvm.Cond) (a1 r : Addr) (ea : Addr) (kA : ClassId) (u0 : Value) (h0 : Heap) (n0 : Nat) (Z0 : n0 ≤ h0.size) (O0 : Old Z n0 h0) (V_ea : Arv Z h0 ea kA (.object "java/lang/Object") (10 : Int32) [u0, .null, .null, .null, .null, .null, .null, .null, .null, .null] .null) (O_ea : Ovr Z kA "java/lang/Object") (ge_ea : n0 ≤ ea) (E_r : Exa Z h0 r "com/example/gridtally/gridtally/core/Row") (g1 : n0 ≤ a1) (E_a : Exa Z h0 a1 "java/util/ArrayList") (F_a_ed : Fld Z h0 a1 "java/util/ArrayList" "elementData" "[Ljava/lang/Object;" (.ref ea)) (F_a_sz : Fld Z h0 a1 "java/util/ArrayList" "size" "I" (.int (1 : Int32))) (F_a_mc : Fld Z h0 a1 "java/util/AbstractList" "modCount" "I" (.int (1 : Int32))) :
    own_Met l Z (⟨"java/util/ArrayList", "add", "(Ljava/lang/Object;)Z"⟩ : MethodName) jdk_38_method_25_code 2 (some .boolean) ws ({ frames := 1, cells := 0, slots := 0, locals := 15 } : Room) #[(.ref a1), (.ref r)] h0 (fun v h L => v = some (.int 1) ∧ (Exa Z h a1 "java/util/ArrayList" ∧ Fld Z h a1 "java/util/ArrayList" "elementData" "[Ljava/lang/Object;" (.ref ea) ∧ Fld Z h a1 "java/util/ArrayList" "size" "I" (.int (2 : Int32)) ∧ Fld Z h a1 "java/util/AbstractList" "modCount" "I" (.int (2 : Int32)) ∧ Arv Z h ea kA (.object "java/lang/Object") (10 : Int32) [u0, (.ref r), .null, .null, .null, .null, .null, .null, .null, .null] .null ∧ Keep h0 h [a1, ea]) ∧ Fr n0 L) := by
  refine own_body (by first | exact plainFor_of_name pn_java_util_ArrayList | decide +kernel) ?_
  intro p e s m below meth c T0 X0 hx hby hml hret hlk hZ hown hnm e0
  have hown : s.vm.findClass "java/util/ArrayList" = some m.cls := hown
  have hnm : meth.name = "add" := hnm
  have N0 := Fr.nil n0
  rw [ef_12 m a1 r]
  show own_Go p e below _ T0 (mkF m 0 #[.val (.ref a1), .val (.ref r)] [])
  have ne_a1_ea : a1 ≠ ea := Exa.neArv E_a V_ea (own_w hw 20 rfl)
  have ne_ea_a1 := Ne.symm ne_a1_ea
  refine own_go (fun t_ k_ => XS.aloadN X0.here hx rfl (hb hby d12_0) rfl rfl k_) ?_
  show own_Go p e below _ T0 (mkF m 1 #[.val (.ref a1), .val (.ref r)] [(.ref a1)])
  refine own_go (fun t_ k_ => XS.dup X0.here hx rfl (hb hby d12_1) rfl rfl k_) ?_
  show own_Go p e below _ T0 (mkF m 2 #[.val (.ref a1), .val (.ref r)] [(.ref a1), (.ref a1)])
  obtain ⟨T1, X1, e1, st1⟩ := getF X0 hx hZ hown (host := "") (Or.inl (own_w hw 104 rfl)) (Via.of (own_w hw 69 rfl)) e0 F_a_mc (g := (mkF m 2 #[.val (.ref a1), .val (.ref r)] [(.ref a1), (.ref a1)])) rfl rfl (hb hby d12_2)
  refine own_go st1 ?_
  show own_Go p e below _ T1 (mkF m 5 #[.val (.ref a1), .val (.ref r)] [(.int (1 : Int32)), (.ref a1)])
  refine own_go (fun t_ k_ => XS.iconst X1.here hx rfl (hb hby d12_5) k_) ?_
  show own_Go p e below _ T1 (mkF m 6 #[.val (.ref a1), .val (.ref r)] [(.int (1 : Int32)), (.int (1 : Int32)), (.ref a1)])
  refine own_go (fun t_ k_ => XS.iadd X1.here hx rfl (hb hby d12_6) rfl k_) ?_
  show own_Go p e below _ T1 (mkF m 7 #[.val (.ref a1), .val (.ref r)] [(.int ((1 : Int32) + (1 : Int32))), (.ref a1)])
  rw [show ((1 : Int32) + (1 : Int32)) = (2 : Int32) from by decide]
  show own_Go p e below _ T1 (mkF m 7 #[.val (.ref a1), .val (.ref r)] [(.int (2 : Int32)), (.ref a1)])
  obtain ⟨T2, h2, L2, X2, N2, e2, W2, G2, st2⟩ := own_putF X1 hx hZ hown (v := (.int (2 : Int32))) (host := "") (Or.inl (own_w hw 104 rfl)) (Via.of (own_w hw 69 rfl)) e1 F_a_mc E_a (Or.inl (own_w hw 39 rfl)) (own_w hw 20 rfl) .int (by decide) rfl rfl N0 g1 (Ls := #[.val (.ref a1), .val (.ref r)]) (rest := []) (hb hby d12_7)
  have H2_elementData := F_a_ed.other W2 (Or.inr (slot_ne (Or.inl (own_w hw 42 rfl)) (Or.inl (own_w hw 39 rfl)) (by decide) (t := (.array (.object "java/lang/Object"))) (t' := .int) (by decide) (by decide)))
  have H2_size := F_a_sz.other W2 (Or.inr (slot_ne (Or.inl (own_w hw 92 rfl)) (Or.inl (own_w hw 39 rfl)) (by decide) (t := .int) (t' := .int) (by decide) (by decide)))
  have old2 := O0.wr W2 g1
  have kp2 := (Keep.refl h0 [a1, ea]).wr W2 (Or.inl (List.mem_of_getElem? (i := 0) rfl))
  refine own_go st2 ?_
  show own_Go p e below _ T2 (mkF m 10 #[.val (.ref a1), .val (.ref r)] [])
  refine own_go (fun t_ k_ => XS.aloadN X2.here hx rfl (hb hby d12_10) rfl rfl k_) ?_
  show own_Go p e below _ T2 (mkF m 11 #[.val (.ref a1), .val (.ref r)] [(.ref a1)])
  refine own_go (fun t_ k_ => XS.aloadN X2.here hx rfl (hb hby d12_11) rfl rfl k_) ?_
  show own_Go p e below _ T2 (mkF m 12 #[.val (.ref a1), .val (.ref r)] [(.ref r), (.ref a1)])
  refine own_go (fun t_ k_ => XS.aloadN X2.here hx rfl (hb hby d12_12) rfl rfl k_) ?_
  show own_Go p e below _ T2 (mkF m 13 #[.val (.ref a1), .val (.ref r)] [(.ref a1), (.ref r), (.ref a1)])
  obtain ⟨T3, X3, e3, st3⟩ := getF X2 hx hZ hown (host := "") (Or.inl (own_w hw 41 rfl)) Via.refl e2 H2_elementData (g := (mkF m 13 #[.val (.ref a1), .val (.ref r)] [(.ref a1), (.ref r), (.ref a1)])) rfl rfl (hb hby d12_13)
  refine own_go st3 ?_
  show own_Go p e below _ T3 (mkF m 16 #[.val (.ref a1), .val (.ref r)] [(.ref ea), (.ref r), (.ref a1)])
  refine own_go (fun t_ k_ => XS.aloadN X3.here hx rfl (hb hby d12_16) rfl rfl k_) ?_
  show own_Go p e below _ T3 (mkF m 17 #[.val (.ref a1), .val (.ref r)] [(.ref a1), (.ref ea), (.ref r), (.ref a1)])
  obtain ⟨T4, X4, e4, st4⟩ := getF X3 hx hZ hown (host := "") (Or.inl (own_w hw 98 rfl)) Via.refl e3 H2_size (g := (mkF m 17 #[.val (.ref a1), .val (.ref r)] [(.ref a1), (.ref ea), (.ref r), (.ref a1)])) rfl rfl (hb hby d12_17)
  refine own_go st4 ?_
  show own_Go p e below _ T4 (mkF m 20 #[.val (.ref a1), .val (.ref r)] [(.int (1 : Int32)), (.ref ea), (.ref r), (.ref a1)])
  have kp_at := kp2
  obtain ⟨_, T5, L5, X5, ⟨rfl, ⟨E5, F5_ed, F5_sz, F5_mc, V5, K5⟩, N5⟩, st5⟩ := own_callP X4 hx hZ (y := (⟨"java/util/ArrayList", "add", "(Ljava/lang/Object;[Ljava/lang/Object;I)V"⟩ : MethodName)) (b := a1) (argsL := [(.ref r), (.ref ea), (.int (1 : Int32))]) (rest := []) (Ls := #[.val (.ref a1), .val (.ref r)]) hown (own_w hw 105 rfl) (own_w hw 107 rfl) (own_w hw 108 rfl) (own_w hw 106 rfl) (own_w hw 109 rfl) (own_w hw 21 rfl) (by decide) e4 (E_a.wr W2) (rmA3_1 l Z a0 hw [] a1 r ea kA (2 : Int32) u0 h2 n0 (own_oldge old2) old2 (V_ea.other W2 ne_ea_a1) O_ea ge_ea (E_r.wr W2) g1 (E_a.wr W2) H2_elementData H2_size G2) 0 (by decide) (by decide) (by decide) (by decide) (by rw [hml]; rfl) (lenOf pd_12 rfl) rfl (Nat.le_of_eq rfl) (hb hby d12_20)
  have M5 := Fr.app N2 N5
  have kE5_a1 := (E_a.wr W2).keep K5
  have kE5_r := (E_r.wr W2).keep K5
  have old5 := old2.keep K5 (allS g1 (allS ge_ea all0))
  have kp5 := kp2.trans K5 (allS (Or.inl (List.mem_of_getElem? (i := 0) rfl)) (allS (Or.inl (List.mem_of_getElem? (i := 1) rfl)) all0))
  refine own_go st5 ?_
  show own_Go p e below _ T5 (mkF m 23 #[.val (.ref a1), .val (.ref r)] [])
  refine own_go (fun t_ k_ => XS.iconst X5.here hx rfl (hb hby d12_23) k_) ?_
  show own_Go p e below _ T5 (mkF m 24 #[.val (.ref a1), .val (.ref r)] [(.int (1 : Int32))])
  refine own_retZ X5 hx hlk hret (hb hby d12_24) (Or.inr rfl) (by decide) (by decide) ?_
  exact ⟨rfl, by exact ⟨E5, F5_ed, F5_sz, F5_mc, V5, kp5⟩, M5⟩
set_option maxRecDepth 65536 in
set_option maxHeartbeats 40000000 in
theorem rmA3_2 (l : Launch) (Z : State) (a0 : Array Value) (hw : ∀ d ∈ tables_1, d.before a0 Z = true) (ws : List Jvm.Cond) (a1 r : Addr) (ea : Addr) (kA : ClassId) (mc : Int32) (u0 : Value) (u1 : Value) (h0 : Heap) (n0 : Nat) (Z0 : n0 ≤ h0.size) (O0 : Old Z n0 h0) (V_ea : Arv Z h0 ea kA (.object "java/lang/Object") (10 : Int32) [u0, u1, .null, .null, .null, .null, .null, .null, .null, .null] .null) (O_ea : Ovr Z kA "java/lang/Object") (ge_ea : n0 ≤ ea) (E_r : Exa Z h0 r "com/example/gridtally/gridtally/core/Row") (g1 : n0 ≤ a1) (E_a : Exa Z h0 a1 "java/util/ArrayList") (F_a_ed : Fld Z h0 a1 "java/util/ArrayList" "elementData" "[Ljava/lang/Object;" (.ref ea)) (F_a_sz : Fld Z h0 a1 "java/util/ArrayList" "size" "I" (.int (2 : Int32))) (F_a_mc : Fld Z h0 a1 "java/util/AbstractList" "modCount" "I" (.int mc)) :
    own_Met l Z (⟨"java/util/ArrayList", "add", "(Ljava/lang/Object;[Ljava/lang/Object;I)V"⟩ : MethodName) jdk_38_method_24_code 4 none ws ({ frames := 0, cells := 0, slots := 0, locals := 0 } : Room) #[(.ref a1), (.ref r), (.ref ea), (.int (2 : Int32))] h0 (fun v h L => v = none ∧ (Exa Z h a1 "java/util/ArrayList" ∧ Fld Z h a1 "java/util/ArrayList" "elementData" "[Ljava/lang/Object;" (.ref ea) ∧ Fld Z h a1 "java/util/ArrayList" "size" "I" (.int (3 : Int32)) ∧ Fld Z h a1 "java/util/AbstractList" "modCount" "I" (.int mc) ∧ Arv Z h ea kA (.object "java/lang/Object") (10 : Int32) [u0, u1, (.ref r), .null, .null, .null, .null, .null, .null, .null] .null ∧ Keep h0 h [a1, ea]) ∧ Fr n0 L) := by
  refine own_body (by first | exact plainFor_of_name pn_java_util_ArrayList | decide +kernel) ?_
  intro p e s m below meth c T0 X0 hx hby hml hret hlk hZ hown hnm e0
  have hown : s.vm.findClass "java/util/ArrayList" = some m.cls := hown
  have hnm : meth.name = "add" := hnm
  have N0 := Fr.nil n0
  rw [ef_13 m a1 r ea (2 : Int32)]
  show own_Go p e below _ T0 (mkF m 0 #[.val (.ref a1), .val (.ref r), .val (.ref ea), .val (.int (2 : Int32))] [])
  have ne_a1_ea : a1 ≠ ea := Exa.neArv E_a V_ea (own_w hw 20 rfl)
  have ne_ea_a1 := Ne.symm ne_a1_ea
  refine own_go (fun t_ k_ => XS.iloadN X0.here hx rfl (hb hby d13_0) rfl k_) ?_
  show own_Go p e below _ T0 (mkF m 1 #[.val (.ref a1), .val (.ref r), .val (.ref ea), .val (.int (2 : Int32))] [(.int (2 : Int32))])
  refine own_go (fun t_ k_ => XS.aloadN X0.here hx rfl (hb hby d13_1) rfl rfl k_) ?_
  show own_Go p e below _ T0 (mkF m 2 #[.val (.ref a1), .val (.ref r), .val (.ref ea), .val (.int (2 : Int32))] [(.ref ea), (.int (2 : Int32))])
  refine own_go (own_len X0 hx hZ e0 (Ls := #[.val (.ref a1), .val (.ref r), .val (.ref ea), .val (.int (2 : Int32))]) (rest := [(.int (2 : Int32))]) V_ea (hb hby d13_2)) ?_
  show own_Go p e below _ T0 (mkF m 3 #[.val (.ref a1), .val (.ref r), .val (.ref ea), .val (.int (2 : Int32))] [(.int (10 : Int32)), (.int (2 : Int32))])
  refine own_go (fun t_ k_ => XS.icmpYes X0.here hx rfl (pc0 := 3) (pc' := 11) rfl (hb hby d13_3) rfl (XT.ii_ne_t (by decide)) (by decide) (by decide) k_) ?_
  show own_Go p e below _ T0 (mkF m 11 #[.val (.ref a1), .val (.ref r), .val (.ref ea), .val (.int (2 : Int32))] [])
  refine own_go (fun t_ k_ => XS.aloadN X0.here hx rfl (hb hby d13_11) rfl rfl k_) ?_
  show own_Go p e below _ T0 (mkF m 12 #[.val (.ref a1), .val (.ref r), .val (.ref ea), .val (.int (2 : Int32))] [(.ref ea)])
  refine own_go (fun t_ k_ => XS.iloadN X0.here hx rfl (hb hby d13_12) rfl k_) ?_
  show own_Go p e below _ T0 (mkF m 13 #[.val (.ref a1), .val (.ref r), .val (.ref ea), .val (.int (2 : Int32))] [(.int (2 : Int32)), (.ref ea)])
  refine own_go (fun t_ k_ => XS.aloadN X0.here hx rfl (hb hby d13_13) rfl rfl k_) ?_
  show own_Go p e below _ T0 (mkF m 14 #[.val (.ref a1), .val (.ref r), .val (.ref ea), .val (.int (2 : Int32))] [(.ref r), (.int (2 : Int32)), (.ref ea)])
  obtain ⟨T1, h1, L1, X1, N1, e1, W1, V1, st1⟩ := own_stR X0 hx hZ e0 (j := (2 : Int32)) (vs' := [u0, u1, (.ref r), .null, .null, .null, .null, .null, .null, .null]) V_ea O_ea (Ins.of_exa E_r (own_w hw 126 rfl)) (by decide) 2 rfl (Nat.le_of_ble_eq_true rfl) rfl N0 ge_ea (Ls := #[.val (.ref a1), .val (.ref r), .val (.ref ea), .val (.int (2 : Int32))]) (rest := []) (hb hby d13_14)
  have old1 := O0.wr W1 ge_ea
  have H1_a1_elementData := F_a_ed.other W1 (Or.inl ne_a1_ea)
  have H1_a1_size := F_a_sz.other W1 (Or.inl ne_a1_ea)
  have H1_a1_modCount := F_a_mc.other W1 (Or.inl ne_a1_ea)
  have kp1 := (Keep.refl h0 [a1, ea]).wr W1 (Or.inl (List.mem_of_getElem? (i := 1) rfl))
  refine own_go st1 ?_
  show own_Go p e below _ T1 (mkF m 15 #[.val (.ref a1), .val (.ref r), .val (.ref ea), .val (.int (2 : Int32))] [])
  refine own_go (fun t_ k_ => XS.aloadN X1.here hx rfl (hb hby d13_15) rfl rfl k_) ?_
  show own_Go p e below _ T1 (mkF m 16 #[.val (.ref a1), .val (.ref r), .val (.ref ea), .val (.int (2 : Int32))] [(.ref a1)])
  refine own_go (fun t_ k_ => XS.iloadN X1.here hx rfl (hb hby d13_16) rfl k_) ?_
  show own_Go p e below _ T1 (mkF m 17 #[.val (.ref a1), .val (.ref r), .val (.ref ea), .val (.int (2 : Int32))] [(.int (2 : Int32)), (.ref a1)])
  refine own_go (fun t_ k_ => XS.iconst X1.here hx rfl (hb hby d13_17) k_) ?_
  show own_Go p e below _ T1 (mkF m 18 #[.val (.ref a1), .val (.ref r), .val (.ref ea), .val (.int (2 : Int32))] [(.int (1 : Int32)), (.int (2 : Int32)), (.ref a1)])
  refine own_go (fun t_ k_ => XS.iadd X1.here hx rfl (hb hby d13_18) rfl k_) ?_
  show own_Go p e below _ T1 (mkF m 19 #[.val (.ref a1), .val (.ref r), .val (.ref ea), .val (.int (2 : Int32))] [(.int ((2 : Int32) + (1 : Int32))), (.ref a1)])
  rw [show ((2 : Int32) + (1 : Int32)) = (3 : Int32) from by decide]
  show own_Go p e below _ T1 (mkF m 19 #[.val (.ref a1), .val (.ref r), .val (.ref ea), .val (.int (2 : Int32))] [(.int (3 : Int32)), (.ref a1)])
  obtain ⟨T2, h2, L2, X2, N2, e2, W2, G2, st2⟩ := own_putF X1 hx hZ hown (v := (.int (3 : Int32))) (host := "") (Or.inl (own_w hw 98 rfl)) Via.refl e1 H1_a1_size (E_a.wr W1) (Or.inl (own_w hw 92 rfl)) (own_w hw 20 rfl) .int (by decide) rfl rfl N1 g1 (Ls := #[.val (.ref a1), .val (.ref r), .val (.ref ea), .val (.int (2 : Int32))]) (rest := []) (hb hby d13_19)
  have H2_elementData := H1_a1_elementData.other W2 (Or.inr (slot_ne (Or.inl (own_w hw 42 rfl)) (Or.inl (own_w hw 92 rfl)) (by decide) (t := (.array (.object "java/lang/Object"))) (t' := .int) (by decide) (by decide)))
  have H2_modCount := H1_a1_modCount.other W2 (Or.inr (slot_ne (Or.inl (own_w hw 39 rfl)) (Or.inl (own_w hw 92 rfl)) (by decide) (t := .int) (t' := .int) (by decide) (by decide)))
  have old2 := old1.wr W2 g1
  have kp2 := kp1.wr W2 (Or.inl (List.mem_of_getElem? (i := 0) rfl))
  refine own_go st2 ?_
  show own_Go p e below _ T2 (mkF m 22 #[.val (.ref a1), .val (.ref r), .val (.ref ea), .val (.int (2 : Int32))] [])
  refine own_retV X2 hx hlk hret (hb hby d13_22) (by decide) (by decide) ?_
  exact ⟨rfl, by rw [e2]; exact ⟨((E_a.wr W1).wr W2), H2_elementData, G2, H2_modCount, (V1.other W2 ne_ea_a1), kp2⟩, N2⟩
set_option maxRecDepth 65536 in
set_option maxHeartbeats 40000000 in
theorem rmAd_2 (l : Launch) (Z : State) (a0 : Array Value) (hw : ∀ d ∈ tables_1, d.before a0 Z = true) (ws : List Jvm.Cond) (a1 r : Addr) (ea : Addr) (kA : ClassId) (u0 : Value) (u1 : Value) (h0 : Heap) (n0 : Nat) (Z0 : n0 ≤ h0.size) (O0 : Old Z n0 h0) (V_ea : Arv Z h0 ea kA (.object "java/lang/Object") (10 : Int32) [u0, u1, .null, .null, .null, .null, .null, .null, .null, .null] .null) (O_ea : Ovr Z kA "java/lang/Object") (ge_ea : n0 ≤ ea) (E_r : Exa Z h0 r "com/example/gridtally/gridtally/core/Row") (g1 : n0 ≤ a1) (E_a : Exa Z h0 a1 "java/util/ArrayList") (F_a_ed : Fld Z h0 a1 "java/util/ArrayList" "elementData" "[Ljava/lang/Object;" (.ref ea)) (F_a_sz : Fld Z h0 a1 "java/util/ArrayList" "size" "I" (.int (2 : Int32))) (F_a_mc : Fld Z h0 a1 "java/util/AbstractList" "modCount" "I" (.int (2 : Int32))) :
    own_Met l Z (⟨"java/util/ArrayList", "add", "(Ljava/lang/Object;)Z"⟩ : MethodName) jdk_38_method_25_code 2 (some .boolean) ws ({ frames := 1, cells := 0, slots := 0, locals := 15 } : Room) #[(.ref a1), (.ref r)] h0 (fun v h L => v = some (.int 1) ∧ (Exa Z h a1 "java/util/ArrayList" ∧ Fld Z h a1 "java/util/ArrayList" "elementData" "[Ljava/lang/Object;" (.ref ea) ∧ Fld Z h a1 "java/util/ArrayList" "size" "I" (.int (3 : Int32)) ∧ Fld Z h a1 "java/util/AbstractList" "modCount" "I" (.int (3 : Int32)) ∧ Arv Z h ea kA (.object "java/lang/Object") (10 : Int32) [u0, u1, (.ref r), .null, .null, .null, .null, .null, .null, .null] .null ∧ Keep h0 h [a1, ea]) ∧ Fr n0 L) := by
  refine own_body (by first | exact plainFor_of_name pn_java_util_ArrayList | decide +kernel) ?_
  intro p e s m below meth c T0 X0 hx hby hml hret hlk hZ hown hnm e0
  have hown : s.vm.findClass "java/util/ArrayList" = some m.cls := hown
  have hnm : meth.name = "add" := hnm
  have N0 := Fr.nil n0
  rw [ef_12 m a1 r]
  show own_Go p e below _ T0 (mkF m 0 #[.val (.ref a1), .val (.ref r)] [])
  have ne_a1_ea : a1 ≠ ea := Exa.neArv E_a V_ea (own_w hw 20 rfl)
  have ne_ea_a1 := Ne.symm ne_a1_ea
  refine own_go (fun t_ k_ => XS.aloadN X0.here hx rfl (hb hby d12_0) rfl rfl k_) ?_
  show own_Go p e below _ T0 (mkF m 1 #[.val (.ref a1), .val (.ref r)] [(.ref a1)])
  refine own_go (fun t_ k_ => XS.dup X0.here hx rfl (hb hby d12_1) rfl rfl k_) ?_
  show own_Go p e below _ T0 (mkF m 2 #[.val (.ref a1), .val (.ref r)] [(.ref a1), (.ref a1)])
  obtain ⟨T1, X1, e1, st1⟩ := getF X0 hx hZ hown (host := "") (Or.inl (own_w hw 104 rfl)) (Via.of (own_w hw 69 rfl)) e0 F_a_mc (g := (mkF m 2 #[.val (.ref a1), .val (.ref r)] [(.ref a1), (.ref a1)])) rfl rfl (hb hby d12_2)
  refine own_go st1 ?_
  show own_Go p e below _ T1 (mkF m 5 #[.val (.ref a1), .val (.ref r)] [(.int (2 : Int32)), (.ref a1)])
  refine own_go (fun t_ k_ => XS.iconst X1.here hx rfl (hb hby d12_5) k_) ?_
  show own_Go p e below _ T1 (mkF m 6 #[.val (.ref a1), .val (.ref r)] [(.int (1 : Int32)), (.int (2 : Int32)), (.ref a1)])
  refine own_go (fun t_ k_ => XS.iadd X1.here hx rfl (hb hby d12_6) rfl k_) ?_
  show own_Go p e below _ T1 (mkF m 7 #[.val (.ref a1), .val (.ref r)] [(.int ((2 : Int32) + (1 : Int32))), (.ref a1)])
  rw [show ((2 : Int32) + (1 : Int32)) = (3 : Int32) from by decide]
  show own_Go p e below _ T1 (mkF m 7 #[.val (.ref a1), .val (.ref r)] [(.int (3 : Int32)), (.ref a1)])
  obtain ⟨T2, h2, L2, X2, N2, e2, W2, G2, st2⟩ := own_putF X1 hx hZ hown (v := (.int (3 : Int32))) (host := "") (Or.inl (own_w hw 104 rfl)) (Via.of (own_w hw 69 rfl)) e1 F_a_mc E_a (Or.inl (own_w hw 39 rfl)) (own_w hw 20 rfl) .int (by decide) rfl rfl N0 g1 (Ls := #[.val (.ref a1), .val (.ref r)]) (rest := []) (hb hby d12_7)
  have H2_elementData := F_a_ed.other W2 (Or.inr (slot_ne (Or.inl (own_w hw 42 rfl)) (Or.inl (own_w hw 39 rfl)) (by decide) (t := (.array (.object "java/lang/Object"))) (t' := .int) (by decide) (by decide)))
  have H2_size := F_a_sz.other W2 (Or.inr (slot_ne (Or.inl (own_w hw 92 rfl)) (Or.inl (own_w hw 39 rfl)) (by decide) (t := .int) (t' := .int) (by decide) (by decide)))
  have old2 := O0.wr W2 g1
  have kp2 := (Keep.refl h0 [a1, ea]).wr W2 (Or.inl (List.mem_of_getElem? (i := 0) rfl))
  refine own_go st2 ?_
  show own_Go p e below _ T2 (mkF m 10 #[.val (.ref a1), .val (.ref r)] [])
  refine own_go (fun t_ k_ => XS.aloadN X2.here hx rfl (hb hby d12_10) rfl rfl k_) ?_
  show own_Go p e below _ T2 (mkF m 11 #[.val (.ref a1), .val (.ref r)] [(.ref a1)])
  refine own_go (fun t_ k_ => XS.aloadN X2.here hx rfl (hb hby d12_11) rfl rfl k_) ?_
  show own_Go p e below _ T2 (mkF m 12 #[.val (.ref a1), .val (.ref r)] [(.ref r), (.ref a1)])
  refine own_go (fun t_ k_ => XS.aloadN X2.here hx rfl (hb hby d12_12) rfl rfl k_) ?_
  show own_Go p e below _ T2 (mkF m 13 #[.val (.ref a1), .val (.ref r)] [(.ref a1), (.ref r), (.ref a1)])
  obtain ⟨T3, X3, e3, st3⟩ := getF X2 hx hZ hown (host := "") (Or.inl (own_w hw 41 rfl)) Via.refl e2 H2_elementData (g := (mkF m 13 #[.val (.ref a1), .val (.ref r)] [(.ref a1), (.ref r), (.ref a1)])) rfl rfl (hb hby d12_13)
  refine own_go st3 ?_
  show own_Go p e below _ T3 (mkF m 16 #[.val (.ref a1), .val (.ref r)] [(.ref ea), (.ref r), (.ref a1)])
  refine own_go (fun t_ k_ => XS.aloadN X3.here hx rfl (hb hby d12_16) rfl rfl k_) ?_
  show own_Go p e below _ T3 (mkF m 17 #[.val (.ref a1), .val (.ref r)] [(.ref a1), (.ref ea), (.ref r), (.ref a1)])
  obtain ⟨T4, X4, e4, st4⟩ := getF X3 hx hZ hown (host := "") (Or.inl (own_w hw 98 rfl)) Via.refl e3 H2_size (g := (mkF m 17 #[.val (.ref a1), .val (.ref r)] [(.ref a1), (.ref ea), (.ref r), (.ref a1)])) rfl rfl (hb hby d12_17)
  refine own_go st4 ?_
  show own_Go p e below _ T4 (mkF m 20 #[.val (.ref a1), .val (.ref r)] [(.int (2 : Int32)), (.ref ea), (.ref r), (.ref a1)])
  have kp_at := kp2
  obtain ⟨_, T5, L5, X5, ⟨rfl, ⟨E5, F5_ed, F5_sz, F5_mc, V5, K5⟩, N5⟩, st5⟩ := own_callP X4 hx hZ (y := (⟨"java/util/ArrayList", "add", "(Ljava/lang/Object;[Ljava/lang/Object;I)V"⟩ : MethodName)) (b := a1) (argsL := [(.ref r), (.ref ea), (.int (2 : Int32))]) (rest := []) (Ls := #[.val (.ref a1), .val (.ref r)]) hown (own_w hw 105 rfl) (own_w hw 107 rfl) (own_w hw 108 rfl) (own_w hw 106 rfl) (own_w hw 109 rfl) (own_w hw 21 rfl) (by decide) e4 (E_a.wr W2) (rmA3_2 l Z a0 hw [] a1 r ea kA (3 : Int32) u0 u1 h2 n0 (own_oldge old2) old2 (V_ea.other W2 ne_ea_a1) O_ea ge_ea (E_r.wr W2) g1 (E_a.wr W2) H2_elementData H2_size G2) 0 (by decide) (by decide) (by decide) (by decide) (by rw [hml]; rfl) (lenOf pd_12 rfl) rfl (Nat.le_of_eq rfl) (hb hby d12_20)
  have M5 := Fr.app N2 N5
  have kE5_a1 := (E_a.wr W2).keep K5
  have kE5_r := (E_r.wr W2).keep K5
  have old5 := old2.keep K5 (allS g1 (allS ge_ea all0))
  have kp5 := kp2.trans K5 (allS (Or.inl (List.mem_of_getElem? (i := 0) rfl)) (allS (Or.inl (List.mem_of_getElem? (i := 1) rfl)) all0))
  refine own_go st5 ?_
  show own_Go p e below _ T5 (mkF m 23 #[.val (.ref a1), .val (.ref r)] [])
  refine own_go (fun t_ k_ => XS.iconst X5.here hx rfl (hb hby d12_23) k_) ?_
  show own_Go p e below _ T5 (mkF m 24 #[.val (.ref a1), .val (.ref r)] [(.int (1 : Int32))])
  refine own_retZ X5 hx hlk hret (hb hby d12_24) (Or.inr rfl) (by decide) (by decide) ?_
  exact ⟨rfl, by exact ⟨E5, F5_ed, F5_sz, F5_mc, V5, kp5⟩, M5⟩
set_option maxRecDepth 65536 in
set_option maxHeartbeats 40000000 in
theorem rmII (l : Launch) (Z : State) (a0 : Array Value) (hw : ∀ d ∈ tables_1, d.before a0 Z = true) (ws : List Jvm.Cond) (it al : Addr) (mc : Int32) (h0 : Heap) (n0 : Nat) (Z0 : n0 ≤ h0.size) (E_it : Exa Z h0 it "java/util/ArrayList$Itr") (F_it_th : Fld Z h0 it "java/util/ArrayList$Itr" "this$0" "Ljava/util/ArrayList;" .null) (F_it_cu : Fld Z h0 it "java/util/ArrayList$Itr" "cursor" "I" (.int (0 : Int32))) (F_it_lr : Fld Z h0 it "java/util/ArrayList$Itr" "lastRet" "I" (.int (0 : Int32))) (F_it_em : Fld Z h0 it "java/util/ArrayList$Itr" "expectedModCount" "I" (.int (0 : Int32))) (E_al : Exa Z h0 al "java/util/ArrayList") (F_al_mc : Fld Z h0 al "java/util/AbstractList" "modCount" "I" (.int mc)) (g1 : n0 ≤ it) :
    own_Met l Z (⟨"java/util/ArrayList$Itr", "<init>", "(Ljava/util/ArrayList;)V"⟩ : MethodName) jdk_49_method_1_code 2 none ws ({ frames := 1, cells := 0, slots := 0, locals := 12 } : Room) #[(.ref it), (.ref al)] h0 (fun v h L => v = none ∧ Fr n0 L ∧ Keep h0 h [it] ∧ Exa Z h it "java/util/ArrayList$Itr" ∧ Fld Z h it "java/util/ArrayList$Itr" "this$0" "Ljava/util/ArrayList;" (.ref al) ∧ Fld Z h it "java/util/ArrayList$Itr" "cursor" "I" (.int (0 : Int32)) ∧ Fld Z h it "java/util/ArrayList$Itr" "lastRet" "I" (.int (-1 : Int32)) ∧ Fld Z h it "java/util/ArrayList$Itr" "expectedModCount" "I" (.int mc)) := by
  refine own_body (by first | exact plainFor_of_name pn_java_util_ArrayList_Itr | decide +kernel) ?_
  intro p e s m below meth c T0 X0 hx hby hml hret hlk hZ hown hnm e0
  have hown : s.vm.findClass "java/util/ArrayList$Itr" = some m.cls := hown
  have hnm : meth.name = "<init>" := hnm
  have N0 := Fr.nil n0
  rw [ef_8 m it al]
  show own_Go p e below _ T0 (mkF m 0 #[.val (.ref it), .val (.ref al)] [])
  have ne_it_al : it ≠ al := Exa.ne E_it E_al (by decide)
  have ne_al_it := Ne.symm ne_it_al
  refine own_go (fun t_ k_ => XS.aloadN X0.here hx rfl (hb hby d8_0) rfl rfl k_) ?_
  show own_Go p e below _ T0 (mkF m 1 #[.val (.ref it), .val (.ref al)] [(.ref it)])
  refine own_go (fun t_ k_ => XS.aloadN X0.here hx rfl (hb hby d8_1) rfl rfl k_) ?_
  show own_Go p e below _ T0 (mkF m 2 #[.val (.ref it), .val (.ref al)] [(.ref al), (.ref it)])
  obtain ⟨T1, h1, L1, X1, N1, e1, W1, G1, st1⟩ := own_putF X0 hx hZ hown (v := (.ref al)) (host := "") (Or.inl (own_w hw 63 rfl)) Via.refl e0 F_it_th E_it (Or.inr ⟨(own_w hw 64 rfl), rfl, hnm⟩) (own_w hw 57 rfl) (.object "java/util/ArrayList") (by decide) rfl rfl N0 g1 (Ls := #[.val (.ref it), .val (.ref al)]) (rest := []) (hb hby d8_2)
  have H1_cursor := F_it_cu.other W1 (Or.inr (slot_ne (Or.inl (own_w hw 90 rfl)) (Or.inr (own_w hw 64 rfl)) (by decide) (t := .int) (t' := (.object "java/util/ArrayList")) (by decide) (by decide)))
  have H1_lastRet := F_it_lr.other W1 (Or.inr (slot_ne (Or.inl (own_w hw 67 rfl)) (Or.inr (own_w hw 64 rfl)) (by decide) (t := .int) (t' := (.object "java/util/ArrayList")) (by decide) (by decide)))
  have H1_expectedModCount := F_it_em.other W1 (Or.inr (slot_ne (Or.inl (own_w hw 71 rfl)) (Or.inr (own_w hw 64 rfl)) (by decide) (t := .int) (t' := (.object "java/util/ArrayList")) (by decide) (by decide)))
  have H1_al_modCount := F_al_mc.other W1 (Or.inl ne_al_it)
  have kp1 := (Keep.refl h0 [it]).wr W1 (Or.inl (List.mem_of_getElem? (i := 0) rfl))
  refine own_go st1 ?_
  show own_Go p e below _ T1 (mkF m 5 #[.val (.ref it), .val (.ref al)] [])
  refine own_go (fun t_ k_ => XS.aloadN X1.here hx rfl (hb hby d8_5) rfl rfl k_) ?_
  show own_Go p e below _ T1 (mkF m 6 #[.val (.ref it), .val (.ref al)] [(.ref it)])
  obtain ⟨T2, X2, e2, st2⟩ := initO X1 hx hZ hown (own_w hw 65 rfl) (own_w hw 9 rfl) (own_w hw 10 rfl) e1 (g := (mkF m 6 #[.val (.ref it), .val (.ref al)] [(.ref it)])) rfl (by rw [hml]; rfl) rfl (hb hby d8_6) (by decide) (W := 0) (by show 2 * 0 + _ ≤ _; exact Nat.le_of_eq rfl) (by decide)
  refine own_go st2 ?_
  show own_Go p e below _ T2 (mkF m 9 #[.val (.ref it), .val (.ref al)] [])
  refine own_go (fun t_ k_ => XS.aloadN X2.here hx rfl (hb hby d8_9) rfl rfl k_) ?_
  show own_Go p e below _ T2 (mkF m 10 #[.val (.ref it), .val (.ref al)] [(.ref it)])
  refine own_go (fun t_ k_ => XS.iconst X2.here hx rfl (hb hby d8_10) k_) ?_
  show own_Go p e below _ T2 (mkF m 11 #[.val (.ref it), .val (.ref al)] [(.int (-1 : Int32)), (.ref it)])
  obtain ⟨T3, h3, L3, X3, N3, e3, W3, G3, st3⟩ := own_putF X2 hx hZ hown (v := (.int (-1 : Int32))) (host := "") (Or.inl (own_w hw 66 rfl)) Via.refl e2 H1_lastRet (E_it.wr W1) (Or.inl (own_w hw 67 rfl)) (own_w hw 57 rfl) .int (by decide) rfl rfl N1 g1 (Ls := #[.val (.ref it), .val (.ref al)]) (rest := []) (hb hby d8_11)
  have H3_this_0 := G1.other W3 (Or.inr (slot_ne (Or.inr (own_w hw 64 rfl)) (Or.inl (own_w hw 67 rfl)) (by decide) (t := (.object "java/util/ArrayList")) (t' := .int) (by decide) (by decide)))
  have H3_cursor := H1_cursor.other W3 (Or.inr (slot_ne (Or.inl (own_w hw 90 rfl)) (Or.inl (own_w hw 67 rfl)) (by decide) (t := .int) (t' := .int) (by decide) (by decide)))
  have H3_expectedModCount := H1_expectedModCount.other W3 (Or.inr (slot_ne (Or.inl (own_w hw 71 rfl)) (Or.inl (own_w hw 67 rfl)) (by decide) (t := .int) (t' := .int) (by decide) (by decide)))
  have H3_al_modCount := H1_al_modCount.other W3 (Or.inl ne_al_it)
  have kp3 := kp1.wr W3 (Or.inl (List.mem_of_getElem? (i := 0) rfl))
  refine own_go st3 ?_
  show own_Go p e below _ T3 (mkF m 14 #[.val (.ref it), .val (.ref al)] [])
  refine own_go (fun t_ k_ => XS.aloadN X3.here hx rfl (hb hby d8_14) rfl rfl k_) ?_
  show own_Go p e below _ T3 (mkF m 15 #[.val (.ref it), .val (.ref al)] [(.ref it)])
  refine own_go (fun t_ k_ => XS.aloadN X3.here hx rfl (hb hby d8_15) rfl rfl k_) ?_
  show own_Go p e below _ T3 (mkF m 16 #[.val (.ref it), .val (.ref al)] [(.ref it), (.ref it)])
  obtain ⟨T4, X4, e4, st4⟩ := getF X3 hx hZ hown (host := "") (Or.inl (own_w hw 63 rfl)) Via.refl e3 H3_this_0 (g := (mkF m 16 #[.val (.ref it), .val (.ref al)] [(.ref it), (.ref it)])) rfl rfl (hb hby d8_16)
  refine own_go st4 ?_
  show own_Go p e below _ T4 (mkF m 19 #[.val (.ref it), .val (.ref al)] [(.ref al), (.ref it)])
  obtain ⟨T5, X5, e5, st5⟩ := getF X4 hx hZ hown (host := "") (Or.inl (own_w hw 68 rfl)) (Via.of (own_w hw 69 rfl)) e4 H3_al_modCount (g := (mkF m 19 #[.val (.ref it), .val (.ref al)] [(.ref al), (.ref it)])) rfl rfl (hb hby d8_19)
  refine own_go st5 ?_
  show own_Go p e below _ T5 (mkF m 22 #[.val (.ref it), .val (.ref al)] [(.int mc), (.ref it)])
  obtain ⟨T6, h6, L6, X6, N6, e6, W6, G6, st6⟩ := own_putF X5 hx hZ hown (v := (.int mc)) (host := "") (Or.inl (own_w hw 70 rfl)) Via.refl e5 H3_expectedModCount ((E_it.wr W1).wr W3) (Or.inl (own_w hw 71 rfl)) (own_w hw 57 rfl) .int (by decide) rfl rfl N3 g1 (Ls := #[.val (.ref it), .val (.ref al)]) (rest := []) (hb hby d8_22)
  have H6_this_0 := H3_this_0.other W6 (Or.inr (slot_ne (Or.inr (own_w hw 64 rfl)) (Or.inl (own_w hw 71 rfl)) (by decide) (t := (.object "java/util/ArrayList")) (t' := .int) (by decide) (by decide)))
  have H6_cursor := H3_cursor.other W6 (Or.inr (slot_ne (Or.inl (own_w hw 90 rfl)) (Or.inl (own_w hw 71 rfl)) (by decide) (t := .int) (t' := .int) (by decide) (by decide)))
  have H6_lastRet := G3.other W6 (Or.inr (slot_ne (Or.inl (own_w hw 67 rfl)) (Or.inl (own_w hw 71 rfl)) (by decide) (t := .int) (t' := .int) (by decide) (by decide)))
  have H6_al_modCount := H3_al_modCount.other W6 (Or.inl ne_al_it)
  have kp6 := kp3.wr W6 (Or.inl (List.mem_of_getElem? (i := 0) rfl))
  refine own_go st6 ?_
  show own_Go p e below _ T6 (mkF m 25 #[.val (.ref it), .val (.ref al)] [])
  refine own_retV X6 hx hlk hret (hb hby d8_25) (by decide) (by decide) ?_
  exact ⟨rfl, N6, by rw [e6]; exact ⟨kp6, (((E_it.wr W1).wr W3).wr W6), H6_this_0, H6_cursor, H6_lastRet, G6⟩⟩
set_option maxRecDepth 65536 in
set_option maxHeartbeats 40000000 in
theorem rmIt (l : Launch) (Z : State) (a0 : Array Value) (hw : ∀ d ∈ tables_1, d.before a0 Z = true) (ws : List Jvm.Cond) (al : Addr) (mc : Int32) (h0 : Heap) (n0 : Nat) (Z0 : n0 ≤ h0.size) (O0 : Old Z n0 h0) (E_al : Exa Z h0 al "java/util/ArrayList") (F_al_mc : Fld Z h0 al "java/util/AbstractList" "modCount" "I" (.int mc)) :
    own_Met l Z (⟨"java/util/ArrayList", "iterator", "()Ljava/util/Iterator;"⟩ : MethodName) jdk_38_method_55_code 1 (some (.object "java/util/Iterator")) ws ({ frames := 2, cells := 1, slots := 4, locals := 26 } : Room) #[(.ref al)] h0 (fun v h L => (∃ it : Addr, v = some (.ref it) ∧ Exa Z h it "java/util/ArrayList$Itr" ∧ Fld Z h it "java/util/ArrayList$Itr" "this$0" "Ljava/util/ArrayList;" (.ref al) ∧ Fld Z h it "java/util/ArrayList$Itr" "cursor" "I" (.int (0 : Int32)) ∧ Fld Z h it "java/util/ArrayList$Itr" "lastRet" "I" (.int (-1 : Int32)) ∧ Fld Z h it "java/util/ArrayList$Itr" "expectedModCount" "I" (.int mc) ∧ h0.size ≤ it ∧ Keep h0 h []) ∧ Fr n0 L) := by
  refine own_body (by first | exact plainFor_of_name pn_java_util_ArrayList | decide +kernel) ?_
  intro p e s m below meth c T0 X0 hx hby hml hret hlk hZ hown hnm e0
  have hown : s.vm.findClass "java/util/ArrayList" = some m.cls := hown
  have hnm : meth.name = "iterator" := hnm
  have N0 := Fr.nil n0
  rw [ef_7 m al]
  show own_Go p e below _ T0 (mkF m 0 #[.val (.ref al)] [])
  obtain ⟨T1, h1, b1, X1, e1, E1, g1, A1, D1, st1⟩ := own_newO X0 hx hZ hown (own_w hw 56 rfl) (own_w hw 57 rfl) (own_w hw 58 rfl) e0 (Ls := #[.val (.ref al)]) (st := []) (hb hby d7_0) (by decide) (by decide)
  have ge_b1 : n0 ≤ b1 := g1 ▸ own_oldge O0
  have old1 := O0.ext E1
  have kp1 := (Keep.refl h0 []).ext E1
  have F1_this_0 : Fld Z h1 b1 "java/util/ArrayList$Itr" "this$0" "Ljava/util/ArrayList;" .null := D1 (Or.inr (own_w hw 64 rfl)) (ty := (.object "java/util/ArrayList")) (by decide)
  have F1_lastRet : Fld Z h1 b1 "java/util/ArrayList$Itr" "lastRet" "I" (.int (0 : Int32)) := D1 (Or.inl (own_w hw 67 rfl)) (ty := .int) (by decide)
  have F1_expectedModCount : Fld Z h1 b1 "java/util/ArrayList$Itr" "expectedModCount" "I" (.int (0 : Int32)) := D1 (Or.inl (own_w hw 71 rfl)) (ty := .int) (by decide)
  have F1_cursor : Fld Z h1 b1 "java/util/ArrayList$Itr" "cursor" "I" (.int (0 : Int32)) := D1 (Or.inl (own_w hw 90 rfl)) (ty := .int) (by decide)
  refine own_go st1 ?_
  show own_Go p e below _ T1 (mkF m 3 #[.val (.ref al)] [(.ref b1)])
  refine own_go (fun t_ k_ => XS.dup X1.here hx rfl (hb hby d7_3) rfl rfl k_) ?_
  show own_Go p e below _ T1 (mkF m 4 #[.val (.ref al)] [(.ref b1), (.ref b1)])
  refine own_go (fun t_ k_ => XS.aloadN X1.here hx rfl (hb hby d7_4) rfl rfl k_) ?_
  show own_Go p e below _ T1 (mkF m 5 #[.val (.ref al)] [(.ref al), (.ref b1), (.ref b1)])
  obtain ⟨_, T2, L2, X2, ⟨rfl, N2, K2, E2, F2_th, F2_cu, F2_lr, F2_em⟩, st2⟩ := own_callC X1 hx hZ (y := (⟨"java/util/ArrayList$Itr", "<init>", "(Ljava/util/ArrayList;)V"⟩ : MethodName)) (b := b1) (argsL := [(.ref al)]) (rest := [(.ref b1)]) (Ls := #[.val (.ref al)]) rfl hown (own_w hw 59 rfl) (own_w hw 60 rfl) (own_w hw 62 rfl) (own_w hw 58 rfl) (by decide) e1 (rmII l Z a0 hw [] b1 al mc h1 n0 (own_oldge old1) A1 F1_this_0 F1_cursor F1_lastRet F1_expectedModCount (E_al.ext E1) (F_al_mc.ext E1) ge_b1) 1 (by decide) (by decide) (by decide) (by decide) (by rw [hml]; rfl) (lenOf pd_13 rfl) rfl (Nat.le_of_eq rfl) (hb hby d7_5)
  have M2 := Fr.app N0 N2
  have ne_al_b1 : al ≠ b1 := Exa.ne (E_al.ext E1) A1 (by decide)
  have sz_b1 : h0.size ≤ b1 := Nat.le_of_eq g1.symm
  have kE2_al := (E_al.ext E1).keep K2
  have kF2_al_modCount := (F_al_mc.ext E1).keep K2 (ninS ne_al_b1 nin0)
  have kE2_b1 := A1.keep K2
  have old2 := old1.keep K2 (allS ge_b1 all0)
  have kp2 := kp1.trans K2 (allS (Or.inr sz_b1) all0)
  refine own_go st2 ?_
  show own_Go p e below _ T2 (mkF m 8 #[.val (.ref al)] [(.ref b1)])
  refine own_retA X2 hx hlk hret (hb hby d7_8) rfl rfl (by decide) (by decide) ?_
  exact ⟨⟨b1, rfl, by exact ⟨E2, F2_th, F2_cu, F2_lr, F2_em, sz_b1, kp2⟩⟩, M2⟩
set_option maxRecDepth 65536 in
set_option maxHeartbeats 40000000 in
theorem rmOf (l : Launch) (Z : State) (a0 : Array Value) (hw : ∀ d ∈ tables_1, d.before a0 Z = true) (ws : List Jvm.Cond) (al : Addr) (mc : Int32) (h0 : Heap) (n0 : Nat) (Z0 : n0 ≤ h0.size) (O0 : Old Z n0 h0) (E_al : Exa Z h0 al "java/util/ArrayList") (F_al_mc : Fld Z h0 al "java/util/AbstractList" "modCount" "I" (.int mc)) :
    own_MetH l Z (⟨"com/example/gridtally/gridtally/core/RowSource", "of", "(Ljava/util/List;)Lcom/example/gridtally/gridtally/core/RowSource;"⟩ : MethodName) prog_48_method_2_code 2 (some (.object "com/example/gridtally/gridtally/core/RowSource")) ws ({ frames := 3, cells := 2, slots := 5, locals := 3074 } : Room) #[(.ref al)] h0 (fun v h L => (∃ (fn it : Addr) (cK : ClassId), v = some (.ref fn) ∧ Jvm.LamKit.Made Z own_RS own_sh cK ∧ h[fn]? = some { cls := cK, slots := #[.ref it], vm := .none } ∧ Exa Z h it "java/util/ArrayList$Itr" ∧ Fld Z h it "java/util/ArrayList$Itr" "this$0" "Ljava/util/ArrayList;" (.ref al) ∧ Fld Z h it "java/util/ArrayList$Itr" "cursor" "I" (.int (0 : Int32)) ∧ Fld Z h it "java/util/ArrayList$Itr" "lastRet" "I" (.int (-1 : Int32)) ∧ Fld Z h it "java/util/ArrayList$Itr" "expectedModCount" "I" (.int mc) ∧ h0.size ≤ it ∧ it ≠ fn ∧ Keep h0 h []) ∧ Fr n0 L) := by
  refine own_bodyH (by first | exact plainFor_of_name pn_com_example_gridtally_gridtally_core_RowSource | decide +kernel) ?_
  intro p e s m below meth c T0 X0 hx hby hml hret hlk hZH hnamed hnm e0
  have hZ := hZH.wide
  have hown := findClass_of_methodNamed hnamed
  have hown : s.vm.findClass "com/example/gridtally/gridtally/core/RowSource" = some m.cls := hown
  have hnm : meth.name = "of" := hnm
  have N0 := Fr.nil n0
  rw [ef_6 m al]
  show own_Go p e below _ T0 (mkF m 0 #[.val (.ref al), .unset] [])
  refine own_go (fun t_ k_ => XS.aloadN X0.here hx rfl (hb hby d6_0) rfl rfl k_) ?_
  show own_Go p e below _ T0 (mkF m 1 #[.val (.ref al), .unset] [(.ref al)])
  obtain ⟨_, T1, L1, X1, ⟨⟨it1, rfl, E1, F1_th, F1_cu, F1_lr, F1_em, sz1, K1⟩, N1⟩, st1⟩ := own_callI X0 hx hZ (xi := (⟨"java/util/List", "iterator", "()Ljava/util/Iterator;"⟩ : MethodName)) (y := (⟨"java/util/ArrayList", "iterator", "()Ljava/util/Iterator;"⟩ : MethodName)) (b := al) (argsL := []) (rest := []) (Ls := #[.val (.ref al), .unset]) hown (own_w hw 47 rfl) (own_w hw 48 rfl) (mvT hZ (own_w hw 49 rfl)) (own_w hw 50 rfl) (own_w hw 51 rfl) (own_w hw 52 rfl) (mvT hZ (own_w hw 53 rfl)) (own_w hw 54 rfl) (own_w hw 55 rfl) (own_w hw 21 rfl) (by decide) e0 E_al (rmIt l Z a0 hw [] al mc h0 n0 (own_oldge O0) O0 E_al F_al_mc) 0 (by decide) (by decide) (by decide) (by decide) (by rw [hml]; rfl) (lenOf pd_3 rfl) rfl (Nat.le_of_eq rfl) (hb hby d6_1)
  have M1 := Fr.app N0 N1
  have kE1_al := E_al.keep K1
  have kF1_al_modCount := F_al_mc.keep K1 nin0
  have old1 := O0.keep K1 all0
  have kp1 := (Keep.refl h0 []).trans K1 all0
  refine own_go st1 ?_
  show own_Go p e below _ T1 (mkF m 6 #[.val (.ref al), .unset] [(.ref it1)])
  refine own_go (fun t_ k_ => XS.astoreN X1.here hx rfl (hb hby d6_6) rfl rfl (l' := #[.val (.ref al), .val (.ref it1)]) rfl k_) ?_
  show own_Go p e below _ T1 (mkF m 7 #[.val (.ref al), .val (.ref it1)] [])
  refine own_go (fun t_ k_ => XS.aloadN X1.here hx rfl (hb hby d6_7) rfl rfl k_) ?_
  show own_Go p e below _ T1 (mkF m 8 #[.val (.ref al), .val (.ref it1)] [(.ref it1)])
  have H8 : T1.heap = T1.heap := rfl
  obtain ⟨cK, T2, h2, fn, made, X2, e2, E2, g2, hfn, st2⟩ := own_site X1 hx hZH (x := (⟨"com/example/gridtally/gridtally/core/RowSource", "of", "(Ljava/util/List;)Lcom/example/gridtally/gridtally/core/RowSource;"⟩ : MethodName)) (index := 7) rfl hnamed (own_w hw 72 rfl) (own_w hw 74 rfl) rfl (b := it1) (Ls := #[.val (.ref al), .val (.ref it1)]) (rest := []) (by rw [hml]; rfl) (hb hby d6_8) (by decide) (by decide) (by decide)
  have ne_it_fn : it1 ≠ fn := fun q => absurd E1.lt (by rw [q, g2]; exact Nat.lt_irrefl _)
  have sz_fn : h0.size ≤ fn := by rw [g2]; exact kp1.1
  have old2 := old1.ext E2
  have kp2 := kp1.ext E2
  refine own_go st2 ?_
  show own_Go p e below _ T2 (mkF m 13 #[.val (.ref al), .val (.ref it1)] [(.ref fn)])
  refine own_retA X2 hx hlk hret (hb hby d6_13) rfl rfl (by decide) (by decide) ?_
  exact ⟨⟨fn, it1, cK, rfl, made, by rw [e2]; exact ⟨hfn, (E1.ext E2), (F1_th.ext E2), (F1_cu.ext E2), (F1_lr.ext E2), (F1_em.ext E2), sz1, ne_it_fn, kp2⟩⟩, M1⟩
set_option maxRecDepth 65536 in
set_option maxHeartbeats 40000000 in
theorem rmHN (l : Launch) (Z : State) (a0 : Array Value) (hw : ∀ d ∈ tables_1, d.before a0 Z = true) (ws : List Jvm.Cond) (it al : Addr) (cu n : Int32) (h0 : Heap) (n0 : Nat) (Z0 : n0 ≤ h0.size) (E_it : Exa Z h0 it "java/util/ArrayList$Itr") (F_it_th : Fld Z h0 it "java/util/ArrayList$Itr" "this$0" "Ljava/util/ArrayList;" (.ref al)) (F_it_cu : Fld Z h0 it "java/util/ArrayList$Itr" "cursor" "I" (.int cu)) (E_al : Exa Z h0 al "java/util/ArrayList") (F_al_sz : Fld Z h0 al "java/util/ArrayList" "size" "I" (.int n)) :
    own_Met l Z (⟨"java/util/ArrayList$Itr", "hasNext", "()Z"⟩ : MethodName) jdk_49_method_2_code 1 (some .boolean) ws ({ frames := 0, cells := 0, slots := 0, locals := 0 } : Room) #[(.ref it)] h0 (fun v h L => v = some (.int (if cu = n then 0 else 1)) ∧ Fr n0 L ∧ h = h0) := by
  refine own_body (by first | exact plainFor_of_name pn_java_util_ArrayList_Itr | decide +kernel) ?_
  intro p e s m below meth c T0 X0 hx hby hml hret hlk hZ hown hnm e0
  have hown : s.vm.findClass "java/util/ArrayList$Itr" = some m.cls := hown
  have hnm : meth.name = "hasNext" := hnm
  have N0 := Fr.nil n0
  rw [ef_10 m it]
  show own_Go p e below _ T0 (mkF m 0 #[.val (.ref it)] [])
  refine own_go (fun t_ k_ => XS.aloadN X0.here hx rfl (hb hby d10_0) rfl rfl k_) ?_
  show own_Go p e below _ T0 (mkF m 1 #[.val (.ref it)] [(.ref it)])
  obtain ⟨T1, X1, e1, st1⟩ := getF X0 hx hZ hown (host := "") (Or.inl (own_w hw 89 rfl)) Via.refl e0 F_it_cu (g := (mkF m 1 #[.val (.ref it)] [(.ref it)])) rfl rfl (hb hby d10_1)
  refine own_go st1 ?_
  show own_Go p e below _ T1 (mkF m 4 #[.val (.ref it)] [(.int cu)])
  refine own_go (fun t_ k_ => XS.aloadN X1.here hx rfl (hb hby d10_4) rfl rfl k_) ?_
  show own_Go p e below _ T1 (mkF m 5 #[.val (.ref it)] [(.ref it), (.int cu)])
  obtain ⟨T2, X2, e2, st2⟩ := getF X1 hx hZ hown (host := "") (Or.inl (own_w hw 63 rfl)) Via.refl e1 F_it_th (g := (mkF m 5 #[.val (.ref it)] [(.ref it), (.int cu)])) rfl rfl (hb hby d10_5)
  refine own_go st2 ?_
  show own_Go p e below _ T2 (mkF m 8 #[.val (.ref it)] [(.ref al), (.int cu)])
  obtain ⟨T3, X3, e3, st3⟩ := getF X2 hx hZ hown (Or.inr (own_w hw 91 rfl)) Via.refl e2 F_al_sz (g := (mkF m 8 #[.val (.ref it)] [(.ref al), (.int cu)])) rfl rfl (hb hby d10_8)
  refine own_go st3 ?_
  show own_Go p e below _ T3 (mkF m 11 #[.val (.ref it)] [(.int n), (.int cu)])
  by_cases hcn : cu = n
  · show own_Go p e below _ T3 (mkF m 11 #[.val (.ref it)] [(.int n), (.int cu)])
    refine own_go (fun t_ k_ => XS.icmpYes X3.here hx rfl (pc0 := 11) (pc' := 18) rfl (hb hby d10_11) rfl (XT.ii_eq_t hcn) (by decide) (by decide) k_) ?_
    show own_Go p e below _ T3 (mkF m 18 #[.val (.ref it)] [])
    refine own_go (fun t_ k_ => XS.iconst X3.here hx rfl (hb hby d10_18) k_) ?_
    show own_Go p e below _ T3 (mkF m 19 #[.val (.ref it)] [(.int (0 : Int32))])
    refine own_retZ X3 hx hlk hret (hb hby d10_19) (Or.inl rfl) (by decide) (by decide) ?_
    exact ⟨by rw [if_pos hcn], N0, e3⟩
  · show own_Go p e below _ T3 (mkF m 11 #[.val (.ref it)] [(.int n), (.int cu)])
    refine own_go (fun t_ k_ => XS.icmpNo X3.here hx rfl (hb hby d10_11) rfl (XT.ii_eq_f hcn) k_) ?_
    show own_Go p e below _ T3 (mkF m 14 #[.val (.ref it)] [])
    refine own_go (fun t_ k_ => XS.iconst X3.here hx rfl (hb hby d10_14) k_) ?_
    show own_Go p e below _ T3 (mkF m 15 #[.val (.ref it)] [(.int (1 : Int32))])
    refine own_go (fun t_ k_ => XS.goto X3.here hx rfl (pc0 := 15) (pc' := 19) rfl (hb hby d10_15) (by decide) (by decide) k_) ?_
    show own_Go p e below _ T3 (mkF m 19 #[.val (.ref it)] [(.int (1 : Int32))])
    refine own_retZ X3 hx hlk hret (hb hby d10_19) (Or.inr rfl) (by decide) (by decide) ?_
    exact ⟨by rw [if_neg hcn], N0, e3⟩
set_option maxRecDepth 65536 in
set_option maxHeartbeats 40000000 in
theorem rmCM (l : Launch) (Z : State) (a0 : Array Value) (hw : ∀ d ∈ tables_1, d.before a0 Z = true) (ws : List Jvm.Cond) (it al : Addr) (mc : Int32) (h0 : Heap) (n0 : Nat) (Z0 : n0 ≤ h0.size) (E_it : Exa Z h0 it "java/util/ArrayList$Itr") (F_it_th : Fld Z h0 it "java/util/ArrayList$Itr" "this$0" "Ljava/util/ArrayList;" (.ref al)) (F_it_em : Fld Z h0 it "java/util/ArrayList$Itr" "expectedModCount" "I" (.int mc)) (E_al : Exa Z h0 al "java/util/ArrayList") (F_al_mc : Fld Z h0 al "java/util/AbstractList" "modCount" "I" (.int mc)) :
    own_Met l Z (⟨"java/util/ArrayList$Itr", "checkForComodification", "()V"⟩ : MethodName) jdk_49_method_6_code 1 none ws ({ frames := 0, cells := 0, slots := 0, locals := 0 } : Room) #[(.ref it)] h0 (fun v h L => v = none ∧ Fr n0 L ∧ h = h0) := by
  refine own_body (by first | exact plainFor_of_name pn_java_util_ArrayList_Itr | decide +kernel) ?_
  intro p e s m below meth c T0 X0 hx hby hml hret hlk hZ hown hnm e0
  have hown : s.vm.findClass "java/util/ArrayList$Itr" = some m.cls := hown
  have hnm : meth.name = "checkForComodification" := hnm
  have N0 := Fr.nil n0
  rw [ef_18 m it]
  show own_Go p e below _ T0 (mkF m 0 #[.val (.ref it)] [])
  refine own_go (fun t_ k_ => XS.aloadN X0.here hx rfl (hb hby d18_0) rfl rfl k_) ?_
  show own_Go p e below _ T0 (mkF m 1 #[.val (.ref it)] [(.ref it)])
  obtain ⟨T1, X1, e1, st1⟩ := getF X0 hx hZ hown (host := "") (Or.inl (own_w hw 63 rfl)) Via.refl e0 F_it_th (g := (mkF m 1 #[.val (.ref it)] [(.ref it)])) rfl rfl (hb hby d18_1)
  refine own_go st1 ?_
  show own_Go p e below _ T1 (mkF m 4 #[.val (.ref it)] [(.ref al)])
  obtain ⟨T2, X2, e2, st2⟩ := getF X1 hx hZ hown (host := "") (Or.inl (own_w hw 68 rfl)) (Via.of (own_w hw 69 rfl)) e1 F_al_mc (g := (mkF m 4 #[.val (.ref it)] [(.ref al)])) rfl rfl (hb hby d18_4)
  refine own_go st2 ?_
  show own_Go p e below _ T2 (mkF m 7 #[.val (.ref it)] [(.int mc)])
  refine own_go (fun t_ k_ => XS.aloadN X2.here hx rfl (hb hby d18_7) rfl rfl k_) ?_
  show own_Go p e below _ T2 (mkF m 8 #[.val (.ref it)] [(.ref it), (.int mc)])
  obtain ⟨T3, X3, e3, st3⟩ := getF X2 hx hZ hown (host := "") (Or.inl (own_w hw 70 rfl)) Via.refl e2 F_it_em (g := (mkF m 8 #[.val (.ref it)] [(.ref it), (.int mc)])) rfl rfl (hb hby d18_8)
  refine own_go st3 ?_
  show own_Go p e below _ T3 (mkF m 11 #[.val (.ref it)] [(.int mc), (.int mc)])
  refine own_go (fun t_ k_ => XS.icmpYes X3.here hx rfl (pc0 := 11) (pc' := 22) rfl (hb hby d18_11) rfl (XT.ii_eq_t rfl) (by decide) (by decide) k_) ?_
  show own_Go p e below _ T3 (mkF m 22 #[.val (.ref it)] [])
  refine own_retV X3 hx hlk hret (hb hby d18_22) (by decide) (by decide) ?_
  exact ⟨rfl, N0, e3⟩
set_option maxRecDepth 65536 in
set_option maxHeartbeats 40000000 in
theorem rmNx_0 (l : Launch) (Z : State) (a0 : Array Value) (hw : ∀ d ∈ tables_1, d.before a0 Z = true) (ws : List Jvm.Cond) (it al ea : Addr) (kA : ClassId) (n mc lr : Int32) (u0 : Value) (u1 : Value) (u2 : Value) (h0 : Heap) (n0 : Nat) (Z0 : n0 ≤ h0.size) (O0 : Old Z n0 h0) (E_it : Exa Z h0 it "java/util/ArrayList$Itr") (F_it_th : Fld Z h0 it "java/util/ArrayList$Itr" "this$0" "Ljava/util/ArrayList;" (.ref al)) (F_it_cu : Fld Z h0 it "java/util/ArrayList$Itr" "cursor" "I" (.int (0 : Int32))) (F_it_lr : Fld Z h0 it "java/util/ArrayList$Itr" "lastRet" "I" (.int lr)) (F_it_em : Fld Z h0 it "java/util/ArrayList$Itr" "expectedModCount" "I" (.int mc)) (E_al : Exa Z h0 al "java/util/ArrayList") (F_al_ed : Fld Z h0 al "java/util/ArrayList" "elementData" "[Ljava/lang/Object;" (.ref ea)) (F_al_sz : Fld Z h0 al "java/util/ArrayList" "size" "I" (.int n)) (F_al_mc : Fld Z h0 al "java/util/AbstractList" "modCount" "I" (.int mc)) (V_ea : Arv Z h0 ea kA (.object "java/lang/Object") (10 : Int32) [u0, u1, u2, .null, .null, .null, .null, .null, .null, .null] .null) (g1 : n0 ≤ it) (hj : (0 : Int32) < n) (hu0 : u0.isRef = true) :
    own_Met l Z (⟨"java/util/ArrayList$Itr", "next", "()Ljava/lang/Object;"⟩ : MethodName) jdk_49_method_3_code 3 (some (.object "java/lang/Object")) ws ({ frames := 1, cells := 0, slots := 0, locals := 12 } : Room) #[(.ref it)] h0 (fun v h L => v = some u0 ∧ Fr n0 L ∧ Keep h0 h [it] ∧ Exa Z h it "java/util/ArrayList$Itr" ∧ Fld Z h it "java/util/ArrayList$Itr" "this$0" "Ljava/util/ArrayList;" (.ref al) ∧ Fld Z h it "java/util/ArrayList$Itr" "cursor" "I" (.int (1 : Int32)) ∧ Fld Z h it "java/util/ArrayList$Itr" "lastRet" "I" (.int (0 : Int32)) ∧ Fld Z h it "java/util/ArrayList$Itr" "expectedModCount" "I" (.int mc)) := by
  refine own_body (by first | exact plainFor_of_name pn_java_util_ArrayList_Itr | decide +kernel) ?_
  intro p e s m below meth c T0 X0 hx hby hml hret hlk hZ hown hnm e0
  have hown : s.vm.findClass "java/util/ArrayList$Itr" = some m.cls := hown
  have hnm : meth.name = "next" := hnm
  have N0 := Fr.nil n0
  rw [ef_17 m it]
  show own_Go p e below _ T0 (mkF m 0 #[.val (.ref it), .unset, .unset] [])
  have ne_al_it : al ≠ it := Exa.ne E_al E_it (by decide)
  have ne_ea_it : ea ≠ it := Ne.symm (Exa.neArv E_it V_ea (own_w hw 57 rfl))
  refine own_go (fun t_ k_ => XS.aloadN X0.here hx rfl (hb hby d17_0) rfl rfl k_) ?_
  show own_Go p e below _ T0 (mkF m 1 #[.val (.ref it), .unset, .unset] [(.ref it)])
  obtain ⟨_, T1, L1, X1, ⟨rfl, N1, e1⟩, st1⟩ := own_callV X0 hx hZ (y := (⟨"java/util/ArrayList$Itr", "checkForComodification", "()V"⟩ : MethodName)) (z := (⟨"java/util/ArrayList$Itr", "checkForComodification", "()V"⟩ : MethodName)) (b := it) (argsL := []) (rest := []) (Ls := #[.val (.ref it), .unset, .unset]) hown (own_w hw 135 rfl) (own_w hw 136 rfl) (own_w hw 138 rfl) (notFace_of_selects (args := #[]) (mvT hZ (own_w hw 138 rfl))) (own_w hw 137 rfl) (own_w hw 139 rfl) (own_w hw 58 rfl) (by decide) e0 E_it (rmCM l Z a0 hw [] it al mc h0 n0 Z0 E_it F_it_th F_it_em E_al F_al_mc) 0 (by decide) (by decide) (by decide) (by decide) (by rw [hml]; rfl) (lenOf pd_4 rfl) rfl (Nat.le_of_eq rfl) (hb hby d17_1)
  have M1 := Fr.app N0 N1
  refine own_go st1 ?_
  show own_Go p e below _ T1 (mkF m 4 #[.val (.ref it), .unset, .unset] [])
  refine own_go (fun t_ k_ => XS.aloadN X1.here hx rfl (hb hby d17_4) rfl rfl k_) ?_
  show own_Go p e below _ T1 (mkF m 5 #[.val (.ref it), .unset, .unset] [(.ref it)])
  obtain ⟨T2, X2, e2, st2⟩ := getF X1 hx hZ hown (host := "") (Or.inl (own_w hw 89 rfl)) Via.refl e1 F_it_cu (g := (mkF m 5 #[.val (.ref it), .unset, .unset] [(.ref it)])) rfl rfl (hb hby d17_5)
  refine own_go st2 ?_
  show own_Go p e below _ T2 (mkF m 8 #[.val (.ref it), .unset, .unset] [(.int (0 : Int32))])
  refine own_go (fun t_ k_ => XS.istoreN X2.here hx rfl (hb hby d17_8) rfl (l' := #[.val (.ref it), .val (.int (0 : Int32)), .unset]) rfl k_) ?_
  show own_Go p e below _ T2 (mkF m 9 #[.val (.ref it), .val (.int (0 : Int32)), .unset] [])
  refine own_go (fun t_ k_ => XS.iloadN X2.here hx rfl (hb hby d17_9) rfl k_) ?_
  show own_Go p e below _ T2 (mkF m 10 #[.val (.ref it), .val (.int (0 : Int32)), .unset] [(.int (0 : Int32))])
  refine own_go (fun t_ k_ => XS.aloadN X2.here hx rfl (hb hby d17_10) rfl rfl k_) ?_
  show own_Go p e below _ T2 (mkF m 11 #[.val (.ref it), .val (.int (0 : Int32)), .unset] [(.ref it), (.int (0 : Int32))])
  obtain ⟨T3, X3, e3, st3⟩ := getF X2 hx hZ hown (host := "") (Or.inl (own_w hw 63 rfl)) Via.refl e2 F_it_th (g := (mkF m 11 #[.val (.ref it), .val (.int (0 : Int32)), .unset] [(.ref it), (.int (0 : Int32))])) rfl rfl (hb hby d17_11)
  refine own_go st3 ?_
  show own_Go p e below _ T3 (mkF m 14 #[.val (.ref it), .val (.int (0 : Int32)), .unset] [(.ref al), (.int (0 : Int32))])
  obtain ⟨T4, X4, e4, st4⟩ := getF X3 hx hZ hown (Or.inr (own_w hw 91 rfl)) Via.refl e3 F_al_sz (g := (mkF m 14 #[.val (.ref it), .val (.int (0 : Int32)), .unset] [(.ref al), (.int (0 : Int32))])) rfl rfl (hb hby d17_14)
  refine own_go st4 ?_
  show own_Go p e below _ T4 (mkF m 17 #[.val (.ref it), .val (.int (0 : Int32)), .unset] [(.int n), (.int (0 : Int32))])
  refine own_go (fun t_ k_ => XS.icmpYes X4.here hx rfl (pc0 := 17) (pc' := 28) rfl (hb hby d17_17) rfl (XT.ii_lt_t hj) (by decide) (by decide) k_) ?_
  show own_Go p e below _ T4 (mkF m 28 #[.val (.ref it), .val (.int (0 : Int32)), .unset] [])
  refine own_go (fun t_ k_ => XS.aloadN X4.here hx rfl (hb hby d17_28) rfl rfl k_) ?_
  show own_Go p e below _ T4 (mkF m 29 #[.val (.ref it), .val (.int (0 : Int32)), .unset] [(.ref it)])
  obtain ⟨T5, X5, e5, st5⟩ := getF X4 hx hZ hown (host := "") (Or.inl (own_w hw 63 rfl)) Via.refl e4 F_it_th (g := (mkF m 29 #[.val (.ref it), .val (.int (0 : Int32)), .unset] [(.ref it)])) rfl rfl (hb hby d17_29)
  refine own_go st5 ?_
  show own_Go p e below _ T5 (mkF m 32 #[.val (.ref it), .val (.int (0 : Int32)), .unset] [(.ref al)])
  obtain ⟨T6, X6, e6, st6⟩ := getF X5 hx hZ hown (host := "") (Or.inl (own_w hw 140 rfl)) Via.refl e5 F_al_ed (g := (mkF m 32 #[.val (.ref it), .val (.int (0 : Int32)), .unset] [(.ref al)])) rfl rfl (hb hby d17_32)
  refine own_go st6 ?_
  show own_Go p e below _ T6 (mkF m 35 #[.val (.ref it), .val (.int (0 : Int32)), .unset] [(.ref ea)])
  refine own_go (fun t_ k_ => XS.astoreN X6.here hx rfl (hb hby d17_35) rfl rfl (l' := #[.val (.ref it), .val (.int (0 : Int32)), .val (.ref ea)]) rfl k_) ?_
  show own_Go p e below _ T6 (mkF m 36 #[.val (.ref it), .val (.int (0 : Int32)), .val (.ref ea)] [])
  refine own_go (fun t_ k_ => XS.iloadN X6.here hx rfl (hb hby d17_36) rfl k_) ?_
  show own_Go p e below _ T6 (mkF m 37 #[.val (.ref it), .val (.int (0 : Int32)), .val (.ref ea)] [(.int (0 : Int32))])
  refine own_go (fun t_ k_ => XS.aloadN X6.here hx rfl (hb hby d17_37) rfl rfl k_) ?_
  show own_Go p e below _ T6 (mkF m 38 #[.val (.ref it), .val (.int (0 : Int32)), .val (.ref ea)] [(.ref ea), (.int (0 : Int32))])
  refine own_go (own_len X6 hx hZ e6 (Ls := #[.val (.ref it), .val (.int (0 : Int32)), .val (.ref ea)]) (rest := [(.int (0 : Int32))]) V_ea (hb hby d17_38)) ?_
  show own_Go p e below _ T6 (mkF m 39 #[.val (.ref it), .val (.int (0 : Int32)), .val (.ref ea)] [(.int (10 : Int32)), (.int (0 : Int32))])
  refine own_go (fun t_ k_ => XS.icmpYes X6.here hx rfl (pc0 := 39) (pc' := 50) rfl (hb hby d17_39) rfl (XT.ii_lt_t (by decide)) (by decide) (by decide) k_) ?_
  show own_Go p e below _ T6 (mkF m 50 #[.val (.ref it), .val (.int (0 : Int32)), .val (.ref ea)] [])
  refine own_go (fun t_ k_ => XS.aloadN X6.here hx rfl (hb hby d17_50) rfl rfl k_) ?_
  show own_Go p e below _ T6 (mkF m 51 #[.val (.ref it), .val (.int (0 : Int32)), .val (.ref ea)] [(.ref it)])
  refine own_go (fun t_ k_ => XS.iloadN X6.here hx rfl (hb hby d17_51) rfl k_) ?_
  show own_Go p e below _ T6 (mkF m 52 #[.val (.ref it), .val (.int (0 : Int32)), .val (.ref ea)] [(.int (0 : Int32)), (.ref it)])
  refine own_go (fun t_ k_ => XS.iconst X6.here hx rfl (hb hby d17_52) k_) ?_
  show own_Go p e below _ T6 (mkF m 53 #[.val (.ref it), .val (.int (0 : Int32)), .val (.ref ea)] [(.int (1 : Int32)), (.int (0 : Int32)), (.ref it)])
  refine own_go (fun t_ k_ => XS.iadd X6.here hx rfl (hb hby d17_53) rfl k_) ?_
  show own_Go p e below _ T6 (mkF m 54 #[.val (.ref it), .val (.int (0 : Int32)), .val (.ref ea)] [(.int ((0 : Int32) + (1 : Int32))), (.ref it)])
  rw [show ((0 : Int32) + (1 : Int32)) = (1 : Int32) from by decide]
  show own_Go p e below _ T6 (mkF m 54 #[.val (.ref it), .val (.int (0 : Int32)), .val (.ref ea)] [(.int (1 : Int32)), (.ref it)])
  obtain ⟨T7, h7, L7, X7, N7, e7, W7, G7, st7⟩ := own_putF X6 hx hZ hown (v := (.int (1 : Int32))) (host := "") (Or.inl (own_w hw 89 rfl)) Via.refl e6 F_it_cu E_it (Or.inl (own_w hw 90 rfl)) (own_w hw 57 rfl) .int (by decide) rfl rfl M1 g1 (Ls := #[.val (.ref it), .val (.int (0 : Int32)), .val (.ref ea)]) (rest := []) (hb hby d17_54)
  have H7_this_0 := F_it_th.other W7 (Or.inr (slot_ne (Or.inr (own_w hw 64 rfl)) (Or.inl (own_w hw 90 rfl)) (by decide) (t := (.object "java/util/ArrayList")) (t' := .int) (by decide) (by decide)))
  have H7_lastRet := F_it_lr.other W7 (Or.inr (slot_ne (Or.inl (own_w hw 67 rfl)) (Or.inl (own_w hw 90 rfl)) (by decide) (t := .int) (t' := .int) (by decide) (by decide)))
  have H7_expectedModCount := F_it_em.other W7 (Or.inr (slot_ne (Or.inl (own_w hw 71 rfl)) (Or.inl (own_w hw 90 rfl)) (by decide) (t := .int) (t' := .int) (by decide) (by decide)))
  have H7_al_elementData := F_al_ed.other W7 (Or.inl ne_al_it)
  have H7_al_size := F_al_sz.other W7 (Or.inl ne_al_it)
  have H7_al_modCount := F_al_mc.other W7 (Or.inl ne_al_it)
  have old7 := O0.wr W7 g1
  have kp7 := (Keep.refl h0 [it]).wr W7 (Or.inl (List.mem_of_getElem? (i := 0) rfl))
  refine own_go st7 ?_
  show own_Go p e below _ T7 (mkF m 57 #[.val (.ref it), .val (.int (0 : Int32)), .val (.ref ea)] [])
  refine own_go (fun t_ k_ => XS.aloadN X7.here hx rfl (hb hby d17_57) rfl rfl k_) ?_
  show own_Go p e below _ T7 (mkF m 58 #[.val (.ref it), .val (.int (0 : Int32)), .val (.ref ea)] [(.ref ea)])
  refine own_go (fun t_ k_ => XS.aloadN X7.here hx rfl (hb hby d17_58) rfl rfl k_) ?_
  show own_Go p e below _ T7 (mkF m 59 #[.val (.ref it), .val (.int (0 : Int32)), .val (.ref ea)] [(.ref it), (.ref ea)])
  refine own_go (fun t_ k_ => XS.iloadN X7.here hx rfl (hb hby d17_59) rfl k_) ?_
  show own_Go p e below _ T7 (mkF m 60 #[.val (.ref it), .val (.int (0 : Int32)), .val (.ref ea)] [(.int (0 : Int32)), (.ref it), (.ref ea)])
  refine own_go (fun t_ k_ => XS.dupX1 X7.here hx rfl (hb hby d17_60) rfl rfl rfl k_) ?_
  show own_Go p e below _ T7 (mkF m 61 #[.val (.ref it), .val (.int (0 : Int32)), .val (.ref ea)] [(.int (0 : Int32)), (.ref it), (.int (0 : Int32)), (.ref ea)])
  obtain ⟨T8, h8, L8, X8, N8, e8, W8, G8, st8⟩ := own_putF X7 hx hZ hown (v := (.int (0 : Int32))) (host := "") (Or.inl (own_w hw 66 rfl)) Via.refl e7 H7_lastRet (E_it.wr W7) (Or.inl (own_w hw 67 rfl)) (own_w hw 57 rfl) .int (by decide) rfl rfl N7 g1 (Ls := #[.val (.ref it), .val (.int (0 : Int32)), .val (.ref ea)]) (rest := [(.int (0 : Int32)), (.ref ea)]) (hb hby d17_61)
  have H8_this_0 := H7_this_0.other W8 (Or.inr (slot_ne (Or.inr (own_w hw 64 rfl)) (Or.inl (own_w hw 67 rfl)) (by decide) (t := (.object "java/util/ArrayList")) (t' := .int) (by decide) (by decide)))
  have H8_cursor := G7.other W8 (Or.inr (slot_ne (Or.inl (own_w hw 90 rfl)) (Or.inl (own_w hw 67 rfl)) (by decide) (t := .int) (t' := .int) (by decide) (by decide)))
  have H8_expectedModCount := H7_expectedModCount.other W8 (Or.inr (slot_ne (Or.inl (own_w hw 71 rfl)) (Or.inl (own_w hw 67 rfl)) (by decide) (t := .int) (t' := .int) (by decide) (by decide)))
  have H8_al_elementData := H7_al_elementData.other W8 (Or.inl ne_al_it)
  have H8_al_size := H7_al_size.other W8 (Or.inl ne_al_it)
  have H8_al_modCount := H7_al_modCount.other W8 (Or.inl ne_al_it)
  have old8 := old7.wr W8 g1
  have kp8 := kp7.wr W8 (Or.inl (List.mem_of_getElem? (i := 0) rfl))
  refine own_go st8 ?_
  show own_Go p e below _ T8 (mkF m 64 #[.val (.ref it), .val (.int (0 : Int32)), .val (.ref ea)] [(.int (0 : Int32)), (.ref ea)])
  refine own_go (own_ldR X8 hx hZ e8 (Ls := #[.val (.ref it), .val (.int (0 : Int32)), .val (.ref ea)]) (rest := []) ((V_ea.other W7 ne_ea_it).other W8 ne_ea_it) rfl (j := (0 : Int32)) (by decide) (v := u0) rfl (hb hby d17_64)) ?_
  show own_Go p e below _ T8 (mkF m 65 #[.val (.ref it), .val (.int (0 : Int32)), .val (.ref ea)] [u0])
  refine own_retA X8 hx hlk hret (hb hby d17_65) rfl hu0 (by decide) (by decide) ?_
  exact ⟨rfl, N8, by rw [e8]; exact ⟨kp8, ((E_it.wr W7).wr W8), H8_this_0, H8_cursor, G8, H8_expectedModCount⟩⟩
set_option maxRecDepth 65536 in
set_option maxHeartbeats 40000000 in
theorem rmLY_0 (l : Launch) (Z : State) (a0 : Array Value) (hw : ∀ d ∈ tables_1, d.before a0 Z = true) (ws : List Jvm.Cond) (it al ea : Addr) (kA : ClassId) (n mc lr : Int32) (r : Addr) (u1 : Value) (u2 : Value) (h0 : Heap) (n0 : Nat) (Z0 : n0 ≤ h0.size) (O0 : Old Z n0 h0) (E_it : Exa Z h0 it "java/util/ArrayList$Itr") (F_it_th : Fld Z h0 it "java/util/ArrayList$Itr" "this$0" "Ljava/util/ArrayList;" (.ref al)) (F_it_cu : Fld Z h0 it "java/util/ArrayList$Itr" "cursor" "I" (.int (0 : Int32))) (F_it_lr : Fld Z h0 it "java/util/ArrayList$Itr" "lastRet" "I" (.int lr)) (F_it_em : Fld Z h0 it "java/util/ArrayList$Itr" "expectedModCount" "I" (.int mc)) (E_al : Exa Z h0 al "java/util/ArrayList") (F_al_ed : Fld Z h0 al "java/util/ArrayList" "elementData" "[Ljava/lang/Object;" (.ref ea)) (F_al_sz : Fld Z h0 al "java/util/ArrayList" "size" "I" (.int n)) (F_al_mc : Fld Z h0 al "java/util/AbstractList" "modCount" "I" (.int mc)) (V_ea : Arv Z h0 ea kA (.object "java/lang/Object") (10 : Int32) [(.ref r), u1, u2, .null, .null, .null, .null, .null, .null, .null] .null) (g1 : n0 ≤ it) (hj : (0 : Int32) < n) (hjn : ¬ (0 : Int32) = n) (E_r : Exa Z h0 r "com/example/gridtally/gridtally/core/Row") :
    own_Met l Z (⟨"com/example/gridtally/gridtally/core/RowSource", "lambda$of$0", "(Ljava/util/Iterator;)Lcom/example/gridtally/gridtally/core/Row;"⟩ : MethodName) prog_48_method_3_code 1 (some (.object "com/example/gridtally/gridtally/core/Row")) ws ({ frames := 2, cells := 0, slots := 0, locals := 26 } : Room) #[(.ref it)] h0 (fun v h L => v = some (.ref r) ∧ Fr n0 L ∧ Keep h0 h [it] ∧ Exa Z h it "java/util/ArrayList$Itr" ∧ Fld Z h it "java/util/ArrayList$Itr" "this$0" "Ljava/util/ArrayList;" (.ref al) ∧ Fld Z h it "java/util/ArrayList$Itr" "cursor" "I" (.int (1 : Int32)) ∧ Fld Z h it "java/util/ArrayList$Itr" "lastRet" "I" (.int (0 : Int32)) ∧ Fld Z h it "java/util/ArrayList$Itr" "expectedModCount" "I" (.int mc)) := by
  refine own_body (by first | exact plainFor_of_name pn_com_example_gridtally_gridtally_core_RowSource | decide +kernel) ?_
  intro p e s m below meth c T0 X0 hx hby hml hret hlk hZ hown hnm e0
  have hown : s.vm.findClass "com/example/gridtally/gridtally/core/RowSource" = some m.cls := hown
  have hnm : meth.name = "lambda$of$0" := hnm
  have N0 := Fr.nil n0
  rw [ef_9 m it]
  show own_Go p e below _ T0 (mkF m 0 #[.val (.ref it)] [])
  have ne_al_it : al ≠ it := Exa.ne E_al E_it (by decide)
  have ne_ea_it : ea ≠ it := Ne.symm (Exa.neArv E_it V_ea (own_w hw 57 rfl))
  refine own_go (fun t_ k_ => XS.aloadN X0.here hx rfl (hb hby d9_0) rfl rfl k_) ?_
  show own_Go p e below _ T0 (mkF m 1 #[.val (.ref it)] [(.ref it)])
  obtain ⟨_, T1, L1, X1, ⟨rfl, N1, e1⟩, st1⟩ := own_callI X0 hx hZ (xi := (⟨"java/util/Iterator", "hasNext", "()Z"⟩ : MethodName)) (y := (⟨"java/util/ArrayList$Itr", "hasNext", "()Z"⟩ : MethodName)) (b := it) (argsL := []) (rest := []) (Ls := #[.val (.ref it)]) hown (own_w hw 80 rfl) (own_w hw 81 rfl) (mvT hZ (own_w hw 82 rfl)) (own_w hw 83 rfl) (own_w hw 84 rfl) (own_w hw 85 rfl) (mvT hZ (own_w hw 86 rfl)) (own_w hw 87 rfl) (own_w hw 88 rfl) (own_w hw 58 rfl) (by decide) e0 E_it (rmHN l Z a0 hw [] it al (0 : Int32) n h0 n0 Z0 E_it F_it_th F_it_cu E_al F_al_sz) 0 (by decide) (by decide) (by decide) (by decide) (by rw [hml]; rfl) (lenOf pd_5 rfl) rfl (Nat.le_of_eq rfl) (hb hby d9_1)
  have M1 := Fr.app N0 N1
  refine own_go st1 ?_
  show own_Go p e below _ T1 (mkF m 6 #[.val (.ref it)] [(.int (if (0 : Int32) = n then 0 else 1))])
  refine own_go (fun t_ k_ => XS.ifNo X1.here hx rfl (hb hby d9_6) rfl (XT.i0_eq_f (by rw [if_neg hjn]; decide)) k_) ?_
  show own_Go p e below _ T1 (mkF m 9 #[.val (.ref it)] [])
  refine own_go (fun t_ k_ => XS.aloadN X1.here hx rfl (hb hby d9_9) rfl rfl k_) ?_
  show own_Go p e below _ T1 (mkF m 10 #[.val (.ref it)] [(.ref it)])
  obtain ⟨_, T2, L2, X2, ⟨rfl, N2, K2, E2, F2_th, F2_cu, F2_lr, F2_em⟩, st2⟩ := own_callI X1 hx hZ (xi := (⟨"java/util/Iterator", "next", "()Ljava/lang/Object;"⟩ : MethodName)) (y := (⟨"java/util/ArrayList$Itr", "next", "()Ljava/lang/Object;"⟩ : MethodName)) (b := it) (argsL := []) (rest := []) (Ls := #[.val (.ref it)]) hown (own_w hw 127 rfl) (own_w hw 128 rfl) (mvT hZ (own_w hw 129 rfl)) (own_w hw 130 rfl) (own_w hw 131 rfl) (own_w hw 132 rfl) (mvT hZ (own_w hw 133 rfl)) (own_w hw 87 rfl) (own_w hw 134 rfl) (own_w hw 58 rfl) (by decide) e1 E_it (rmNx_0 l Z a0 hw [] it al ea kA n mc lr (.ref r) u1 u2 h0 n0 (own_oldge O0) O0 E_it F_it_th F_it_cu F_it_lr F_it_em E_al F_al_ed F_al_sz F_al_mc V_ea g1 hj rfl) 0 (by decide) (by decide) (by decide) (by decide) (by rw [hml]; rfl) (lenOf pd_2 rfl) rfl (Nat.le_of_eq rfl) (hb hby d9_10)
  have M2 := Fr.app M1 N2
  have kE2_it := E_it.keep K2
  have kE2_al := E_al.keep K2
  have kF2_al_elementData := F_al_ed.keep K2 (ninS ne_al_it nin0)
  have kF2_al_size := F_al_sz.keep K2 (ninS ne_al_it nin0)
  have kF2_al_modCount := F_al_mc.keep K2 (ninS ne_al_it nin0)
  have kE2_r := E_r.keep K2
  have kV2_ea := V_ea.keep K2 (ninS ne_ea_it nin0)
  have old2 := O0.keep K2 (allS g1 all0)
  have kp2 := (Keep.refl h0 [it]).trans K2 (allS (Or.inl (List.mem_of_getElem? (i := 0) rfl)) all0)
  refine own_go st2 ?_
  show own_Go p e below _ T2 (mkF m 15 #[.val (.ref it)] [(.ref r)])
  obtain ⟨T3, X3, e3, st3⟩ := own_cast X2 hx hZ hown (own_w hw 141 rfl) rfl (a := r) (Ls := #[.val (.ref it)]) (rest := []) (Ins.self kE2_r) (hb hby d9_15)
  refine own_go st3 ?_
  show own_Go p e below _ T3 (mkF m 18 #[.val (.ref it)] [(.ref r)])
  refine own_go (fun t_ k_ => XS.goto X3.here hx rfl (pc0 := 18) (pc' := 22) rfl (hb hby d9_18) (by decide) (by decide) k_) ?_
  show own_Go p e below _ T3 (mkF m 22 #[.val (.ref it)] [(.ref r)])
  refine own_retA X3 hx hlk hret (hb hby d9_22) rfl rfl (by decide) (by decide) ?_
  exact ⟨rfl, M2, by rw [e3]; exact ⟨kp2, E2, F2_th, F2_cu, F2_lr, F2_em⟩⟩
set_option maxRecDepth 65536 in
set_option maxHeartbeats 40000000 in
theorem rmNx_1 (l : Launch) (Z : State) (a0 : Array Value) (hw : ∀ d ∈ tables_1, d.before a0 Z = true) (ws : List Jvm.Cond) (it al ea : Addr) (kA : ClassId) (n mc lr : Int32) (u0 : Value) (u1 : Value) (u2 : Value) (h0 : Heap) (n0 : Nat) (Z0 : n0 ≤ h0.size) (O0 : Old Z n0 h0) (E_it : Exa Z h0 it "java/util/ArrayList$Itr") (F_it_th : Fld Z h0 it "java/util/ArrayList$Itr" "this$0" "Ljava/util/ArrayList;" (.ref al)) (F_it_cu : Fld Z h0 it "java/util/ArrayList$Itr" "cursor" "I" (.int (1 : Int32))) (F_it_lr : Fld Z h0 it "java/util/ArrayList$Itr" "lastRet" "I" (.int lr)) (F_it_em : Fld Z h0 it "java/util/ArrayList$Itr" "expectedModCount" "I" (.int mc)) (E_al : Exa Z h0 al "java/util/ArrayList") (F_al_ed : Fld Z h0 al "java/util/ArrayList" "elementData" "[Ljava/lang/Object;" (.ref ea)) (F_al_sz : Fld Z h0 al "java/util/ArrayList" "size" "I" (.int n)) (F_al_mc : Fld Z h0 al "java/util/AbstractList" "modCount" "I" (.int mc)) (V_ea : Arv Z h0 ea kA (.object "java/lang/Object") (10 : Int32) [u0, u1, u2, .null, .null, .null, .null, .null, .null, .null] .null) (g1 : n0 ≤ it) (hj : (1 : Int32) < n) (hu1 : u1.isRef = true) :
    own_Met l Z (⟨"java/util/ArrayList$Itr", "next", "()Ljava/lang/Object;"⟩ : MethodName) jdk_49_method_3_code 3 (some (.object "java/lang/Object")) ws ({ frames := 1, cells := 0, slots := 0, locals := 12 } : Room) #[(.ref it)] h0 (fun v h L => v = some u1 ∧ Fr n0 L ∧ Keep h0 h [it] ∧ Exa Z h it "java/util/ArrayList$Itr" ∧ Fld Z h it "java/util/ArrayList$Itr" "this$0" "Ljava/util/ArrayList;" (.ref al) ∧ Fld Z h it "java/util/ArrayList$Itr" "cursor" "I" (.int (2 : Int32)) ∧ Fld Z h it "java/util/ArrayList$Itr" "lastRet" "I" (.int (1 : Int32)) ∧ Fld Z h it "java/util/ArrayList$Itr" "expectedModCount" "I" (.int mc)) := by
  refine own_body (by first | exact plainFor_of_name pn_java_util_ArrayList_Itr | decide +kernel) ?_
  intro p e s m below meth c T0 X0 hx hby hml hret hlk hZ hown hnm e0
  have hown : s.vm.findClass "java/util/ArrayList$Itr" = some m.cls := hown
  have hnm : meth.name = "next" := hnm
  have N0 := Fr.nil n0
  rw [ef_17 m it]
  show own_Go p e below _ T0 (mkF m 0 #[.val (.ref it), .unset, .unset] [])
  have ne_al_it : al ≠ it := Exa.ne E_al E_it (by decide)
  have ne_ea_it : ea ≠ it := Ne.symm (Exa.neArv E_it V_ea (own_w hw 57 rfl))
  refine own_go (fun t_ k_ => XS.aloadN X0.here hx rfl (hb hby d17_0) rfl rfl k_) ?_
  show own_Go p e below _ T0 (mkF m 1 #[.val (.ref it), .unset, .unset] [(.ref it)])
  obtain ⟨_, T1, L1, X1, ⟨rfl, N1, e1⟩, st1⟩ := own_callV X0 hx hZ (y := (⟨"java/util/ArrayList$Itr", "checkForComodification", "()V"⟩ : MethodName)) (z := (⟨"java/util/ArrayList$Itr", "checkForComodification", "()V"⟩ : MethodName)) (b := it) (argsL := []) (rest := []) (Ls := #[.val (.ref it), .unset, .unset]) hown (own_w hw 135 rfl) (own_w hw 136 rfl) (own_w hw 138 rfl) (notFace_of_selects (args := #[]) (mvT hZ (own_w hw 138 rfl))) (own_w hw 137 rfl) (own_w hw 139 rfl) (own_w hw 58 rfl) (by decide) e0 E_it (rmCM l Z a0 hw [] it al mc h0 n0 Z0 E_it F_it_th F_it_em E_al F_al_mc) 0 (by decide) (by decide) (by decide) (by decide) (by rw [hml]; rfl) (lenOf pd_4 rfl) rfl (Nat.le_of_eq rfl) (hb hby d17_1)
  have M1 := Fr.app N0 N1
  refine own_go st1 ?_
  show own_Go p e below _ T1 (mkF m 4 #[.val (.ref it), .unset, .unset] [])
  refine own_go (fun t_ k_ => XS.aloadN X1.here hx rfl (hb hby d17_4) rfl rfl k_) ?_
  show own_Go p e below _ T1 (mkF m 5 #[.val (.ref it), .unset, .unset] [(.ref it)])
  obtain ⟨T2, X2, e2, st2⟩ := getF X1 hx hZ hown (host := "") (Or.inl (own_w hw 89 rfl)) Via.refl e1 F_it_cu (g := (mkF m 5 #[.val (.ref it), .unset, .unset] [(.ref it)])) rfl rfl (hb hby d17_5)
  refine own_go st2 ?_
  show own_Go p e below _ T2 (mkF m 8 #[.val (.ref it), .unset, .unset] [(.int (1 : Int32))])
  refine own_go (fun t_ k_ => XS.istoreN X2.here hx rfl (hb hby d17_8) rfl (l' := #[.val (.ref it), .val (.int (1 : Int32)), .unset]) rfl k_) ?_
  show own_Go p e below _ T2 (mkF m 9 #[.val (.ref it), .val (.int (1 : Int32)), .unset] [])
  refine own_go (fun t_ k_ => XS.iloadN X2.here hx rfl (hb hby d17_9) rfl k_) ?_
  show own_Go p e below _ T2 (mkF m 10 #[.val (.ref it), .val (.int (1 : Int32)), .unset] [(.int (1 : Int32))])
  refine own_go (fun t_ k_ => XS.aloadN X2.here hx rfl (hb hby d17_10) rfl rfl k_) ?_
  show own_Go p e below _ T2 (mkF m 11 #[.val (.ref it), .val (.int (1 : Int32)), .unset] [(.ref it), (.int (1 : Int32))])
  obtain ⟨T3, X3, e3, st3⟩ := getF X2 hx hZ hown (host := "") (Or.inl (own_w hw 63 rfl)) Via.refl e2 F_it_th (g := (mkF m 11 #[.val (.ref it), .val (.int (1 : Int32)), .unset] [(.ref it), (.int (1 : Int32))])) rfl rfl (hb hby d17_11)
  refine own_go st3 ?_
  show own_Go p e below _ T3 (mkF m 14 #[.val (.ref it), .val (.int (1 : Int32)), .unset] [(.ref al), (.int (1 : Int32))])
  obtain ⟨T4, X4, e4, st4⟩ := getF X3 hx hZ hown (Or.inr (own_w hw 91 rfl)) Via.refl e3 F_al_sz (g := (mkF m 14 #[.val (.ref it), .val (.int (1 : Int32)), .unset] [(.ref al), (.int (1 : Int32))])) rfl rfl (hb hby d17_14)
  refine own_go st4 ?_
  show own_Go p e below _ T4 (mkF m 17 #[.val (.ref it), .val (.int (1 : Int32)), .unset] [(.int n), (.int (1 : Int32))])
  refine own_go (fun t_ k_ => XS.icmpYes X4.here hx rfl (pc0 := 17) (pc' := 28) rfl (hb hby d17_17) rfl (XT.ii_lt_t hj) (by decide) (by decide) k_) ?_
  show own_Go p e below _ T4 (mkF m 28 #[.val (.ref it), .val (.int (1 : Int32)), .unset] [])
  refine own_go (fun t_ k_ => XS.aloadN X4.here hx rfl (hb hby d17_28) rfl rfl k_) ?_
  show own_Go p e below _ T4 (mkF m 29 #[.val (.ref it), .val (.int (1 : Int32)), .unset] [(.ref it)])
  obtain ⟨T5, X5, e5, st5⟩ := getF X4 hx hZ hown (host := "") (Or.inl (own_w hw 63 rfl)) Via.refl e4 F_it_th (g := (mkF m 29 #[.val (.ref it), .val (.int (1 : Int32)), .unset] [(.ref it)])) rfl rfl (hb hby d17_29)
  refine own_go st5 ?_
  show own_Go p e below _ T5 (mkF m 32 #[.val (.ref it), .val (.int (1 : Int32)), .unset] [(.ref al)])
  obtain ⟨T6, X6, e6, st6⟩ := getF X5 hx hZ hown (host := "") (Or.inl (own_w hw 140 rfl)) Via.refl e5 F_al_ed (g := (mkF m 32 #[.val (.ref it), .val (.int (1 : Int32)), .unset] [(.ref al)])) rfl rfl (hb hby d17_32)
  refine own_go st6 ?_
  show own_Go p e below _ T6 (mkF m 35 #[.val (.ref it), .val (.int (1 : Int32)), .unset] [(.ref ea)])
  refine own_go (fun t_ k_ => XS.astoreN X6.here hx rfl (hb hby d17_35) rfl rfl (l' := #[.val (.ref it), .val (.int (1 : Int32)), .val (.ref ea)]) rfl k_) ?_
  show own_Go p e below _ T6 (mkF m 36 #[.val (.ref it), .val (.int (1 : Int32)), .val (.ref ea)] [])
  refine own_go (fun t_ k_ => XS.iloadN X6.here hx rfl (hb hby d17_36) rfl k_) ?_
  show own_Go p e below _ T6 (mkF m 37 #[.val (.ref it), .val (.int (1 : Int32)), .val (.ref ea)] [(.int (1 : Int32))])
  refine own_go (fun t_ k_ => XS.aloadN X6.here hx rfl (hb hby d17_37) rfl rfl k_) ?_
  show own_Go p e below _ T6 (mkF m 38 #[.val (.ref it), .val (.int (1 : Int32)), .val (.ref ea)] [(.ref ea), (.int (1 : Int32))])
  refine own_go (own_len X6 hx hZ e6 (Ls := #[.val (.ref it), .val (.int (1 : Int32)), .val (.ref ea)]) (rest := [(.int (1 : Int32))]) V_ea (hb hby d17_38)) ?_
  show own_Go p e below _ T6 (mkF m 39 #[.val (.ref it), .val (.int (1 : Int32)), .val (.ref ea)] [(.int (10 : Int32)), (.int (1 : Int32))])
  refine own_go (fun t_ k_ => XS.icmpYes X6.here hx rfl (pc0 := 39) (pc' := 50) rfl (hb hby d17_39) rfl (XT.ii_lt_t (by decide)) (by decide) (by decide) k_) ?_
  show own_Go p e below _ T6 (mkF m 50 #[.val (.ref it), .val (.int (1 : Int32)), .val (.ref ea)] [])
  refine own_go (fun t_ k_ => XS.aloadN X6.here hx rfl (hb hby d17_50) rfl rfl k_) ?_
  show own_Go p e below _ T6 (mkF m 51 #[.val (.ref it), .val (.int (1 : Int32)), .val (.ref ea)] [(.ref it)])
  refine own_go (fun t_ k_ => XS.iloadN X6.here hx rfl (hb hby d17_51) rfl k_) ?_
  show own_Go p e below _ T6 (mkF m 52 #[.val (.ref it), .val (.int (1 : Int32)), .val (.ref ea)] [(.int (1 : Int32)), (.ref it)])
  refine own_go (fun t_ k_ => XS.iconst X6.here hx rfl (hb hby d17_52) k_) ?_
  show own_Go p e below _ T6 (mkF m 53 #[.val (.ref it), .val (.int (1 : Int32)), .val (.ref ea)] [(.int (1 : Int32)), (.int (1 : Int32)), (.ref it)])
  refine own_go (fun t_ k_ => XS.iadd X6.here hx rfl (hb hby d17_53) rfl k_) ?_
  show own_Go p e below _ T6 (mkF m 54 #[.val (.ref it), .val (.int (1 : Int32)), .val (.ref ea)] [(.int ((1 : Int32) + (1 : Int32))), (.ref it)])
  rw [show ((1 : Int32) + (1 : Int32)) = (2 : Int32) from by decide]
  show own_Go p e below _ T6 (mkF m 54 #[.val (.ref it), .val (.int (1 : Int32)), .val (.ref ea)] [(.int (2 : Int32)), (.ref it)])
  obtain ⟨T7, h7, L7, X7, N7, e7, W7, G7, st7⟩ := own_putF X6 hx hZ hown (v := (.int (2 : Int32))) (host := "") (Or.inl (own_w hw 89 rfl)) Via.refl e6 F_it_cu E_it (Or.inl (own_w hw 90 rfl)) (own_w hw 57 rfl) .int (by decide) rfl rfl M1 g1 (Ls := #[.val (.ref it), .val (.int (1 : Int32)), .val (.ref ea)]) (rest := []) (hb hby d17_54)
  have H7_this_0 := F_it_th.other W7 (Or.inr (slot_ne (Or.inr (own_w hw 64 rfl)) (Or.inl (own_w hw 90 rfl)) (by decide) (t := (.object "java/util/ArrayList")) (t' := .int) (by decide) (by decide)))
  have H7_lastRet := F_it_lr.other W7 (Or.inr (slot_ne (Or.inl (own_w hw 67 rfl)) (Or.inl (own_w hw 90 rfl)) (by decide) (t := .int) (t' := .int) (by decide) (by decide)))
  have H7_expectedModCount := F_it_em.other W7 (Or.inr (slot_ne (Or.inl (own_w hw 71 rfl)) (Or.inl (own_w hw 90 rfl)) (by decide) (t := .int) (t' := .int) (by decide) (by decide)))
  have H7_al_elementData := F_al_ed.other W7 (Or.inl ne_al_it)
  have H7_al_size := F_al_sz.other W7 (Or.inl ne_al_it)
  have H7_al_modCount := F_al_mc.other W7 (Or.inl ne_al_it)
  have old7 := O0.wr W7 g1
  have kp7 := (Keep.refl h0 [it]).wr W7 (Or.inl (List.mem_of_getElem? (i := 0) rfl))
  refine own_go st7 ?_
  show own_Go p e below _ T7 (mkF m 57 #[.val (.ref it), .val (.int (1 : Int32)), .val (.ref ea)] [])
  refine own_go (fun t_ k_ => XS.aloadN X7.here hx rfl (hb hby d17_57) rfl rfl k_) ?_
  show own_Go p e below _ T7 (mkF m 58 #[.val (.ref it), .val (.int (1 : Int32)), .val (.ref ea)] [(.ref ea)])
  refine own_go (fun t_ k_ => XS.aloadN X7.here hx rfl (hb hby d17_58) rfl rfl k_) ?_
  show own_Go p e below _ T7 (mkF m 59 #[.val (.ref it), .val (.int (1 : Int32)), .val (.ref ea)] [(.ref it), (.ref ea)])
  refine own_go (fun t_ k_ => XS.iloadN X7.here hx rfl (hb hby d17_59) rfl k_) ?_
  show own_Go p e below _ T7 (mkF m 60 #[.val (.ref it), .val (.int (1 : Int32)), .val (.ref ea)] [(.int (1 : Int32)), (.ref it), (.ref ea)])
  refine own_go (fun t_ k_ => XS.dupX1 X7.here hx rfl (hb hby d17_60) rfl rfl rfl k_) ?_
  show own_Go p e below _ T7 (mkF m 61 #[.val (.ref it), .val (.int (1 : Int32)), .val (.ref ea)] [(.int (1 : Int32)), (.ref it), (.int (1 : Int32)), (.ref ea)])
  obtain ⟨T8, h8, L8, X8, N8, e8, W8, G8, st8⟩ := own_putF X7 hx hZ hown (v := (.int (1 : Int32))) (host := "") (Or.inl (own_w hw 66 rfl)) Via.refl e7 H7_lastRet (E_it.wr W7) (Or.inl (own_w hw 67 rfl)) (own_w hw 57 rfl) .int (by decide) rfl rfl N7 g1 (Ls := #[.val (.ref it), .val (.int (1 : Int32)), .val (.ref ea)]) (rest := [(.int (1 : Int32)), (.ref ea)]) (hb hby d17_61)
  have H8_this_0 := H7_this_0.other W8 (Or.inr (slot_ne (Or.inr (own_w hw 64 rfl)) (Or.inl (own_w hw 67 rfl)) (by decide) (t := (.object "java/util/ArrayList")) (t' := .int) (by decide) (by decide)))
  have H8_cursor := G7.other W8 (Or.inr (slot_ne (Or.inl (own_w hw 90 rfl)) (Or.inl (own_w hw 67 rfl)) (by decide) (t := .int) (t' := .int) (by decide) (by decide)))
  have H8_expectedModCount := H7_expectedModCount.other W8 (Or.inr (slot_ne (Or.inl (own_w hw 71 rfl)) (Or.inl (own_w hw 67 rfl)) (by decide) (t := .int) (t' := .int) (by decide) (by decide)))
  have H8_al_elementData := H7_al_elementData.other W8 (Or.inl ne_al_it)
  have H8_al_size := H7_al_size.other W8 (Or.inl ne_al_it)
  have H8_al_modCount := H7_al_modCount.other W8 (Or.inl ne_al_it)
  have old8 := old7.wr W8 g1
  have kp8 := kp7.wr W8 (Or.inl (List.mem_of_getElem? (i := 0) rfl))
  refine own_go st8 ?_
  show own_Go p e below _ T8 (mkF m 64 #[.val (.ref it), .val (.int (1 : Int32)), .val (.ref ea)] [(.int (1 : Int32)), (.ref ea)])
  refine own_go (own_ldR X8 hx hZ e8 (Ls := #[.val (.ref it), .val (.int (1 : Int32)), .val (.ref ea)]) (rest := []) ((V_ea.other W7 ne_ea_it).other W8 ne_ea_it) rfl (j := (1 : Int32)) (by decide) (v := u1) rfl (hb hby d17_64)) ?_
  show own_Go p e below _ T8 (mkF m 65 #[.val (.ref it), .val (.int (1 : Int32)), .val (.ref ea)] [u1])
  refine own_retA X8 hx hlk hret (hb hby d17_65) rfl hu1 (by decide) (by decide) ?_
  exact ⟨rfl, N8, by rw [e8]; exact ⟨kp8, ((E_it.wr W7).wr W8), H8_this_0, H8_cursor, G8, H8_expectedModCount⟩⟩
set_option maxRecDepth 65536 in
set_option maxHeartbeats 40000000 in
theorem rmLY_1 (l : Launch) (Z : State) (a0 : Array Value) (hw : ∀ d ∈ tables_1, d.before a0 Z = true) (ws : List Jvm.Cond) (it al ea : Addr) (kA : ClassId) (n mc lr : Int32) (r : Addr) (u0 : Value) (u2 : Value) (h0 : Heap) (n0 : Nat) (Z0 : n0 ≤ h0.size) (O0 : Old Z n0 h0) (E_it : Exa Z h0 it "java/util/ArrayList$Itr") (F_it_th : Fld Z h0 it "java/util/ArrayList$Itr" "this$0" "Ljava/util/ArrayList;" (.ref al)) (F_it_cu : Fld Z h0 it "java/util/ArrayList$Itr" "cursor" "I" (.int (1 : Int32))) (F_it_lr : Fld Z h0 it "java/util/ArrayList$Itr" "lastRet" "I" (.int lr)) (F_it_em : Fld Z h0 it "java/util/ArrayList$Itr" "expectedModCount" "I" (.int mc)) (E_al : Exa Z h0 al "java/util/ArrayList") (F_al_ed : Fld Z h0 al "java/util/ArrayList" "elementData" "[Ljava/lang/Object;" (.ref ea)) (F_al_sz : Fld Z h0 al "java/util/ArrayList" "size" "I" (.int n)) (F_al_mc : Fld Z h0 al "java/util/AbstractList" "modCount" "I" (.int mc)) (V_ea : Arv Z h0 ea kA (.object "java/lang/Object") (10 : Int32) [u0, (.ref r), u2, .null, .null, .null, .null, .null, .null, .null] .null) (g1 : n0 ≤ it) (hj : (1 : Int32) < n) (hjn : ¬ (1 : Int32) = n) (E_r : Exa Z h0 r "com/example/gridtally/gridtally/core/Row") :
    own_Met l Z (⟨"com/example/gridtally/gridtally/core/RowSource", "lambda$of$0", "(Ljava/util/Iterator;)Lcom/example/gridtally/gridtally/core/Row;"⟩ : MethodName) prog_48_method_3_code 1 (some (.object "com/example/gridtally/gridtally/core/Row")) ws ({ frames := 2, cells := 0, slots := 0, locals := 26 } : Room) #[(.ref it)] h0 (fun v h L => v = some (.ref r) ∧ Fr n0 L ∧ Keep h0 h [it] ∧ Exa Z h it "java/util/ArrayList$Itr" ∧ Fld Z h it "java/util/ArrayList$Itr" "this$0" "Ljava/util/ArrayList;" (.ref al) ∧ Fld Z h it "java/util/ArrayList$Itr" "cursor" "I" (.int (2 : Int32)) ∧ Fld Z h it "java/util/ArrayList$Itr" "lastRet" "I" (.int (1 : Int32)) ∧ Fld Z h it "java/util/ArrayList$Itr" "expectedModCount" "I" (.int mc)) := by
  refine own_body (by first | exact plainFor_of_name pn_com_example_gridtally_gridtally_core_RowSource | decide +kernel) ?_
  intro p e s m below meth c T0 X0 hx hby hml hret hlk hZ hown hnm e0
  have hown : s.vm.findClass "com/example/gridtally/gridtally/core/RowSource" = some m.cls := hown
  have hnm : meth.name = "lambda$of$0" := hnm
  have N0 := Fr.nil n0
  rw [ef_9 m it]
  show own_Go p e below _ T0 (mkF m 0 #[.val (.ref it)] [])
  have ne_al_it : al ≠ it := Exa.ne E_al E_it (by decide)
  have ne_ea_it : ea ≠ it := Ne.symm (Exa.neArv E_it V_ea (own_w hw 57 rfl))
  refine own_go (fun t_ k_ => XS.aloadN X0.here hx rfl (hb hby d9_0) rfl rfl k_) ?_
  show own_Go p e below _ T0 (mkF m 1 #[.val (.ref it)] [(.ref it)])
  obtain ⟨_, T1, L1, X1, ⟨rfl, N1, e1⟩, st1⟩ := own_callI X0 hx hZ (xi := (⟨"java/util/Iterator", "hasNext", "()Z"⟩ : MethodName)) (y := (⟨"java/util/ArrayList$Itr", "hasNext", "()Z"⟩ : MethodName)) (b := it) (argsL := []) (rest := []) (Ls := #[.val (.ref it)]) hown (own_w hw 80 rfl) (own_w hw 81 rfl) (mvT hZ (own_w hw 82 rfl)) (own_w hw 83 rfl) (own_w hw 84 rfl) (own_w hw 85 rfl) (mvT hZ (own_w hw 86 rfl)) (own_w hw 87 rfl) (own_w hw 88 rfl) (own_w hw 58 rfl) (by decide) e0 E_it (rmHN l Z a0 hw [] it al (1 : Int32) n h0 n0 Z0 E_it F_it_th F_it_cu E_al F_al_sz) 0 (by decide) (by decide) (by decide) (by decide) (by rw [hml]; rfl) (lenOf pd_5 rfl) rfl (Nat.le_of_eq rfl) (hb hby d9_1)
  have M1 := Fr.app N0 N1
  refine own_go st1 ?_
  show own_Go p e below _ T1 (mkF m 6 #[.val (.ref it)] [(.int (if (1 : Int32) = n then 0 else 1))])
  refine own_go (fun t_ k_ => XS.ifNo X1.here hx rfl (hb hby d9_6) rfl (XT.i0_eq_f (by rw [if_neg hjn]; decide)) k_) ?_
  show own_Go p e below _ T1 (mkF m 9 #[.val (.ref it)] [])
  refine own_go (fun t_ k_ => XS.aloadN X1.here hx rfl (hb hby d9_9) rfl rfl k_) ?_
  show own_Go p e below _ T1 (mkF m 10 #[.val (.ref it)] [(.ref it)])
  obtain ⟨_, T2, L2, X2, ⟨rfl, N2, K2, E2, F2_th, F2_cu, F2_lr, F2_em⟩, st2⟩ := own_callI X1 hx hZ (xi := (⟨"java/util/Iterator", "next", "()Ljava/lang/Object;"⟩ : MethodName)) (y := (⟨"java/util/ArrayList$Itr", "next", "()Ljava/lang/Object;"⟩ : MethodName)) (b := it) (argsL := []) (rest := []) (Ls := #[.val (.ref it)]) hown (own_w hw 127 rfl) (own_w hw 128 rfl) (mvT hZ (own_w hw 129 rfl)) (own_w hw 130 rfl) (own_w hw 131 rfl) (own_w hw 132 rfl) (mvT hZ (own_w hw 133 rfl)) (own_w hw 87 rfl) (own_w hw 134 rfl) (own_w hw 58 rfl) (by decide) e1 E_it (rmNx_1 l Z a0 hw [] it al ea kA n mc lr u0 (.ref r) u2 h0 n0 (own_oldge O0) O0 E_it F_it_th F_it_cu F_it_lr F_it_em E_al F_al_ed F_al_sz F_al_mc V_ea g1 hj rfl) 0 (by decide) (by decide) (by decide) (by decide) (by rw [hml]; rfl) (lenOf pd_2 rfl) rfl (Nat.le_of_eq rfl) (hb hby d9_10)
  have M2 := Fr.app M1 N2
  have kE2_it := E_it.keep K2
  have kE2_al := E_al.keep K2
  have kF2_al_elementData := F_al_ed.keep K2 (ninS ne_al_it nin0)
  have kF2_al_size := F_al_sz.keep K2 (ninS ne_al_it nin0)
  have kF2_al_modCount := F_al_mc.keep K2 (ninS ne_al_it nin0)
  have kE2_r := E_r.keep K2
  have kV2_ea := V_ea.keep K2 (ninS ne_ea_it nin0)
  have old2 := O0.keep K2 (allS g1 all0)
  have kp2 := (Keep.refl h0 [it]).trans K2 (allS (Or.inl (List.mem_of_getElem? (i := 0) rfl)) all0)
  refine own_go st2 ?_
  show own_Go p e below _ T2 (mkF m 15 #[.val (.ref it)] [(.ref r)])
  obtain ⟨T3, X3, e3, st3⟩ := own_cast X2 hx hZ hown (own_w hw 141 rfl) rfl (a := r) (Ls := #[.val (.ref it)]) (rest := []) (Ins.self kE2_r) (hb hby d9_15)
  refine own_go st3 ?_
  show own_Go p e below _ T3 (mkF m 18 #[.val (.ref it)] [(.ref r)])
  refine own_go (fun t_ k_ => XS.goto X3.here hx rfl (pc0 := 18) (pc' := 22) rfl (hb hby d9_18) (by decide) (by decide) k_) ?_
  show own_Go p e below _ T3 (mkF m 22 #[.val (.ref it)] [(.ref r)])
  refine own_retA X3 hx hlk hret (hb hby d9_22) rfl rfl (by decide) (by decide) ?_
  exact ⟨rfl, M2, by rw [e3]; exact ⟨kp2, E2, F2_th, F2_cu, F2_lr, F2_em⟩⟩
set_option maxRecDepth 65536 in
set_option maxHeartbeats 40000000 in
theorem rmNx_2 (l : Launch) (Z : State) (a0 : Array Value) (hw : ∀ d ∈ tables_1, d.before a0 Z = true) (ws : List Jvm.Cond) (it al ea : Addr) (kA : ClassId) (n mc lr : Int32) (u0 : Value) (u1 : Value) (u2 : Value) (h0 : Heap) (n0 : Nat) (Z0 : n0 ≤ h0.size) (O0 : Old Z n0 h0) (E_it : Exa Z h0 it "java/util/ArrayList$Itr") (F_it_th : Fld Z h0 it "java/util/ArrayList$Itr" "this$0" "Ljava/util/ArrayList;" (.ref al)) (F_it_cu : Fld Z h0 it "java/util/ArrayList$Itr" "cursor" "I" (.int (2 : Int32))) (F_it_lr : Fld Z h0 it "java/util/ArrayList$Itr" "lastRet" "I" (.int lr)) (F_it_em : Fld Z h0 it "java/util/ArrayList$Itr" "expectedModCount" "I" (.int mc)) (E_al : Exa Z h0 al "java/util/ArrayList") (F_al_ed : Fld Z h0 al "java/util/ArrayList" "elementData" "[Ljava/lang/Object;" (.ref ea)) (F_al_sz : Fld Z h0 al "java/util/ArrayList" "size" "I" (.int n)) (F_al_mc : Fld Z h0 al "java/util/AbstractList" "modCount" "I" (.int mc)) (V_ea : Arv Z h0 ea kA (.object "java/lang/Object") (10 : Int32) [u0, u1, u2, .null, .null, .null, .null, .null, .null, .null] .null) (g1 : n0 ≤ it) (hj : (2 : Int32) < n) (hu2 : u2.isRef = true) :
    own_Met l Z (⟨"java/util/ArrayList$Itr", "next", "()Ljava/lang/Object;"⟩ : MethodName) jdk_49_method_3_code 3 (some (.object "java/lang/Object")) ws ({ frames := 1, cells := 0, slots := 0, locals := 12 } : Room) #[(.ref it)] h0 (fun v h L => v = some u2 ∧ Fr n0 L ∧ Keep h0 h [it] ∧ Exa Z h it "java/util/ArrayList$Itr" ∧ Fld Z h it "java/util/ArrayList$Itr" "this$0" "Ljava/util/ArrayList;" (.ref al) ∧ Fld Z h it "java/util/ArrayList$Itr" "cursor" "I" (.int (3 : Int32)) ∧ Fld Z h it "java/util/ArrayList$Itr" "lastRet" "I" (.int (2 : Int32)) ∧ Fld Z h it "java/util/ArrayList$Itr" "expectedModCount" "I" (.int mc)) := by
  refine own_body (by first | exact plainFor_of_name pn_java_util_ArrayList_Itr | decide +kernel) ?_
  intro p e s m below meth c T0 X0 hx hby hml hret hlk hZ hown hnm e0
  have hown : s.vm.findClass "java/util/ArrayList$Itr" = some m.cls := hown
  have hnm : meth.name = "next" := hnm
  have N0 := Fr.nil n0
  rw [ef_17 m it]
  show own_Go p e below _ T0 (mkF m 0 #[.val (.ref it), .unset, .unset] [])
  have ne_al_it : al ≠ it := Exa.ne E_al E_it (by decide)
  have ne_ea_it : ea ≠ it := Ne.symm (Exa.neArv E_it V_ea (own_w hw 57 rfl))
  refine own_go (fun t_ k_ => XS.aloadN X0.here hx rfl (hb hby d17_0) rfl rfl k_) ?_
  show own_Go p e below _ T0 (mkF m 1 #[.val (.ref it), .unset, .unset] [(.ref it)])
  obtain ⟨_, T1, L1, X1, ⟨rfl, N1, e1⟩, st1⟩ := own_callV X0 hx hZ (y := (⟨"java/util/ArrayList$Itr", "checkForComodification", "()V"⟩ : MethodName)) (z := (⟨"java/util/ArrayList$Itr", "checkForComodification", "()V"⟩ : MethodName)) (b := it) (argsL := []) (rest := []) (Ls := #[.val (.ref it), .unset, .unset]) hown (own_w hw 135 rfl) (own_w hw 136 rfl) (own_w hw 138 rfl) (notFace_of_selects (args := #[]) (mvT hZ (own_w hw 138 rfl))) (own_w hw 137 rfl) (own_w hw 139 rfl) (own_w hw 58 rfl) (by decide) e0 E_it (rmCM l Z a0 hw [] it al mc h0 n0 Z0 E_it F_it_th F_it_em E_al F_al_mc) 0 (by decide) (by decide) (by decide) (by decide) (by rw [hml]; rfl) (lenOf pd_4 rfl) rfl (Nat.le_of_eq rfl) (hb hby d17_1)
  have M1 := Fr.app N0 N1
  refine own_go st1 ?_
  show own_Go p e below _ T1 (mkF m 4 #[.val (.ref it), .unset, .unset] [])
  refine own_go (fun t_ k_ => XS.aloadN X1.here hx rfl (hb hby d17_4) rfl rfl k_) ?_
  show own_Go p e below _ T1 (mkF m 5 #[.val (.ref it), .unset, .unset] [(.ref it)])
  obtain ⟨T2, X2, e2, st2⟩ := getF X1 hx hZ hown (host := "") (Or.inl (own_w hw 89 rfl)) Via.refl e1 F_it_cu (g := (mkF m 5 #[.val (.ref it), .unset, .unset] [(.ref it)])) rfl rfl (hb hby d17_5)
  refine own_go st2 ?_
  show own_Go p e below _ T2 (mkF m 8 #[.val (.ref it), .unset, .unset] [(.int (2 : Int32))])
  refine own_go (fun t_ k_ => XS.istoreN X2.here hx rfl (hb hby d17_8) rfl (l' := #[.val (.ref it), .val (.int (2 : Int32)), .unset]) rfl k_) ?_
  show own_Go p e below _ T2 (mkF m 9 #[.val (.ref it), .val (.int (2 : Int32)), .unset] [])
  refine own_go (fun t_ k_ => XS.iloadN X2.here hx rfl (hb hby d17_9) rfl k_) ?_
  show own_Go p e below _ T2 (mkF m 10 #[.val (.ref it), .val (.int (2 : Int32)), .unset] [(.int (2 : Int32))])
  refine own_go (fun t_ k_ => XS.aloadN X2.here hx rfl (hb hby d17_10) rfl rfl k_) ?_
  show own_Go p e below _ T2 (mkF m 11 #[.val (.ref it), .val (.int (2 : Int32)), .unset] [(.ref it), (.int (2 : Int32))])
  obtain ⟨T3, X3, e3, st3⟩ := getF X2 hx hZ hown (host := "") (Or.inl (own_w hw 63 rfl)) Via.refl e2 F_it_th (g := (mkF m 11 #[.val (.ref it), .val (.int (2 : Int32)), .unset] [(.ref it), (.int (2 : Int32))])) rfl rfl (hb hby d17_11)
  refine own_go st3 ?_
  show own_Go p e below _ T3 (mkF m 14 #[.val (.ref it), .val (.int (2 : Int32)), .unset] [(.ref al), (.int (2 : Int32))])
  obtain ⟨T4, X4, e4, st4⟩ := getF X3 hx hZ hown (Or.inr (own_w hw 91 rfl)) Via.refl e3 F_al_sz (g := (mkF m 14 #[.val (.ref it), .val (.int (2 : Int32)), .unset] [(.ref al), (.int (2 : Int32))])) rfl rfl (hb hby d17_14)
  refine own_go st4 ?_
  show own_Go p e below _ T4 (mkF m 17 #[.val (.ref it), .val (.int (2 : Int32)), .unset] [(.int n), (.int (2 : Int32))])
  refine own_go (fun t_ k_ => XS.icmpYes X4.here hx rfl (pc0 := 17) (pc' := 28) rfl (hb hby d17_17) rfl (XT.ii_lt_t hj) (by decide) (by decide) k_) ?_
  show own_Go p e below _ T4 (mkF m 28 #[.val (.ref it), .val (.int (2 : Int32)), .unset] [])
  refine own_go (fun t_ k_ => XS.aloadN X4.here hx rfl (hb hby d17_28) rfl rfl k_) ?_
  show own_Go p e below _ T4 (mkF m 29 #[.val (.ref it), .val (.int (2 : Int32)), .unset] [(.ref it)])
  obtain ⟨T5, X5, e5, st5⟩ := getF X4 hx hZ hown (host := "") (Or.inl (own_w hw 63 rfl)) Via.refl e4 F_it_th (g := (mkF m 29 #[.val (.ref it), .val (.int (2 : Int32)), .unset] [(.ref it)])) rfl rfl (hb hby d17_29)
  refine own_go st5 ?_
  show own_Go p e below _ T5 (mkF m 32 #[.val (.ref it), .val (.int (2 : Int32)), .unset] [(.ref al)])
  obtain ⟨T6, X6, e6, st6⟩ := getF X5 hx hZ hown (host := "") (Or.inl (own_w hw 140 rfl)) Via.refl e5 F_al_ed (g := (mkF m 32 #[.val (.ref it), .val (.int (2 : Int32)), .unset] [(.ref al)])) rfl rfl (hb hby d17_32)
  refine own_go st6 ?_
  show own_Go p e below _ T6 (mkF m 35 #[.val (.ref it), .val (.int (2 : Int32)), .unset] [(.ref ea)])
  refine own_go (fun t_ k_ => XS.astoreN X6.here hx rfl (hb hby d17_35) rfl rfl (l' := #[.val (.ref it), .val (.int (2 : Int32)), .val (.ref ea)]) rfl k_) ?_
  show own_Go p e below _ T6 (mkF m 36 #[.val (.ref it), .val (.int (2 : Int32)), .val (.ref ea)] [])
  refine own_go (fun t_ k_ => XS.iloadN X6.here hx rfl (hb hby d17_36) rfl k_) ?_
  show own_Go p e below _ T6 (mkF m 37 #[.val (.ref it), .val (.int (2 : Int32)), .val (.ref ea)] [(.int (2 : Int32))])
  refine own_go (fun t_ k_ => XS.aloadN X6.here hx rfl (hb hby d17_37) rfl rfl k_) ?_
  show own_Go p e below _ T6 (mkF m 38 #[.val (.ref it), .val (.int (2 : Int32)), .val (.ref ea)] [(.ref ea), (.int (2 : Int32))])
  refine own_go (own_len X6 hx hZ e6 (Ls := #[.val (.ref it), .val (.int (2 : Int32)), .val (.ref ea)]) (rest := [(.int (2 : Int32))]) V_ea (hb hby d17_38)) ?_
  show own_Go p e below _ T6 (mkF m 39 #[.val (.ref it), .val (.int (2 : Int32)), .val (.ref ea)] [(.int (10 : Int32)), (.int (2 : Int32))])
  refine own_go (fun t_ k_ => XS.icmpYes X6.here hx rfl (pc0 := 39) (pc' := 50) rfl (hb hby d17_39) rfl (XT.ii_lt_t (by decide)) (by decide) (by decide) k_) ?_
  show own_Go p e below _ T6 (mkF m 50 #[.val (.ref it), .val (.int (2 : Int32)), .val (.ref ea)] [])
  refine own_go (fun t_ k_ => XS.aloadN X6.here hx rfl (hb hby d17_50) rfl rfl k_) ?_
  show own_Go p e below _ T6 (mkF m 51 #[.val (.ref it), .val (.int (2 : Int32)), .val (.ref ea)] [(.ref it)])
  refine own_go (fun t_ k_ => XS.iloadN X6.here hx rfl (hb hby d17_51) rfl k_) ?_
  show own_Go p e below _ T6 (mkF m 52 #[.val (.ref it), .val (.int (2 : Int32)), .val (.ref ea)] [(.int (2 : Int32)), (.ref it)])
  refine own_go (fun t_ k_ => XS.iconst X6.here hx rfl (hb hby d17_52) k_) ?_
  show own_Go p e below _ T6 (mkF m 53 #[.val (.ref it), .val (.int (2 : Int32)), .val (.ref ea)] [(.int (1 : Int32)), (.int (2 : Int32)), (.ref it)])
  refine own_go (fun t_ k_ => XS.iadd X6.here hx rfl (hb hby d17_53) rfl k_) ?_
  show own_Go p e below _ T6 (mkF m 54 #[.val (.ref it), .val (.int (2 : Int32)), .val (.ref ea)] [(.int ((2 : Int32) + (1 : Int32))), (.ref it)])
  rw [show ((2 : Int32) + (1 : Int32)) = (3 : Int32) from by decide]
  show own_Go p e below _ T6 (mkF m 54 #[.val (.ref it), .val (.int (2 : Int32)), .val (.ref ea)] [(.int (3 : Int32)), (.ref it)])
  obtain ⟨T7, h7, L7, X7, N7, e7, W7, G7, st7⟩ := own_putF X6 hx hZ hown (v := (.int (3 : Int32))) (host := "") (Or.inl (own_w hw 89 rfl)) Via.refl e6 F_it_cu E_it (Or.inl (own_w hw 90 rfl)) (own_w hw 57 rfl) .int (by decide) rfl rfl M1 g1 (Ls := #[.val (.ref it), .val (.int (2 : Int32)), .val (.ref ea)]) (rest := []) (hb hby d17_54)
  have H7_this_0 := F_it_th.other W7 (Or.inr (slot_ne (Or.inr (own_w hw 64 rfl)) (Or.inl (own_w hw 90 rfl)) (by decide) (t := (.object "java/util/ArrayList")) (t' := .int) (by decide) (by decide)))
  have H7_lastRet := F_it_lr.other W7 (Or.inr (slot_ne (Or.inl (own_w hw 67 rfl)) (Or.inl (own_w hw 90 rfl)) (by decide) (t := .int) (t' := .int) (by decide) (by decide)))
  have H7_expectedModCount := F_it_em.other W7 (Or.inr (slot_ne (Or.inl (own_w hw 71 rfl)) (Or.inl (own_w hw 90 rfl)) (by decide) (t := .int) (t' := .int) (by decide) (by decide)))
  have H7_al_elementData := F_al_ed.other W7 (Or.inl ne_al_it)
  have H7_al_size := F_al_sz.other W7 (Or.inl ne_al_it)
  have H7_al_modCount := F_al_mc.other W7 (Or.inl ne_al_it)
  have old7 := O0.wr W7 g1
  have kp7 := (Keep.refl h0 [it]).wr W7 (Or.inl (List.mem_of_getElem? (i := 0) rfl))
  refine own_go st7 ?_
  show own_Go p e below _ T7 (mkF m 57 #[.val (.ref it), .val (.int (2 : Int32)), .val (.ref ea)] [])
  refine own_go (fun t_ k_ => XS.aloadN X7.here hx rfl (hb hby d17_57) rfl rfl k_) ?_
  show own_Go p e below _ T7 (mkF m 58 #[.val (.ref it), .val (.int (2 : Int32)), .val (.ref ea)] [(.ref ea)])
  refine own_go (fun t_ k_ => XS.aloadN X7.here hx rfl (hb hby d17_58) rfl rfl k_) ?_
  show own_Go p e below _ T7 (mkF m 59 #[.val (.ref it), .val (.int (2 : Int32)), .val (.ref ea)] [(.ref it), (.ref ea)])
  refine own_go (fun t_ k_ => XS.iloadN X7.here hx rfl (hb hby d17_59) rfl k_) ?_
  show own_Go p e below _ T7 (mkF m 60 #[.val (.ref it), .val (.int (2 : Int32)), .val (.ref ea)] [(.int (2 : Int32)), (.ref it), (.ref ea)])
  refine own_go (fun t_ k_ => XS.dupX1 X7.here hx rfl (hb hby d17_60) rfl rfl rfl k_) ?_
  show own_Go p e below _ T7 (mkF m 61 #[.val (.ref it), .val (.int (2 : Int32)), .val (.ref ea)] [(.int (2 : Int32)), (.ref it), (.int (2 : Int32)), (.ref ea)])
  obtain ⟨T8, h8, L8, X8, N8, e8, W8, G8, st8⟩ := own_putF X7 hx hZ hown (v := (.int (2 : Int32))) (host := "") (Or.inl (own_w hw 66 rfl)) Via.refl e7 H7_lastRet (E_it.wr W7) (Or.inl (own_w hw 67 rfl)) (own_w hw 57 rfl) .int (by decide) rfl rfl N7 g1 (Ls := #[.val (.ref it), .val (.int (2 : Int32)), .val (.ref ea)]) (rest := [(.int (2 : Int32)), (.ref ea)]) (hb hby d17_61)
  have H8_this_0 := H7_this_0.other W8 (Or.inr (slot_ne (Or.inr (own_w hw 64 rfl)) (Or.inl (own_w hw 67 rfl)) (by decide) (t := (.object "java/util/ArrayList")) (t' := .int) (by decide) (by decide)))
  have H8_cursor := G7.other W8 (Or.inr (slot_ne (Or.inl (own_w hw 90 rfl)) (Or.inl (own_w hw 67 rfl)) (by decide) (t := .int) (t' := .int) (by decide) (by decide)))
  have H8_expectedModCount := H7_expectedModCount.other W8 (Or.inr (slot_ne (Or.inl (own_w hw 71 rfl)) (Or.inl (own_w hw 67 rfl)) (by decide) (t := .int) (t' := .int) (by decide) (by decide)))
  have H8_al_elementData := H7_al_elementData.other W8 (Or.inl ne_al_it)
  have H8_al_size := H7_al_size.other W8 (Or.inl ne_al_it)
  have H8_al_modCount := H7_al_modCount.other W8 (Or.inl ne_al_it)
  have old8 := old7.wr W8 g1
  have kp8 := kp7.wr W8 (Or.inl (List.mem_of_getElem? (i := 0) rfl))
  refine own_go st8 ?_
  show own_Go p e below _ T8 (mkF m 64 #[.val (.ref it), .val (.int (2 : Int32)), .val (.ref ea)] [(.int (2 : Int32)), (.ref ea)])
  refine own_go (own_ldR X8 hx hZ e8 (Ls := #[.val (.ref it), .val (.int (2 : Int32)), .val (.ref ea)]) (rest := []) ((V_ea.other W7 ne_ea_it).other W8 ne_ea_it) rfl (j := (2 : Int32)) (by decide) (v := u2) rfl (hb hby d17_64)) ?_
  show own_Go p e below _ T8 (mkF m 65 #[.val (.ref it), .val (.int (2 : Int32)), .val (.ref ea)] [u2])
  refine own_retA X8 hx hlk hret (hb hby d17_65) rfl hu2 (by decide) (by decide) ?_
  exact ⟨rfl, N8, by rw [e8]; exact ⟨kp8, ((E_it.wr W7).wr W8), H8_this_0, H8_cursor, G8, H8_expectedModCount⟩⟩
set_option maxRecDepth 65536 in
set_option maxHeartbeats 40000000 in
theorem rmLY_2 (l : Launch) (Z : State) (a0 : Array Value) (hw : ∀ d ∈ tables_1, d.before a0 Z = true) (ws : List Jvm.Cond) (it al ea : Addr) (kA : ClassId) (n mc lr : Int32) (r : Addr) (u0 : Value) (u1 : Value) (h0 : Heap) (n0 : Nat) (Z0 : n0 ≤ h0.size) (O0 : Old Z n0 h0) (E_it : Exa Z h0 it "java/util/ArrayList$Itr") (F_it_th : Fld Z h0 it "java/util/ArrayList$Itr" "this$0" "Ljava/util/ArrayList;" (.ref al)) (F_it_cu : Fld Z h0 it "java/util/ArrayList$Itr" "cursor" "I" (.int (2 : Int32))) (F_it_lr : Fld Z h0 it "java/util/ArrayList$Itr" "lastRet" "I" (.int lr)) (F_it_em : Fld Z h0 it "java/util/ArrayList$Itr" "expectedModCount" "I" (.int mc)) (E_al : Exa Z h0 al "java/util/ArrayList") (F_al_ed : Fld Z h0 al "java/util/ArrayList" "elementData" "[Ljava/lang/Object;" (.ref ea)) (F_al_sz : Fld Z h0 al "java/util/ArrayList" "size" "I" (.int n)) (F_al_mc : Fld Z h0 al "java/util/AbstractList" "modCount" "I" (.int mc)) (V_ea : Arv Z h0 ea kA (.object "java/lang/Object") (10 : Int32) [u0, u1, (.ref r), .null, .null, .null, .null, .null, .null, .null] .null) (g1 : n0 ≤ it) (hj : (2 : Int32) < n) (hjn : ¬ (2 : Int32) = n) (E_r : Exa Z h0 r "com/example/gridtally/gridtally/core/Row") :
    own_Met l Z (⟨"com/example/gridtally/gridtally/core/RowSource", "lambda$of$0", "(Ljava/util/Iterator;)Lcom/example/gridtally/gridtally/core/Row;"⟩ : MethodName) prog_48_method_3_code 1 (some (.object "com/example/gridtally/gridtally/core/Row")) ws ({ frames := 2, cells := 0, slots := 0, locals := 26 } : Room) #[(.ref it)] h0 (fun v h L => v = some (.ref r) ∧ Fr n0 L ∧ Keep h0 h [it] ∧ Exa Z h it "java/util/ArrayList$Itr" ∧ Fld Z h it "java/util/ArrayList$Itr" "this$0" "Ljava/util/ArrayList;" (.ref al) ∧ Fld Z h it "java/util/ArrayList$Itr" "cursor" "I" (.int (3 : Int32)) ∧ Fld Z h it "java/util/ArrayList$Itr" "lastRet" "I" (.int (2 : Int32)) ∧ Fld Z h it "java/util/ArrayList$Itr" "expectedModCount" "I" (.int mc)) := by
  refine own_body (by first | exact plainFor_of_name pn_com_example_gridtally_gridtally_core_RowSource | decide +kernel) ?_
  intro p e s m below meth c T0 X0 hx hby hml hret hlk hZ hown hnm e0
  have hown : s.vm.findClass "com/example/gridtally/gridtally/core/RowSource" = some m.cls := hown
  have hnm : meth.name = "lambda$of$0" := hnm
  have N0 := Fr.nil n0
  rw [ef_9 m it]
  show own_Go p e below _ T0 (mkF m 0 #[.val (.ref it)] [])
  have ne_al_it : al ≠ it := Exa.ne E_al E_it (by decide)
  have ne_ea_it : ea ≠ it := Ne.symm (Exa.neArv E_it V_ea (own_w hw 57 rfl))
  refine own_go (fun t_ k_ => XS.aloadN X0.here hx rfl (hb hby d9_0) rfl rfl k_) ?_
  show own_Go p e below _ T0 (mkF m 1 #[.val (.ref it)] [(.ref it)])
  obtain ⟨_, T1, L1, X1, ⟨rfl, N1, e1⟩, st1⟩ := own_callI X0 hx hZ (xi := (⟨"java/util/Iterator", "hasNext", "()Z"⟩ : MethodName)) (y := (⟨"java/util/ArrayList$Itr", "hasNext", "()Z"⟩ : MethodName)) (b := it) (argsL := []) (rest := []) (Ls := #[.val (.ref it)]) hown (own_w hw 80 rfl) (own_w hw 81 rfl) (mvT hZ (own_w hw 82 rfl)) (own_w hw 83 rfl) (own_w hw 84 rfl) (own_w hw 85 rfl) (mvT hZ (own_w hw 86 rfl)) (own_w hw 87 rfl) (own_w hw 88 rfl) (own_w hw 58 rfl) (by decide) e0 E_it (rmHN l Z a0 hw [] it al (2 : Int32) n h0 n0 Z0 E_it F_it_th F_it_cu E_al F_al_sz) 0 (by decide) (by decide) (by decide) (by decide) (by rw [hml]; rfl) (lenOf pd_5 rfl) rfl (Nat.le_of_eq rfl) (hb hby d9_1)
  have M1 := Fr.app N0 N1
  refine own_go st1 ?_
  show own_Go p e below _ T1 (mkF m 6 #[.val (.ref it)] [(.int (if (2 : Int32) = n then 0 else 1))])
  refine own_go (fun t_ k_ => XS.ifNo X1.here hx rfl (hb hby d9_6) rfl (XT.i0_eq_f (by rw [if_neg hjn]; decide)) k_) ?_
  show own_Go p e below _ T1 (mkF m 9 #[.val (.ref it)] [])
  refine own_go (fun t_ k_ => XS.aloadN X1.here hx rfl (hb hby d9_9) rfl rfl k_) ?_
  show own_Go p e below _ T1 (mkF m 10 #[.val (.ref it)] [(.ref it)])
  obtain ⟨_, T2, L2, X2, ⟨rfl, N2, K2, E2, F2_th, F2_cu, F2_lr, F2_em⟩, st2⟩ := own_callI X1 hx hZ (xi := (⟨"java/util/Iterator", "next", "()Ljava/lang/Object;"⟩ : MethodName)) (y := (⟨"java/util/ArrayList$Itr", "next", "()Ljava/lang/Object;"⟩ : MethodName)) (b := it) (argsL := []) (rest := []) (Ls := #[.val (.ref it)]) hown (own_w hw 127 rfl) (own_w hw 128 rfl) (mvT hZ (own_w hw 129 rfl)) (own_w hw 130 rfl) (own_w hw 131 rfl) (own_w hw 132 rfl) (mvT hZ (own_w hw 133 rfl)) (own_w hw 87 rfl) (own_w hw 134 rfl) (own_w hw 58 rfl) (by decide) e1 E_it (rmNx_2 l Z a0 hw [] it al ea kA n mc lr u0 u1 (.ref r) h0 n0 (own_oldge O0) O0 E_it F_it_th F_it_cu F_it_lr F_it_em E_al F_al_ed F_al_sz F_al_mc V_ea g1 hj rfl) 0 (by decide) (by decide) (by decide) (by decide) (by rw [hml]; rfl) (lenOf pd_2 rfl) rfl (Nat.le_of_eq rfl) (hb hby d9_10)
  have M2 := Fr.app M1 N2
  have kE2_it := E_it.keep K2
  have kE2_al := E_al.keep K2
  have kF2_al_elementData := F_al_ed.keep K2 (ninS ne_al_it nin0)
  have kF2_al_size := F_al_sz.keep K2 (ninS ne_al_it nin0)
  have kF2_al_modCount := F_al_mc.keep K2 (ninS ne_al_it nin0)
  have kE2_r := E_r.keep K2
  have kV2_ea := V_ea.keep K2 (ninS ne_ea_it nin0)
  have old2 := O0.keep K2 (allS g1 all0)
  have kp2 := (Keep.refl h0 [it]).trans K2 (allS (Or.inl (List.mem_of_getElem? (i := 0) rfl)) all0)
  refine own_go st2 ?_
  show own_Go p e below _ T2 (mkF m 15 #[.val (.ref it)] [(.ref r)])
  obtain ⟨T3, X3, e3, st3⟩ := own_cast X2 hx hZ hown (own_w hw 141 rfl) rfl (a := r) (Ls := #[.val (.ref it)]) (rest := []) (Ins.self kE2_r) (hb hby d9_15)
  refine own_go st3 ?_
  show own_Go p e below _ T3 (mkF m 18 #[.val (.ref it)] [(.ref r)])
  refine own_go (fun t_ k_ => XS.goto X3.here hx rfl (pc0 := 18) (pc' := 22) rfl (hb hby d9_18) (by decide) (by decide) k_) ?_
  show own_Go p e below _ T3 (mkF m 22 #[.val (.ref it)] [(.ref r)])
  refine own_retA X3 hx hlk hret (hb hby d9_22) rfl rfl (by decide) (by decide) ?_
  exact ⟨rfl, M2, by rw [e3]; exact ⟨kp2, E2, F2_th, F2_cu, F2_lr, F2_em⟩⟩
set_option maxRecDepth 65536 in
set_option maxHeartbeats 40000000 in
theorem rmLN (l : Launch) (Z : State) (a0 : Array Value) (hw : ∀ d ∈ tables_1, d.before a0 Z = true) (ws : List Jvm.Cond) (it al : Addr) (n : Int32) (h0 : Heap) (n0 : Nat) (Z0 : n0 ≤ h0.size) (E_it : Exa Z h0 it "java/util/ArrayList$Itr") (F_it_th : Fld Z h0 it "java/util/ArrayList$Itr" "this$0" "Ljava/util/ArrayList;" (.ref al)) (F_it_cu : Fld Z h0 it "java/util/ArrayList$Itr" "cursor" "I" (.int n)) (E_al : Exa Z h0 al "java/util/ArrayList") (F_al_sz : Fld Z h0 al "java/util/ArrayList" "size" "I" (.int n)) :
    own_Met l Z (⟨"com/example/gridtally/gridtally/core/RowSource", "lambda$of$0", "(Ljava/util/Iterator;)Lcom/example/gridtally/gridtally/core/Row;"⟩ : MethodName) prog_48_method_3_code 1 (some (.object "com/example/gridtally/gridtally/core/Row")) ws ({ frames := 1, cells := 0, slots := 0, locals := 12 } : Room) #[(.ref it)] h0 (fun v h L => v = some .null ∧ Fr n0 L ∧ h = h0) := by
  refine own_body (by first | exact plainFor_of_name pn_com_example_gridtally_gridtally_core_RowSource | decide +kernel) ?_
  intro p e s m below meth c T0 X0 hx hby hml hret hlk hZ hown hnm e0
  have hown : s.vm.findClass "com/example/gridtally/gridtally/core/RowSource" = some m.cls := hown
  have hnm : meth.name = "lambda$of$0" := hnm
  have N0 := Fr.nil n0
  rw [ef_9 m it]
  show own_Go p e below _ T0 (mkF m 0 #[.val (.ref it)] [])
  refine own_go (fun t_ k_ => XS.aloadN X0.here hx rfl (hb hby d9_0) rfl rfl k_) ?_
  show own_Go p e below _ T0 (mkF m 1 #[.val (.ref it)] [(.ref it)])
  obtain ⟨_, T1, L1, X1, ⟨rfl, N1, e1⟩, st1⟩ := own_callI X0 hx hZ (xi := (⟨"java/util/Iterator", "hasNext", "()Z"⟩ : MethodName)) (y := (⟨"java/util/ArrayList$Itr", "hasNext", "()Z"⟩ : MethodName)) (b := it) (argsL := []) (rest := []) (Ls := #[.val (.ref it)]) hown (own_w hw 80 rfl) (own_w hw 81 rfl) (mvT hZ (own_w hw 82 rfl)) (own_w hw 83 rfl) (own_w hw 84 rfl) (own_w hw 85 rfl) (mvT hZ (own_w hw 86 rfl)) (own_w hw 87 rfl) (own_w hw 88 rfl) (own_w hw 58 rfl) (by decide) e0 E_it (rmHN l Z a0 hw [] it al n n h0 n0 Z0 E_it F_it_th F_it_cu E_al F_al_sz) 0 (by decide) (by decide) (by decide) (by decide) (by rw [hml]; rfl) (lenOf pd_5 rfl) rfl (Nat.le_of_eq rfl) (hb hby d9_1)
  have M1 := Fr.app N0 N1
  refine own_go st1 ?_
  show own_Go p e below _ T1 (mkF m 6 #[.val (.ref it)] [(.int (if n = n then 0 else 1))])
  refine own_go (fun t_ k_ => XS.ifYes X1.here hx rfl (pc0 := 6) (pc' := 21) rfl (hb hby d9_6) rfl (XT.i0_eq_t (if_pos rfl)) (by decide) (by decide) k_) ?_
  show own_Go p e below _ T1 (mkF m 21 #[.val (.ref it)] [])
  refine own_go (fun t_ k_ => XS.aconstNull X1.here hx rfl (hb hby d9_21) k_) ?_
  show own_Go p e below _ T1 (mkF m 22 #[.val (.ref it)] [.null])
  refine own_retA X1 hx hlk hret (hb hby d9_22) rfl rfl (by decide) (by decide) ?_
  exact ⟨rfl, M1, e1⟩
set_option maxRecDepth 65536 in
set_option maxHeartbeats 40000000 in
theorem rmSz (l : Launch) (Z : State) (a0 : Array Value) (hw : ∀ d ∈ tables_1, d.before a0 Z = true) (ws : List Jvm.Cond) (al : Addr) (n : Int32) (h0 : Heap) (n0 : Nat) (Z0 : n0 ≤ h0.size) (E_al : Exa Z h0 al "java/util/ArrayList") (F_al_sz : Fld Z h0 al "java/util/ArrayList" "size" "I" (.int n)) :
    own_Met l Z (⟨"java/util/ArrayList", "size", "()I"⟩ : MethodName) jdk_38_method_8_code 1 (some .int) ws ({ frames := 0, cells := 0, slots := 0, locals := 0 } : Room) #[(.ref al)] h0 (fun v h L => v = some (.int n) ∧ Fr n0 L ∧ h = h0) := by
  refine own_body (by first | exact plainFor_of_name pn_java_util_ArrayList | decide +kernel) ?_
  intro p e s m below meth c T0 X0 hx hby hml hret hlk hZ hown hnm e0
  have hown : s.vm.findClass "java/util/ArrayList" = some m.cls := hown
  have hnm : meth.name = "size" := hnm
  have N0 := Fr.nil n0
  rw [ef_11 m al]
  show own_Go p e below _ T0 (mkF m 0 #[.val (.ref al)] [])
  refine own_go (fun t_ k_ => XS.aloadN X0.here hx rfl (hb hby d11_0) rfl rfl k_) ?_
  show own_Go p e below _ T0 (mkF m 1 #[.val (.ref al)] [(.ref al)])
  obtain ⟨T1, X1, e1, st1⟩ := getF X0 hx hZ hown (host := "") (Or.inl (own_w hw 98 rfl)) Via.refl e0 F_al_sz (g := (mkF m 1 #[.val (.ref al)] [(.ref al)])) rfl rfl (hb hby d11_1)
  refine own_go st1 ?_
  show own_Go p e below _ T1 (mkF m 4 #[.val (.ref al)] [(.int n)])
  refine own_retI X1 hx hlk hret (hb hby d11_4) (by decide) (by decide) ?_
  exact ⟨rfl, N0, e1⟩
set_option maxRecDepth 65536 in
set_option maxHeartbeats 40000000 in
theorem rm0 (l : Launch) (Z : State) (a0 : Array Value) (hw : ∀ d ∈ tables_1, d.before a0 Z = true) (ws : List Jvm.Cond) (p1 : Int32) (q1 q2 q3 : Int64) (da : Addr) (kd : ClassId) (h0 : Heap) (n0 : Nat) (Z0 : n0 ≤ h0.size) (O0 : Old Z n0 h0) (S_D : Sta Z Z.heap "java/util/ArrayList" "DEFAULTCAPACITY_EMPTY_ELEMENTDATA" "[Ljava/lang/Object;" (.ref da)) (V_d : Arv Z Z.heap da kd (.object "java/lang/Object") (0 : Int32) [] .null) :
    own_MetH l Z x code maxLocals ret ws room_1 #[(.int p1), (.long q1), (.long q2), (.long q3)] h0 (fun v h L => v = some (.int 1) ∧ Fr n0 L) := by
  refine own_bodyH (by first | exact plainFor_of_name pn_com_example_gridtally_gridtally_core_RowSourceOfPinLaw | decide +kernel) ?_
  intro p e s m below meth c T0 X0 hx hby hml hret hlk hZH hnamed hnm e0
  have hZ := hZH.wide
  have hown := findClass_of_methodNamed hnamed
  have hown : s.vm.findClass "com/example/gridtally/gridtally/core/RowSourceOfPinLaw" = some m.cls := hown
  have hnm : meth.name = "law" := hnm
  have N0 := Fr.nil n0
  rw [ef_0 m p1 q1 q2 q3]
  show own_Go p e below _ T0 (mkF m 0 #[.val (.int p1), .val (.long q1), .second, .val (.long q2), .second, .val (.long q3), .second, .unset, .unset, .unset, .unset, .unset, .unset, .unset, .unset, .unset, .unset, .unset, .unset, .unset, .unset] [])
  refine own_go (fun t_ k_ => XS.iloadN X0.here hx rfl (hb hby at_0) rfl k_) ?_
  show own_Go p e below _ T0 (mkF m 1 #[.val (.int p1), .val (.long q1), .second, .val (.long q2), .second, .val (.long q3), .second, .unset, .unset, .unset, .unset, .unset, .unset, .unset, .unset, .unset, .unset, .unset, .unset, .unset, .unset] [(.int p1)])
  refine own_go (fun t_ k_ => XS.iconst X0.here hx rfl (hb hby at_1) k_) ?_
  show own_Go p e below _ T0 (mkF m 2 #[.val (.int p1), .val (.long q1), .second, .val (.long q2), .second, .val (.long q3), .second, .unset, .unset, .unset, .unset, .unset, .unset, .unset, .unset, .unset, .unset, .unset, .unset, .unset, .unset] [(.int (3 : Int32)), (.int p1)])
  refine own_go (fun t_ k_ => XS.iand X0.here hx rfl (hb hby at_2) rfl k_) ?_
  show own_Go p e below _ T0 (mkF m 3 #[.val (.int p1), .val (.long q1), .second, .val (.long q2), .second, .val (.long q3), .second, .unset, .unset, .unset, .unset, .unset, .unset, .unset, .unset, .unset, .unset, .unset, .unset, .unset, .unset] [(.int (p1 &&& (3 : Int32)))])
  refine own_go (fun t_ k_ => XS.istore X0.here hx rfl (hb hby at_3) rfl (l' := #[.val (.int p1), .val (.long q1), .second, .val (.long q2), .second, .val (.long q3), .second, .val (.int (p1 &&& (3 : Int32))), .unset, .unset, .unset, .unset, .unset, .unset, .unset, .unset, .unset, .unset, .unset, .unset, .unset]) rfl k_) ?_
  show own_Go p e below _ T0 (mkF m 5 #[.val (.int p1), .val (.long q1), .second, .val (.long q2), .second, .val (.long q3), .second, .val (.int (p1 &&& (3 : Int32))), .unset, .unset, .unset, .unset, .unset, .unset, .unset, .unset, .unset, .unset, .unset, .unset, .unset] [])
  obtain ⟨T1, h1, b1, X1, e1, E1, g1, A1, D1, st1⟩ := own_newO X0 hx hZ hown (own_w hw 0 rfl) (own_w hw 1 rfl) (own_w hw 2 rfl) e0 (Ls := #[.val (.int p1), .val (.long q1), .second, .val (.long q2), .second, .val (.long q3), .second, .val (.int (p1 &&& (3 : Int32))), .unset, .unset, .unset, .unset, .unset, .unset, .unset, .unset, .unset, .unset, .unset, .unset, .unset]) (st := []) (hb hby at_5) (by decide) (by decide)
  have ge_b1 : n0 ≤ b1 := g1 ▸ own_oldge O0
  have old1 := O0.ext E1
  have F1_source : Fld Z h1 b1 "com/example/gridtally/gridtally/core/Row" "source" "Lcom/example/gridtally/gridtally/core/CsvFile;" .null := D1 (Or.inr (own_w hw 12 rfl)) (ty := (.object "com/example/gridtally/gridtally/core/CsvFile")) (by decide)
  have F1_line : Fld Z h1 b1 "com/example/gridtally/gridtally/core/Row" "line" "J" (.long (0 : Int64)) := D1 (Or.inr (own_w hw 14 rfl)) (ty := .long) (by decide)
  have F1_bytes : Fld Z h1 b1 "com/example/gridtally/gridtally/core/Row" "bytes" "[B" .null := D1 (Or.inr (own_w hw 16 rfl)) (ty := (.array .byte)) (by decide)
  have F1_ends : Fld Z h1 b1 "com/example/gridtally/gridtally/core/Row" "ends" "[I" .null := D1 (Or.inr (own_w hw 18 rfl)) (ty := (.array .int)) (by decide)
  refine own_go st1 ?_
  show own_Go p e below _ T1 (mkF m 8 #[.val (.int p1), .val (.long q1), .second, .val (.long q2), .second, .val (.long q3), .second, .val (.int (p1 &&& (3 : Int32))), .unset, .unset, .unset, .unset, .unset, .unset, .unset, .unset, .unset, .unset, .unset, .unset, .unset] [(.ref b1)])
  refine own_go (fun t_ k_ => XS.dup X1.here hx rfl (hb hby at_8) rfl rfl k_) ?_
  show own_Go p e below _ T1 (mkF m 9 #[.val (.int p1), .val (.long q1), .second, .val (.long q2), .second, .val (.long q3), .second, .val (.int (p1 &&& (3 : Int32))), .unset, .unset, .unset, .unset, .unset, .unset, .unset, .unset, .unset, .unset, .unset, .unset, .unset] [(.ref b1), (.ref b1)])
  refine own_go (fun t_ k_ => XS.aconstNull X1.here hx rfl (hb hby at_9) k_) ?_
  show own_Go p e below _ T1 (mkF m 10 #[.val (.int p1), .val (.long q1), .second, .val (.long q2), .second, .val (.long q3), .second, .val (.int (p1 &&& (3 : Int32))), .unset, .unset, .unset, .unset, .unset, .unset, .unset, .unset, .unset, .unset, .unset, .unset, .unset] [.null, (.ref b1), (.ref b1)])
  refine own_go (fun t_ k_ => XS.lloadN X1.here hx rfl (hb hby at_10) rfl k_) ?_
  show own_Go p e below _ T1 (mkF m 11 #[.val (.int p1), .val (.long q1), .second, .val (.long q2), .second, .val (.long q3), .second, .val (.int (p1 &&& (3 : Int32))), .unset, .unset, .unset, .unset, .unset, .unset, .unset, .unset, .unset, .unset, .unset, .unset, .unset] [(.long q1), .null, (.ref b1), (.ref b1)])
  refine own_go (fun t_ k_ => XS.iconst X1.here hx rfl (hb hby at_11) k_) ?_
  show own_Go p e below _ T1 (mkF m 12 #[.val (.int p1), .val (.long q1), .second, .val (.long q2), .second, .val (.long q3), .second, .val (.int (p1 &&& (3 : Int32))), .unset, .unset, .unset, .unset, .unset, .unset, .unset, .unset, .unset, .unset, .unset, .unset, .unset] [(.int (0 : Int32)), (.long q1), .null, (.ref b1), (.ref b1)])
  obtain ⟨T2, h2, b2, k2, X2, e2, E2, g2, V2, st2⟩ := own_newP X1 hx hZ rfl (own_w hw 3 rfl) e1 (Ls := #[.val (.int p1), .val (.long q1), .second, .val (.long q2), .second, .val (.long q3), .second, .val (.int (p1 &&& (3 : Int32))), .unset, .unset, .unset, .unset, .unset, .unset, .unset, .unset, .unset, .unset, .unset, .unset, .unset]) (rest := [(.long q1), .null, (.ref b1), (.ref b1)]) (hb hby at_12) (n := (0 : Int32)) (by decide) 0 (by decide) (by decide) (by decide) (by decide)
  have ge_b2 : n0 ≤ b2 := g2 ▸ own_oldge old1
  have old2 := old1.ext E2
  have V2 : Arv Z h2 b2 k2 .byte (0 : Int32) [] (.int (0 : Int32)) := V2
  refine own_go st2 ?_
  show own_Go p e below _ T2 (mkF m 14 #[.val (.int p1), .val (.long q1), .second, .val (.long q2), .second, .val (.long q3), .second, .val (.int (p1 &&& (3 : Int32))), .unset, .unset, .unset, .unset, .unset, .unset, .unset, .unset, .unset, .unset, .unset, .unset, .unset] [(.ref b2), (.long q1), .null, (.ref b1), (.ref b1)])
  refine own_go (fun t_ k_ => XS.iconst X2.here hx rfl (hb hby at_14) k_) ?_
  show own_Go p e below _ T2 (mkF m 15 #[.val (.int p1), .val (.long q1), .second, .val (.long q2), .second, .val (.long q3), .second, .val (.int (p1 &&& (3 : Int32))), .unset, .unset, .unset, .unset, .unset, .unset, .unset, .unset, .unset, .unset, .unset, .unset, .unset] [(.int (0 : Int32)), (.ref b2), (.long q1), .null, (.ref b1), (.ref b1)])
  obtain ⟨T3, h3, b3, k3, X3, e3, E3, g3, V3, st3⟩ := own_newP X2 hx hZ rfl (own_w hw 4 rfl) e2 (Ls := #[.val (.int p1), .val (.long q1), .second, .val (.long q2), .second, .val (.long q3), .second, .val (.int (p1 &&& (3 : Int32))), .unset, .unset, .unset, .unset, .unset, .unset, .unset, .unset, .unset, .unset, .unset, .unset, .unset]) (rest := [(.ref b2), (.long q1), .null, (.ref b1), (.ref b1)]) (hb hby at_15) (n := (0 : Int32)) (by decide) 0 (by decide) (by decide) (by decide) (by decide)
  have ge_b3 : n0 ≤ b3 := g3 ▸ own_oldge old2
  have old3 := old2.ext E3
  have V3 : Arv Z h3 b3 k3 .int (0 : Int32) [] (.int (0 : Int32)) := V3
  refine own_go st3 ?_
  show own_Go p e below _ T3 (mkF m 17 #[.val (.int p1), .val (.long q1), .second, .val (.long q2), .second, .val (.long q3), .second, .val (.int (p1 &&& (3 : Int32))), .unset, .unset, .unset, .unset, .unset, .unset, .unset, .unset, .unset, .unset, .unset, .unset, .unset] [(.ref b3), (.ref b2), (.long q1), .null, (.ref b1), (.ref b1)])
  obtain ⟨_, T4, L4, X4, ⟨rfl, N4, K4⟩, st4⟩ := own_callC X3 hx hZ (y := (⟨"com/example/gridtally/gridtally/core/Row", "<init>", "(Lcom/example/gridtally/gridtally/core/CsvFile;J[B[I)V"⟩ : MethodName)) (b := b1) (argsL := [.null, (.long q1), (.ref b2), (.ref b3)]) (rest := [(.ref b1)]) (Ls := #[.val (.int p1), .val (.long q1), .second, .val (.long q2), .second, .val (.long q3), .second, .val (.int (p1 &&& (3 : Int32))), .unset, .unset, .unset, .unset, .unset, .unset, .unset, .unset, .unset, .unset, .unset, .unset, .unset]) rfl hown (own_w hw 5 rfl) (own_w hw 6 rfl) (own_w hw 7 rfl) (own_w hw 2 rfl) (by decide) e3 (rmRow l Z a0 hw [] b1 b2 b3 q1 h3 n0 (own_oldge old3) ((A1.ext E2).ext E3) ((F1_source.ext E2).ext E3) ((F1_line.ext E2).ext E3) ((F1_bytes.ext E2).ext E3) ((F1_ends.ext E2).ext E3) ge_b1) 1 (by decide) (by decide) (by decide) (by decide) (by rw [hml]; rfl) (lenOf pd_10 rfl) rfl (Nat.le_of_eq rfl) (hb hby at_17)
  have M4 := Fr.app N0 N4
  have kE4_b1 := ((A1.ext E2).ext E3).keep K4
  have old4 := old3.keep K4 (allS ge_b1 all0)
  refine own_go st4 ?_
  show own_Go p e below _ T4 (mkF m 20 #[.val (.int p1), .val (.long q1), .second, .val (.long q2), .second, .val (.long q3), .second, .val (.int (p1 &&& (3 : Int32))), .unset, .unset, .unset, .unset, .unset, .unset, .unset, .unset, .unset, .unset, .unset, .unset, .unset] [(.ref b1)])
  refine own_go (fun t_ k_ => XS.astore X4.here hx rfl (hb hby at_20) rfl rfl (l' := #[.val (.int p1), .val (.long q1), .second, .val (.long q2), .second, .val (.long q3), .second, .val (.int (p1 &&& (3 : Int32))), .val (.ref b1), .unset, .unset, .unset, .unset, .unset, .unset, .unset, .unset, .unset, .unset, .unset, .unset]) rfl k_) ?_
  show own_Go p e below _ T4 (mkF m 22 #[.val (.int p1), .val (.long q1), .second, .val (.long q2), .second, .val (.long q3), .second, .val (.int (p1 &&& (3 : Int32))), .val (.ref b1), .unset, .unset, .unset, .unset, .unset, .unset, .unset, .unset, .unset, .unset, .unset, .unset] [])
  obtain ⟨T5, h5, b5, X5, e5, E5, g5, A5, D5, st5⟩ := own_newO X4 hx hZ hown (own_w hw 0 rfl) (own_w hw 1 rfl) (own_w hw 2 rfl) rfl (Ls := #[.val (.int p1), .val (.long q1), .second, .val (.long q2), .second, .val (.long q3), .second, .val (.int (p1 &&& (3 : Int32))), .val (.ref b1), .unset, .unset, .unset, .unset, .unset, .unset, .unset, .unset, .unset, .unset, .unset, .unset]) (st := []) (hb hby at_22) (by decide) (by decide)
  have ge_b5 : n0 ≤ b5 := g5 ▸ own_oldge old4
  have old5 := old4.ext E5
  have F5_source : Fld Z h5 b5 "com/example/gridtally/gridtally/core/Row" "source" "Lcom/example/gridtally/gridtally/core/CsvFile;" .null := D5 (Or.inr (own_w hw 12 rfl)) (ty := (.object "com/example/gridtally/gridtally/core/CsvFile")) (by decide)
  have F5_line : Fld Z h5 b5 "com/example/gridtally/gridtally/core/Row" "line" "J" (.long (0 : Int64)) := D5 (Or.inr (own_w hw 14 rfl)) (ty := .long) (by decide)
  have F5_bytes : Fld Z h5 b5 "com/example/gridtally/gridtally/core/Row" "bytes" "[B" .null := D5 (Or.inr (own_w hw 16 rfl)) (ty := (.array .byte)) (by decide)
  have F5_ends : Fld Z h5 b5 "com/example/gridtally/gridtally/core/Row" "ends" "[I" .null := D5 (Or.inr (own_w hw 18 rfl)) (ty := (.array .int)) (by decide)
  refine own_go st5 ?_
  show own_Go p e below _ T5 (mkF m 25 #[.val (.int p1), .val (.long q1), .second, .val (.long q2), .second, .val (.long q3), .second, .val (.int (p1 &&& (3 : Int32))), .val (.ref b1), .unset, .unset, .unset, .unset, .unset, .unset, .unset, .unset, .unset, .unset, .unset, .unset] [(.ref b5)])
  refine own_go (fun t_ k_ => XS.dup X5.here hx rfl (hb hby at_25) rfl rfl k_) ?_
  show own_Go p e below _ T5 (mkF m 26 #[.val (.int p1), .val (.long q1), .second, .val (.long q2), .second, .val (.long q3), .second, .val (.int (p1 &&& (3 : Int32))), .val (.ref b1), .unset, .unset, .unset, .unset, .unset, .unset, .unset, .unset, .unset, .unset, .unset, .unset] [(.ref b5), (.ref b5)])
  refine own_go (fun t_ k_ => XS.aconstNull X5.here hx rfl (hb hby at_26) k_) ?_
  show own_Go p e below _ T5 (mkF m 27 #[.val (.int p1), .val (.long q1), .second, .val (.long q2), .second, .val (.long q3), .second, .val (.int (p1 &&& (3 : Int32))), .val (.ref b1), .unset, .unset, .unset, .unset, .unset, .unset, .unset, .unset, .unset, .unset, .unset, .unset] [.null, (.ref b5), (.ref b5)])
  refine own_go (fun t_ k_ => XS.lloadN X5.here hx rfl (hb hby at_27) rfl k_) ?_
  show own_Go p e below _ T5 (mkF m 28 #[.val (.int p1), .val (.long q1), .second, .val (.long q2), .second, .val (.long q3), .second, .val (.int (p1 &&& (3 : Int32))), .val (.ref b1), .unset, .unset, .unset, .unset, .unset, .unset, .unset, .unset, .unset, .unset, .unset, .unset] [(.long q2), .null, (.ref b5), (.ref b5)])
  refine own_go (fun t_ k_ => XS.iconst X5.here hx rfl (hb hby at_28) k_) ?_
  show own_Go p e below _ T5 (mkF m 29 #[.val (.int p1), .val (.long q1), .second, .val (.long q2), .second, .val (.long q3), .second, .val (.int (p1 &&& (3 : Int32))), .val (.ref b1), .unset, .unset, .unset, .unset, .unset, .unset, .unset, .unset, .unset, .unset, .unset, .unset] [(.int (0 : Int32)), (.long q2), .null, (.ref b5), (.ref b5)])
  obtain ⟨T6, h6, b6, k6, X6, e6, E6, g6, V6, st6⟩ := own_newP X5 hx hZ rfl (own_w hw 3 rfl) e5 (Ls := #[.val (.int p1), .val (.long q1), .second, .val (.long q2), .second, .val (.long q3), .second, .val (.int (p1 &&& (3 : Int32))), .val (.ref b1), .unset, .unset, .unset, .unset, .unset, .unset, .unset, .unset, .unset, .unset, .unset, .unset]) (rest := [(.long q2), .null, (.ref b5), (.ref b5)]) (hb hby at_29) (n := (0 : Int32)) (by decide) 0 (by decide) (by decide) (by decide) (by decide)
  have ge_b6 : n0 ≤ b6 := g6 ▸ own_oldge old5
  have old6 := old5.ext E6
  have V6 : Arv Z h6 b6 k6 .byte (0 : Int32) [] (.int (0 : Int32)) := V6
  refine own_go st6 ?_
  show own_Go p e below _ T6 (mkF m 31 #[.val (.int p1), .val (.long q1), .second, .val (.long q2), .second, .val (.long q3), .second, .val (.int (p1 &&& (3 : Int32))), .val (.ref b1), .unset, .unset, .unset, .unset, .unset, .unset, .unset, .unset, .unset, .unset, .unset, .unset] [(.ref b6), (.long q2), .null, (.ref b5), (.ref b5)])
  refine own_go (fun t_ k_ => XS.iconst X6.here hx rfl (hb hby at_31) k_) ?_
  show own_Go p e below _ T6 (mkF m 32 #[.val (.int p1), .val (.long q1), .second, .val (.long q2), .second, .val (.long q3), .second, .val (.int (p1 &&& (3 : Int32))), .val (.ref b1), .unset, .unset, .unset, .unset, .unset, .unset, .unset, .unset, .unset, .unset, .unset, .unset] [(.int (0 : Int32)), (.ref b6), (.long q2), .null, (.ref b5), (.ref b5)])
  obtain ⟨T7, h7, b7, k7, X7, e7, E7, g7, V7, st7⟩ := own_newP X6 hx hZ rfl (own_w hw 4 rfl) e6 (Ls := #[.val (.int p1), .val (.long q1), .second, .val (.long q2), .second, .val (.long q3), .second, .val (.int (p1 &&& (3 : Int32))), .val (.ref b1), .unset, .unset, .unset, .unset, .unset, .unset, .unset, .unset, .unset, .unset, .unset, .unset]) (rest := [(.ref b6), (.long q2), .null, (.ref b5), (.ref b5)]) (hb hby at_32) (n := (0 : Int32)) (by decide) 0 (by decide) (by decide) (by decide) (by decide)
  have ge_b7 : n0 ≤ b7 := g7 ▸ own_oldge old6
  have old7 := old6.ext E7
  have V7 : Arv Z h7 b7 k7 .int (0 : Int32) [] (.int (0 : Int32)) := V7
  refine own_go st7 ?_
  show own_Go p e below _ T7 (mkF m 34 #[.val (.int p1), .val (.long q1), .second, .val (.long q2), .second, .val (.long q3), .second, .val (.int (p1 &&& (3 : Int32))), .val (.ref b1), .unset, .unset, .unset, .unset, .unset, .unset, .unset, .unset, .unset, .unset, .unset, .unset] [(.ref b7), (.ref b6), (.long q2), .null, (.ref b5), (.ref b5)])
  obtain ⟨_, T8, L8, X8, ⟨rfl, N8, K8⟩, st8⟩ := own_callC X7 hx hZ (y := (⟨"com/example/gridtally/gridtally/core/Row", "<init>", "(Lcom/example/gridtally/gridtally/core/CsvFile;J[B[I)V"⟩ : MethodName)) (b := b5) (argsL := [.null, (.long q2), (.ref b6), (.ref b7)]) (rest := [(.ref b5)]) (Ls := #[.val (.int p1), .val (.long q1), .second, .val (.long q2), .second, .val (.long q3), .second, .val (.int (p1 &&& (3 : Int32))), .val (.ref b1), .unset, .unset, .unset, .unset, .unset, .unset, .unset, .unset, .unset, .unset, .unset, .unset]) rfl hown (own_w hw 5 rfl) (own_w hw 6 rfl) (own_w hw 7 rfl) (own_w hw 2 rfl) (by decide) e7 (rmRow l Z a0 hw [] b5 b6 b7 q2 h7 n0 (own_oldge old7) ((A5.ext E6).ext E7) ((F5_source.ext E6).ext E7) ((F5_line.ext E6).ext E7) ((F5_bytes.ext E6).ext E7) ((F5_ends.ext E6).ext E7) ge_b5) 1 (by decide) (by decide) (by decide) (by decide) (by rw [hml]; rfl) (lenOf pd_10 rfl) rfl (Nat.le_of_eq rfl) (hb hby at_34)
  have M8 := Fr.app M4 N8
  have kE8_b1 := (((kE4_b1.ext E5).ext E6).ext E7).keep K8
  have kE8_b5 := ((A5.ext E6).ext E7).keep K8
  have old8 := old7.keep K8 (allS ge_b5 all0)
  refine own_go st8 ?_
  show own_Go p e below _ T8 (mkF m 37 #[.val (.int p1), .val (.long q1), .second, .val (.long q2), .second, .val (.long q3), .second, .val (.int (p1 &&& (3 : Int32))), .val (.ref b1), .unset, .unset, .unset, .unset, .unset, .unset, .unset, .unset, .unset, .unset, .unset, .unset] [(.ref b5)])
  refine own_go (fun t_ k_ => XS.astore X8.here hx rfl (hb hby at_37) rfl rfl (l' := #[.val (.int p1), .val (.long q1), .second, .val (.long q2), .second, .val (.long q3), .second, .val (.int (p1 &&& (3 : Int32))), .val (.ref b1), .val (.ref b5), .unset, .unset, .unset, .unset, .unset, .unset, .unset, .unset, .unset, .unset, .unset]) rfl k_) ?_
  show own_Go p e below _ T8 (mkF m 39 #[.val (.int p1), .val (.long q1), .second, .val (.long q2), .second, .val (.long q3), .second, .val (.int (p1 &&& (3 : Int32))), .val (.ref b1), .val (.ref b5), .unset, .unset, .unset, .unset, .unset, .unset, .unset, .unset, .unset, .unset, .unset] [])
  obtain ⟨T9, h9, b9, X9, e9, E9, g9, A9, D9, st9⟩ := own_newO X8 hx hZ hown (own_w hw 0 rfl) (own_w hw 1 rfl) (own_w hw 2 rfl) rfl (Ls := #[.val (.int p1), .val (.long q1), .second, .val (.long q2), .second, .val (.long q3), .second, .val (.int (p1 &&& (3 : Int32))), .val (.ref b1), .val (.ref b5), .unset, .unset, .unset, .unset, .unset, .unset, .unset, .unset, .unset, .unset, .unset]) (st := []) (hb hby at_39) (by decide) (by decide)
  have ge_b9 : n0 ≤ b9 := g9 ▸ own_oldge old8
  have old9 := old8.ext E9
  have F9_source : Fld Z h9 b9 "com/example/gridtally/gridtally/core/Row" "source" "Lcom/example/gridtally/gridtally/core/CsvFile;" .null := D9 (Or.inr (own_w hw 12 rfl)) (ty := (.object "com/example/gridtally/gridtally/core/CsvFile")) (by decide)
  have F9_line : Fld Z h9 b9 "com/example/gridtally/gridtally/core/Row" "line" "J" (.long (0 : Int64)) := D9 (Or.inr (own_w hw 14 rfl)) (ty := .long) (by decide)
  have F9_bytes : Fld Z h9 b9 "com/example/gridtally/gridtally/core/Row" "bytes" "[B" .null := D9 (Or.inr (own_w hw 16 rfl)) (ty := (.array .byte)) (by decide)
  have F9_ends : Fld Z h9 b9 "com/example/gridtally/gridtally/core/Row" "ends" "[I" .null := D9 (Or.inr (own_w hw 18 rfl)) (ty := (.array .int)) (by decide)
  refine own_go st9 ?_
  show own_Go p e below _ T9 (mkF m 42 #[.val (.int p1), .val (.long q1), .second, .val (.long q2), .second, .val (.long q3), .second, .val (.int (p1 &&& (3 : Int32))), .val (.ref b1), .val (.ref b5), .unset, .unset, .unset, .unset, .unset, .unset, .unset, .unset, .unset, .unset, .unset] [(.ref b9)])
  refine own_go (fun t_ k_ => XS.dup X9.here hx rfl (hb hby at_42) rfl rfl k_) ?_
  show own_Go p e below _ T9 (mkF m 43 #[.val (.int p1), .val (.long q1), .second, .val (.long q2), .second, .val (.long q3), .second, .val (.int (p1 &&& (3 : Int32))), .val (.ref b1), .val (.ref b5), .unset, .unset, .unset, .unset, .unset, .unset, .unset, .unset, .unset, .unset, .unset] [(.ref b9), (.ref b9)])
  refine own_go (fun t_ k_ => XS.aconstNull X9.here hx rfl (hb hby at_43) k_) ?_
  show own_Go p e below _ T9 (mkF m 44 #[.val (.int p1), .val (.long q1), .second, .val (.long q2), .second, .val (.long q3), .second, .val (.int (p1 &&& (3 : Int32))), .val (.ref b1), .val (.ref b5), .unset, .unset, .unset, .unset, .unset, .unset, .unset, .unset, .unset, .unset, .unset] [.null, (.ref b9), (.ref b9)])
  refine own_go (fun t_ k_ => XS.lload X9.here hx rfl (hb hby at_44) rfl k_) ?_
  show own_Go p e below _ T9 (mkF m 46 #[.val (.int p1), .val (.long q1), .second, .val (.long q2), .second, .val (.long q3), .second, .val (.int (p1 &&& (3 : Int32))), .val (.ref b1), .val (.ref b5), .unset, .unset, .unset, .unset, .unset, .unset, .unset, .unset, .unset, .unset, .unset] [(.long q3), .null, (.ref b9), (.ref b9)])
  refine own_go (fun t_ k_ => XS.iconst X9.here hx rfl (hb hby at_46) k_) ?_
  show own_Go p e below _ T9 (mkF m 47 #[.val (.int p1), .val (.long q1), .second, .val (.long q2), .second, .val (.long q3), .second, .val (.int (p1 &&& (3 : Int32))), .val (.ref b1), .val (.ref b5), .unset, .unset, .unset, .unset, .unset, .unset, .unset, .unset, .unset, .unset, .unset] [(.int (0 : Int32)), (.long q3), .null, (.ref b9), (.ref b9)])
  obtain ⟨T10, h10, b10, k10, X10, e10, E10, g10, V10, st10⟩ := own_newP X9 hx hZ rfl (own_w hw 3 rfl) e9 (Ls := #[.val (.int p1), .val (.long q1), .second, .val (.long q2), .second, .val (.long q3), .second, .val (.int (p1 &&& (3 : Int32))), .val (.ref b1), .val (.ref b5), .unset, .unset, .unset, .unset, .unset, .unset, .unset, .unset, .unset, .unset, .unset]) (rest := [(.long q3), .null, (.ref b9), (.ref b9)]) (hb hby at_47) (n := (0 : Int32)) (by decide) 0 (by decide) (by decide) (by decide) (by decide)
  have ge_b10 : n0 ≤ b10 := g10 ▸ own_oldge old9
  have old10 := old9.ext E10
  have V10 : Arv Z h10 b10 k10 .byte (0 : Int32) [] (.int (0 : Int32)) := V10
  refine own_go st10 ?_
  show own_Go p e below _ T10 (mkF m 49 #[.val (.int p1), .val (.long q1), .second, .val (.long q2), .second, .val (.long q3), .second, .val (.int (p1 &&& (3 : Int32))), .val (.ref b1), .val (.ref b5), .unset, .unset, .unset, .unset, .unset, .unset, .unset, .unset, .unset, .unset, .unset] [(.ref b10), (.long q3), .null, (.ref b9), (.ref b9)])
  refine own_go (fun t_ k_ => XS.iconst X10.here hx rfl (hb hby at_49) k_) ?_
  show own_Go p e below _ T10 (mkF m 50 #[.val (.int p1), .val (.long q1), .second, .val (.long q2), .second, .val (.long q3), .second, .val (.int (p1 &&& (3 : Int32))), .val (.ref b1), .val (.ref b5), .unset, .unset, .unset, .unset, .unset, .unset, .unset, .unset, .unset, .unset, .unset] [(.int (0 : Int32)), (.ref b10), (.long q3), .null, (.ref b9), (.ref b9)])
  obtain ⟨T11, h11, b11, k11, X11, e11, E11, g11, V11, st11⟩ := own_newP X10 hx hZ rfl (own_w hw 4 rfl) e10 (Ls := #[.val (.int p1), .val (.long q1), .second, .val (.long q2), .second, .val (.long q3), .second, .val (.int (p1 &&& (3 : Int32))), .val (.ref b1), .val (.ref b5), .unset, .unset, .unset, .unset, .unset, .unset, .unset, .unset, .unset, .unset, .unset]) (rest := [(.ref b10), (.long q3), .null, (.ref b9), (.ref b9)]) (hb hby at_50) (n := (0 : Int32)) (by decide) 0 (by decide) (by decide) (by decide) (by decide)
  have ge_b11 : n0 ≤ b11 := g11 ▸ own_oldge old10
  have old11 := old10.ext E11
  have V11 : Arv Z h11 b11 k11 .int (0 : Int32) [] (.int (0 : Int32)) := V11
  refine own_go st11 ?_
  show own_Go p e below _ T11 (mkF m 52 #[.val (.int p1), .val (.long q1), .second, .val (.long q2), .second, .val (.long q3), .second, .val (.int (p1 &&& (3 : Int32))), .val (.ref b1), .val (.ref b5), .unset, .unset, .unset, .unset, .unset, .unset, .unset, .unset, .unset, .unset, .unset] [(.ref b11), (.ref b10), (.long q3), .null, (.ref b9), (.ref b9)])
  obtain ⟨_, T12, L12, X12, ⟨rfl, N12, K12⟩, st12⟩ := own_callC X11 hx hZ (y := (⟨"com/example/gridtally/gridtally/core/Row", "<init>", "(Lcom/example/gridtally/gridtally/core/CsvFile;J[B[I)V"⟩ : MethodName)) (b := b9) (argsL := [.null, (.long q3), (.ref b10), (.ref b11)]) (rest := [(.ref b9)]) (Ls := #[.val (.int p1), .val (.long q1), .second, .val (.long q2), .second, .val (.long q3), .second, .val (.int (p1 &&& (3 : Int32))), .val (.ref b1), .val (.ref b5), .unset, .unset, .unset, .unset, .unset, .unset, .unset, .unset, .unset, .unset, .unset]) rfl hown (own_w hw 5 rfl) (own_w hw 6 rfl) (own_w hw 7 rfl) (own_w hw 2 rfl) (by decide) e11 (rmRow l Z a0 hw [] b9 b10 b11 q3 h11 n0 (own_oldge old11) ((A9.ext E10).ext E11) ((F9_source.ext E10).ext E11) ((F9_line.ext E10).ext E11) ((F9_bytes.ext E10).ext E11) ((F9_ends.ext E10).ext E11) ge_b9) 1 (by decide) (by decide) (by decide) (by decide) (by rw [hml]; rfl) (lenOf pd_10 rfl) rfl (Nat.le_of_eq rfl) (hb hby at_52)
  have M12 := Fr.app M8 N12
  have kE12_b1 := (((kE8_b1.ext E9).ext E10).ext E11).keep K12
  have kE12_b5 := (((kE8_b5.ext E9).ext E10).ext E11).keep K12
  have kE12_b9 := ((A9.ext E10).ext E11).keep K12
  have old12 := old11.keep K12 (allS ge_b9 all0)
  refine own_go st12 ?_
  show own_Go p e below _ T12 (mkF m 55 #[.val (.int p1), .val (.long q1), .second, .val (.long q2), .second, .val (.long q3), .second, .val (.int (p1 &&& (3 : Int32))), .val (.ref b1), .val (.ref b5), .unset, .unset, .unset, .unset, .unset, .unset, .unset, .unset, .unset, .unset, .unset] [(.ref b9)])
  refine own_go (fun t_ k_ => XS.astore X12.here hx rfl (hb hby at_55) rfl rfl (l' := #[.val (.int p1), .val (.long q1), .second, .val (.long q2), .second, .val (.long q3), .second, .val (.int (p1 &&& (3 : Int32))), .val (.ref b1), .val (.ref b5), .val (.ref b9), .unset, .unset, .unset, .unset, .unset, .unset, .unset, .unset, .unset, .unset]) rfl k_) ?_
  show own_Go p e below _ T12 (mkF m 57 #[.val (.int p1), .val (.long q1), .second, .val (.long q2), .second, .val (.long q3), .second, .val (.int (p1 &&& (3 : Int32))), .val (.ref b1), .val (.ref b5), .val (.ref b9), .unset, .unset, .unset, .unset, .unset, .unset, .unset, .unset, .unset, .unset] [])
  obtain ⟨T13, h13, b13, X13, e13, E13, g13, A13, D13, st13⟩ := own_newO X12 hx hZ hown (own_w hw 19 rfl) (own_w hw 20 rfl) (own_w hw 21 rfl) rfl (Ls := #[.val (.int p1), .val (.long q1), .second, .val (.long q2), .second, .val (.long q3), .second, .val (.int (p1 &&& (3 : Int32))), .val (.ref b1), .val (.ref b5), .val (.ref b9), .unset, .unset, .unset, .unset, .unset, .unset, .unset, .unset, .unset, .unset]) (st := []) (hb hby at_57) (by decide) (by decide)
  have ge_b13 : n0 ≤ b13 := g13 ▸ own_oldge old12
  have old13 := old12.ext E13
  have F13_modCount : Fld Z h13 b13 "java/util/AbstractList" "modCount" "I" (.int (0 : Int32)) := D13 (Or.inl (own_w hw 39 rfl)) (ty := .int) (by decide)
  have F13_elementData : Fld Z h13 b13 "java/util/ArrayList" "elementData" "[Ljava/lang/Object;" .null := D13 (Or.inl (own_w hw 42 rfl)) (ty := (.array (.object "java/lang/Object"))) (by decide)
  have F13_size : Fld Z h13 b13 "java/util/ArrayList" "size" "I" (.int (0 : Int32)) := D13 (Or.inl (own_w hw 92 rfl)) (ty := .int) (by decide)
  refine own_go st13 ?_
  show own_Go p e below _ T13 (mkF m 60 #[.val (.int p1), .val (.long q1), .second, .val (.long q2), .second, .val (.long q3), .second, .val (.int (p1 &&& (3 : Int32))), .val (.ref b1), .val (.ref b5), .val (.ref b9), .unset, .unset, .unset, .unset, .unset, .unset, .unset, .unset, .unset, .unset] [(.ref b13)])
  refine own_go (fun t_ k_ => XS.dup X13.here hx rfl (hb hby at_60) rfl rfl k_) ?_
  show own_Go p e below _ T13 (mkF m 61 #[.val (.int p1), .val (.long q1), .second, .val (.long q2), .second, .val (.long q3), .second, .val (.int (p1 &&& (3 : Int32))), .val (.ref b1), .val (.ref b5), .val (.ref b9), .unset, .unset, .unset, .unset, .unset, .unset, .unset, .unset, .unset, .unset] [(.ref b13), (.ref b13)])
  obtain ⟨_, T14, L14, X14, ⟨rfl, N14, K14, E14, F14_ed, F14_sz, F14_mc⟩, st14⟩ := own_callC X13 hx hZ (y := (⟨"java/util/ArrayList", "<init>", "()V"⟩ : MethodName)) (b := b13) (argsL := []) (rest := [(.ref b13)]) (Ls := #[.val (.int p1), .val (.long q1), .second, .val (.long q2), .second, .val (.long q3), .second, .val (.int (p1 &&& (3 : Int32))), .val (.ref b1), .val (.ref b5), .val (.ref b9), .unset, .unset, .unset, .unset, .unset, .unset, .unset, .unset, .unset, .unset]) rfl hown (own_w hw 22 rfl) (own_w hw 23 rfl) (own_w hw 24 rfl) (own_w hw 21 rfl) (by decide) e13 (rmAL l Z a0 hw [] b13 da kd h13 n0 (own_oldge old13) old13 S_D V_d A13 F13_elementData F13_size F13_modCount ge_b13) 1 (by decide) (by decide) (by decide) (by decide) (by rw [hml]; rfl) (lenOf pd_4 rfl) rfl (Nat.le_of_eq rfl) (hb hby at_61)
  have M14 := Fr.app M12 N14
  have kE14_b1 := (kE12_b1.ext E13).keep K14
  have kE14_b5 := (kE12_b5.ext E13).keep K14
  have kE14_b9 := (kE12_b9.ext E13).keep K14
  have kE14_b13 := A13.keep K14
  have old14 := old13.keep K14 (allS ge_b13 all0)
  refine own_go st14 ?_
  show own_Go p e below _ T14 (mkF m 64 #[.val (.int p1), .val (.long q1), .second, .val (.long q2), .second, .val (.long q3), .second, .val (.int (p1 &&& (3 : Int32))), .val (.ref b1), .val (.ref b5), .val (.ref b9), .unset, .unset, .unset, .unset, .unset, .unset, .unset, .unset, .unset, .unset] [(.ref b13)])
  refine own_go (fun t_ k_ => XS.astore X14.here hx rfl (hb hby at_64) rfl rfl (l' := #[.val (.int p1), .val (.long q1), .second, .val (.long q2), .second, .val (.long q3), .second, .val (.int (p1 &&& (3 : Int32))), .val (.ref b1), .val (.ref b5), .val (.ref b9), .val (.ref b13), .unset, .unset, .unset, .unset, .unset, .unset, .unset, .unset, .unset]) rfl k_) ?_
  show own_Go p e below _ T14 (mkF m 66 #[.val (.int p1), .val (.long q1), .second, .val (.long q2), .second, .val (.long q3), .second, .val (.int (p1 &&& (3 : Int32))), .val (.ref b1), .val (.ref b5), .val (.ref b9), .val (.ref b13), .unset, .unset, .unset, .unset, .unset, .unset, .unset, .unset, .unset] [])
  rcases own_and3 p1 with q9 | q9 | q9 | q9
  · rw [q9]
    show own_Go p e below _ T14 (mkF m 66 #[.val (.int p1), .val (.long q1), .second, .val (.long q2), .second, .val (.long q3), .second, .val (.int (0 : Int32)), .val (.ref b1), .val (.ref b5), .val (.ref b9), .val (.ref b13), .unset, .unset, .unset, .unset, .unset, .unset, .unset, .unset, .unset] [])
    refine own_go (fun t_ k_ => XS.iload X14.here hx rfl (hb hby at_66) rfl k_) ?_
    show own_Go p e below _ T14 (mkF m 68 #[.val (.int p1), .val (.long q1), .second, .val (.long q2), .second, .val (.long q3), .second, .val (.int (0 : Int32)), .val (.ref b1), .val (.ref b5), .val (.ref b9), .val (.ref b13), .unset, .unset, .unset, .unset, .unset, .unset, .unset, .unset, .unset] [(.int (0 : Int32))])
    refine own_go (fun t_ k_ => XS.ifYes X14.here hx rfl (pc0 := 68) (pc' := 79) rfl (hb hby at_68) rfl (XT.i0_le_t (by decide)) (by decide) (by decide) k_) ?_
    show own_Go p e below _ T14 (mkF m 79 #[.val (.int p1), .val (.long q1), .second, .val (.long q2), .second, .val (.long q3), .second, .val (.int (0 : Int32)), .val (.ref b1), .val (.ref b5), .val (.ref b9), .val (.ref b13), .unset, .unset, .unset, .unset, .unset, .unset, .unset, .unset, .unset] [])
    refine own_go (fun t_ k_ => XS.iload X14.here hx rfl (hb hby at_79) rfl k_) ?_
    show own_Go p e below _ T14 (mkF m 81 #[.val (.int p1), .val (.long q1), .second, .val (.long q2), .second, .val (.long q3), .second, .val (.int (0 : Int32)), .val (.ref b1), .val (.ref b5), .val (.ref b9), .val (.ref b13), .unset, .unset, .unset, .unset, .unset, .unset, .unset, .unset, .unset] [(.int (0 : Int32))])
    refine own_go (fun t_ k_ => XS.iconst X14.here hx rfl (hb hby at_81) k_) ?_
    show own_Go p e below _ T14 (mkF m 82 #[.val (.int p1), .val (.long q1), .second, .val (.long q2), .second, .val (.long q3), .second, .val (.int (0 : Int32)), .val (.ref b1), .val (.ref b5), .val (.ref b9), .val (.ref b13), .unset, .unset, .unset, .unset, .unset, .unset, .unset, .unset, .unset] [(.int (1 : Int32)), (.int (0 : Int32))])
    refine own_go (fun t_ k_ => XS.icmpYes X14.here hx rfl (pc0 := 82) (pc' := 93) rfl (hb hby at_82) rfl (XT.ii_le_t (by decide)) (by decide) (by decide) k_) ?_
    show own_Go p e below _ T14 (mkF m 93 #[.val (.int p1), .val (.long q1), .second, .val (.long q2), .second, .val (.long q3), .second, .val (.int (0 : Int32)), .val (.ref b1), .val (.ref b5), .val (.ref b9), .val (.ref b13), .unset, .unset, .unset, .unset, .unset, .unset, .unset, .unset, .unset] [])
    refine own_go (fun t_ k_ => XS.iload X14.here hx rfl (hb hby at_93) rfl k_) ?_
    show own_Go p e below _ T14 (mkF m 95 #[.val (.int p1), .val (.long q1), .second, .val (.long q2), .second, .val (.long q3), .second, .val (.int (0 : Int32)), .val (.ref b1), .val (.ref b5), .val (.ref b9), .val (.ref b13), .unset, .unset, .unset, .unset, .unset, .unset, .unset, .unset, .unset] [(.int (0 : Int32))])
    refine own_go (fun t_ k_ => XS.iconst X14.here hx rfl (hb hby at_95) k_) ?_
    show own_Go p e below _ T14 (mkF m 96 #[.val (.int p1), .val (.long q1), .second, .val (.long q2), .second, .val (.long q3), .second, .val (.int (0 : Int32)), .val (.ref b1), .val (.ref b5), .val (.ref b9), .val (.ref b13), .unset, .unset, .unset, .unset, .unset, .unset, .unset, .unset, .unset] [(.int (2 : Int32)), (.int (0 : Int32))])
    refine own_go (fun t_ k_ => XS.icmpYes X14.here hx rfl (pc0 := 96) (pc' := 107) rfl (hb hby at_96) rfl (XT.ii_le_t (by decide)) (by decide) (by decide) k_) ?_
    show own_Go p e below _ T14 (mkF m 107 #[.val (.int p1), .val (.long q1), .second, .val (.long q2), .second, .val (.long q3), .second, .val (.int (0 : Int32)), .val (.ref b1), .val (.ref b5), .val (.ref b9), .val (.ref b13), .unset, .unset, .unset, .unset, .unset, .unset, .unset, .unset, .unset] [])
    refine own_go (fun t_ k_ => XS.aload X14.here hx rfl (hb hby at_107) rfl rfl k_) ?_
    show own_Go p e below _ T14 (mkF m 109 #[.val (.int p1), .val (.long q1), .second, .val (.long q2), .second, .val (.long q3), .second, .val (.int (0 : Int32)), .val (.ref b1), .val (.ref b5), .val (.ref b9), .val (.ref b13), .unset, .unset, .unset, .unset, .unset, .unset, .unset, .unset, .unset] [(.ref b13)])
    obtain ⟨_, T15, L15, X15, ⟨⟨fn15, it15, cK15, rfl, made15, hfn15, E15, F15_th, F15_cu, F15_lr, F15_em, szi15, nf15, K15⟩, N15⟩, st15⟩ := own_callSH X14 hx hZH (y := (⟨"com/example/gridtally/gridtally/core/RowSource", "of", "(Ljava/util/List;)Lcom/example/gridtally/gridtally/core/RowSource;"⟩ : MethodName)) (argsL := [(.ref b13)]) (rest := []) (Ls := #[.val (.int p1), .val (.long q1), .second, .val (.long q2), .second, .val (.long q3), .second, .val (.int (0 : Int32)), .val (.ref b1), .val (.ref b5), .val (.ref b9), .val (.ref b13), .unset, .unset, .unset, .unset, .unset, .unset, .unset, .unset, .unset]) hown (own_w hw 43 rfl) (own_w hw 44 rfl) (own_w hw 45 rfl) (own_w hw 46 rfl) (by decide) rfl (rmOf l Z a0 hw [] b13 (0 : Int32) T14.heap n0 (own_oldge old14) old14 E14 F14_mc) 0 (by decide) (by decide) (by decide) (by decide) (by rw [hml]; rfl) (lenOf pd_15 rfl) rfl (Nat.le_of_eq rfl) (hb hby at_109)
    have M15 := Fr.app M14 N15
    have kE15_b1 := kE14_b1.keep K15
    have kE15_b5 := kE14_b5.keep K15
    have kE15_b9 := kE14_b9.keep K15
    have kE15_b13 := E14.keep K15
    have kF15_b13_elementData := F14_ed.keep K15 nin0
    have kF15_b13_size := F14_sz.keep K15 nin0
    have kF15_b13_modCount := F14_mc.keep K15 nin0
    have old15 := old14.keep K15 all0
    have ge_it15 : n0 ≤ it15 := Nat.le_trans (own_oldge old14) szi15
    have ne_b13_it15 : b13 ≠ it15 := Exa.ne kE15_b13 E15 (by decide)
    have ne_fn15_it15 : fn15 ≠ it15 := Ne.symm nf15
    refine own_go st15 ?_
    show own_Go p e below _ T15 (mkF m 112 #[.val (.int p1), .val (.long q1), .second, .val (.long q2), .second, .val (.long q3), .second, .val (.int (0 : Int32)), .val (.ref b1), .val (.ref b5), .val (.ref b9), .val (.ref b13), .unset, .unset, .unset, .unset, .unset, .unset, .unset, .unset, .unset] [(.ref fn15)])
    refine own_go (fun t_ k_ => XS.astore X15.here hx rfl (hb hby at_112) rfl rfl (l' := #[.val (.int p1), .val (.long q1), .second, .val (.long q2), .second, .val (.long q3), .second, .val (.int (0 : Int32)), .val (.ref b1), .val (.ref b5), .val (.ref b9), .val (.ref b13), .val (.ref fn15), .unset, .unset, .unset, .unset, .unset, .unset, .unset, .unset]) rfl k_) ?_
    show own_Go p e below _ T15 (mkF m 114 #[.val (.int p1), .val (.long q1), .second, .val (.long q2), .second, .val (.long q3), .second, .val (.int (0 : Int32)), .val (.ref b1), .val (.ref b5), .val (.ref b9), .val (.ref b13), .val (.ref fn15), .unset, .unset, .unset, .unset, .unset, .unset, .unset, .unset] [])
    refine own_go (fun t_ k_ => XS.aload X15.here hx rfl (hb hby at_114) rfl rfl k_) ?_
    show own_Go p e below _ T15 (mkF m 116 #[.val (.int p1), .val (.long q1), .second, .val (.long q2), .second, .val (.long q3), .second, .val (.int (0 : Int32)), .val (.ref b1), .val (.ref b5), .val (.ref b9), .val (.ref b13), .val (.ref fn15), .unset, .unset, .unset, .unset, .unset, .unset, .unset, .unset] [(.ref fn15)])
    obtain ⟨_, T16, L16, X16, ⟨rfl, N16, e16⟩, st16⟩ := own_lam X15 hx hZH (xi := (⟨"com/example/gridtally/gridtally/core/RowSource", "next", "()Lcom/example/gridtally/gridtally/core/Row;"⟩ : MethodName)) (y := (⟨"com/example/gridtally/gridtally/core/RowSource", "lambda$of$0", "(Ljava/util/Iterator;)Lcom/example/gridtally/gridtally/core/Row;"⟩ : MethodName)) (a := fn15) (b := it15) (Ls := #[.val (.int p1), .val (.long q1), .second, .val (.long q2), .second, .val (.long q3), .second, .val (.int (0 : Int32)), .val (.ref b1), .val (.ref b5), .val (.ref b9), .val (.ref b13), .val (.ref fn15), .unset, .unset, .unset, .unset, .unset, .unset, .unset, .unset]) (rest := []) hown (own_w hw 75 rfl) (own_w hw 76 rfl) (mvT hZ (own_w hw 77 rfl)) (own_w hw 79 rfl) (own_w hw 78 rfl) (own_w hw 45 rfl) (own_w hw 74 rfl) own_xi own_yi made15 hfn15 rfl (rmLN l Z a0 hw [] it15 b13 (0 : Int32) T15.heap n0 (own_oldge old15) E15 F15_th F15_cu kE15_b13 kF15_b13_size) (fun _ _ _ q => ⟨_, q.1, rfl⟩) 0 (by decide) (by decide) (by decide) (by decide) (by rw [hml]; rfl) (Nat.le_of_eq rfl) (hb hby at_116)
    have M16 := Fr.app M15 N16
    refine own_go st16 ?_
    show own_Go p e below _ T16 (mkF m 121 #[.val (.int p1), .val (.long q1), .second, .val (.long q2), .second, .val (.long q3), .second, .val (.int (0 : Int32)), .val (.ref b1), .val (.ref b5), .val (.ref b9), .val (.ref b13), .val (.ref fn15), .unset, .unset, .unset, .unset, .unset, .unset, .unset, .unset] [.null])
    refine own_go (fun t_ k_ => XS.astore X16.here hx rfl (hb hby at_121) rfl rfl (l' := #[.val (.int p1), .val (.long q1), .second, .val (.long q2), .second, .val (.long q3), .second, .val (.int (0 : Int32)), .val (.ref b1), .val (.ref b5), .val (.ref b9), .val (.ref b13), .val (.ref fn15), .val .null, .unset, .unset, .unset, .unset, .unset, .unset, .unset]) rfl k_) ?_
    show own_Go p e below _ T16 (mkF m 123 #[.val (.int p1), .val (.long q1), .second, .val (.long q2), .second, .val (.long q3), .second, .val (.int (0 : Int32)), .val (.ref b1), .val (.ref b5), .val (.ref b9), .val (.ref b13), .val (.ref fn15), .val .null, .unset, .unset, .unset, .unset, .unset, .unset, .unset] [])
    refine own_go (fun t_ k_ => XS.aload X16.here hx rfl (hb hby at_123) rfl rfl k_) ?_
    show own_Go p e below _ T16 (mkF m 125 #[.val (.int p1), .val (.long q1), .second, .val (.long q2), .second, .val (.long q3), .second, .val (.int (0 : Int32)), .val (.ref b1), .val (.ref b5), .val (.ref b9), .val (.ref b13), .val (.ref fn15), .val .null, .unset, .unset, .unset, .unset, .unset, .unset, .unset] [(.ref fn15)])
    obtain ⟨_, T17, L17, X17, ⟨rfl, N17, e17⟩, st17⟩ := own_lam X16 hx hZH (xi := (⟨"com/example/gridtally/gridtally/core/RowSource", "next", "()Lcom/example/gridtally/gridtally/core/Row;"⟩ : MethodName)) (y := (⟨"com/example/gridtally/gridtally/core/RowSource", "lambda$of$0", "(Ljava/util/Iterator;)Lcom/example/gridtally/gridtally/core/Row;"⟩ : MethodName)) (a := fn15) (b := it15) (Ls := #[.val (.int p1), .val (.long q1), .second, .val (.long q2), .second, .val (.long q3), .second, .val (.int (0 : Int32)), .val (.ref b1), .val (.ref b5), .val (.ref b9), .val (.ref b13), .val (.ref fn15), .val .null, .unset, .unset, .unset, .unset, .unset, .unset, .unset]) (rest := []) hown (own_w hw 75 rfl) (own_w hw 76 rfl) (mvT hZ (own_w hw 77 rfl)) (own_w hw 79 rfl) (own_w hw 78 rfl) (own_w hw 45 rfl) (own_w hw 74 rfl) own_xi own_yi made15 hfn15 e16 (rmLN l Z a0 hw [] it15 b13 (0 : Int32) T15.heap n0 (own_oldge old15) E15 F15_th F15_cu kE15_b13 kF15_b13_size) (fun _ _ _ q => ⟨_, q.1, rfl⟩) 0 (by decide) (by decide) (by decide) (by decide) (by rw [hml]; rfl) (Nat.le_of_eq rfl) (hb hby at_125)
    have M17 := Fr.app M16 N17
    refine own_go st17 ?_
    show own_Go p e below _ T17 (mkF m 130 #[.val (.int p1), .val (.long q1), .second, .val (.long q2), .second, .val (.long q3), .second, .val (.int (0 : Int32)), .val (.ref b1), .val (.ref b5), .val (.ref b9), .val (.ref b13), .val (.ref fn15), .val .null, .unset, .unset, .unset, .unset, .unset, .unset, .unset] [.null])
    refine own_go (fun t_ k_ => XS.astore X17.here hx rfl (hb hby at_130) rfl rfl (l' := #[.val (.int p1), .val (.long q1), .second, .val (.long q2), .second, .val (.long q3), .second, .val (.int (0 : Int32)), .val (.ref b1), .val (.ref b5), .val (.ref b9), .val (.ref b13), .val (.ref fn15), .val .null, .val .null, .unset, .unset, .unset, .unset, .unset, .unset]) rfl k_) ?_
    show own_Go p e below _ T17 (mkF m 132 #[.val (.int p1), .val (.long q1), .second, .val (.long q2), .second, .val (.long q3), .second, .val (.int (0 : Int32)), .val (.ref b1), .val (.ref b5), .val (.ref b9), .val (.ref b13), .val (.ref fn15), .val .null, .val .null, .unset, .unset, .unset, .unset, .unset, .unset] [])
    refine own_go (fun t_ k_ => XS.aload X17.here hx rfl (hb hby at_132) rfl rfl k_) ?_
    show own_Go p e below _ T17 (mkF m 134 #[.val (.int p1), .val (.long q1), .second, .val (.long q2), .second, .val (.long q3), .second, .val (.int (0 : Int32)), .val (.ref b1), .val (.ref b5), .val (.ref b9), .val (.ref b13), .val (.ref fn15), .val .null, .val .null, .unset, .unset, .unset, .unset, .unset, .unset] [(.ref fn15)])
    obtain ⟨_, T18, L18, X18, ⟨rfl, N18, e18⟩, st18⟩ := own_lam X17 hx hZH (xi := (⟨"com/example/gridtally/gridtally/core/RowSource", "next", "()Lcom/example/gridtally/gridtally/core/Row;"⟩ : MethodName)) (y := (⟨"com/example/gridtally/gridtally/core/RowSource", "lambda$of$0", "(Ljava/util/Iterator;)Lcom/example/gridtally/gridtally/core/Row;"⟩ : MethodName)) (a := fn15) (b := it15) (Ls := #[.val (.int p1), .val (.long q1), .second, .val (.long q2), .second, .val (.long q3), .second, .val (.int (0 : Int32)), .val (.ref b1), .val (.ref b5), .val (.ref b9), .val (.ref b13), .val (.ref fn15), .val .null, .val .null, .unset, .unset, .unset, .unset, .unset, .unset]) (rest := []) hown (own_w hw 75 rfl) (own_w hw 76 rfl) (mvT hZ (own_w hw 77 rfl)) (own_w hw 79 rfl) (own_w hw 78 rfl) (own_w hw 45 rfl) (own_w hw 74 rfl) own_xi own_yi made15 hfn15 e17 (rmLN l Z a0 hw [] it15 b13 (0 : Int32) T15.heap n0 (own_oldge old15) E15 F15_th F15_cu kE15_b13 kF15_b13_size) (fun _ _ _ q => ⟨_, q.1, rfl⟩) 0 (by decide) (by decide) (by decide) (by decide) (by rw [hml]; rfl) (Nat.le_of_eq rfl) (hb hby at_134)
    have M18 := Fr.app M17 N18
    refine own_go st18 ?_
    show own_Go p e below _ T18 (mkF m 139 #[.val (.int p1), .val (.long q1), .second, .val (.long q2), .second, .val (.long q3), .second, .val (.int (0 : Int32)), .val (.ref b1), .val (.ref b5), .val (.ref b9), .val (.ref b13), .val (.ref fn15), .val .null, .val .null, .unset, .unset, .unset, .unset, .unset, .unset] [.null])
    refine own_go (fun t_ k_ => XS.astore X18.here hx rfl (hb hby at_139) rfl rfl (l' := #[.val (.int p1), .val (.long q1), .second, .val (.long q2), .second, .val (.long q3), .second, .val (.int (0 : Int32)), .val (.ref b1), .val (.ref b5), .val (.ref b9), .val (.ref b13), .val (.ref fn15), .val .null, .val .null, .val .null, .unset, .unset, .unset, .unset, .unset]) rfl k_) ?_
    show own_Go p e below _ T18 (mkF m 141 #[.val (.int p1), .val (.long q1), .second, .val (.long q2), .second, .val (.long q3), .second, .val (.int (0 : Int32)), .val (.ref b1), .val (.ref b5), .val (.ref b9), .val (.ref b13), .val (.ref fn15), .val .null, .val .null, .val .null, .unset, .unset, .unset, .unset, .unset] [])
    refine own_go (fun t_ k_ => XS.aload X18.here hx rfl (hb hby at_141) rfl rfl k_) ?_
    show own_Go p e below _ T18 (mkF m 143 #[.val (.int p1), .val (.long q1), .second, .val (.long q2), .second, .val (.long q3), .second, .val (.int (0 : Int32)), .val (.ref b1), .val (.ref b5), .val (.ref b9), .val (.ref b13), .val (.ref fn15), .val .null, .val .null, .val .null, .unset, .unset, .unset, .unset, .unset] [(.ref fn15)])
    obtain ⟨_, T19, L19, X19, ⟨rfl, N19, e19⟩, st19⟩ := own_lam X18 hx hZH (xi := (⟨"com/example/gridtally/gridtally/core/RowSource", "next", "()Lcom/example/gridtally/gridtally/core/Row;"⟩ : MethodName)) (y := (⟨"com/example/gridtally/gridtally/core/RowSource", "lambda$of$0", "(Ljava/util/Iterator;)Lcom/example/gridtally/gridtally/core/Row;"⟩ : MethodName)) (a := fn15) (b := it15) (Ls := #[.val (.int p1), .val (.long q1), .second, .val (.long q2), .second, .val (.long q3), .second, .val (.int (0 : Int32)), .val (.ref b1), .val (.ref b5), .val (.ref b9), .val (.ref b13), .val (.ref fn15), .val .null, .val .null, .val .null, .unset, .unset, .unset, .unset, .unset]) (rest := []) hown (own_w hw 75 rfl) (own_w hw 76 rfl) (mvT hZ (own_w hw 77 rfl)) (own_w hw 79 rfl) (own_w hw 78 rfl) (own_w hw 45 rfl) (own_w hw 74 rfl) own_xi own_yi made15 hfn15 e18 (rmLN l Z a0 hw [] it15 b13 (0 : Int32) T15.heap n0 (own_oldge old15) E15 F15_th F15_cu kE15_b13 kF15_b13_size) (fun _ _ _ q => ⟨_, q.1, rfl⟩) 0 (by decide) (by decide) (by decide) (by decide) (by rw [hml]; rfl) (Nat.le_of_eq rfl) (hb hby at_143)
    have M19 := Fr.app M18 N19
    refine own_go st19 ?_
    show own_Go p e below _ T19 (mkF m 148 #[.val (.int p1), .val (.long q1), .second, .val (.long q2), .second, .val (.long q3), .second, .val (.int (0 : Int32)), .val (.ref b1), .val (.ref b5), .val (.ref b9), .val (.ref b13), .val (.ref fn15), .val .null, .val .null, .val .null, .unset, .unset, .unset, .unset, .unset] [.null])
    refine own_go (fun t_ k_ => XS.astore X19.here hx rfl (hb hby at_148) rfl rfl (l' := #[.val (.int p1), .val (.long q1), .second, .val (.long q2), .second, .val (.long q3), .second, .val (.int (0 : Int32)), .val (.ref b1), .val (.ref b5), .val (.ref b9), .val (.ref b13), .val (.ref fn15), .val .null, .val .null, .val .null, .val .null, .unset, .unset, .unset, .unset]) rfl k_) ?_
    show own_Go p e below _ T19 (mkF m 150 #[.val (.int p1), .val (.long q1), .second, .val (.long q2), .second, .val (.long q3), .second, .val (.int (0 : Int32)), .val (.ref b1), .val (.ref b5), .val (.ref b9), .val (.ref b13), .val (.ref fn15), .val .null, .val .null, .val .null, .val .null, .unset, .unset, .unset, .unset] [])
    refine own_go (fun t_ k_ => XS.aload X19.here hx rfl (hb hby at_150) rfl rfl k_) ?_
    show own_Go p e below _ T19 (mkF m 152 #[.val (.int p1), .val (.long q1), .second, .val (.long q2), .second, .val (.long q3), .second, .val (.int (0 : Int32)), .val (.ref b1), .val (.ref b5), .val (.ref b9), .val (.ref b13), .val (.ref fn15), .val .null, .val .null, .val .null, .val .null, .unset, .unset, .unset, .unset] [(.ref fn15)])
    obtain ⟨_, T20, L20, X20, ⟨rfl, N20, e20⟩, st20⟩ := own_lam X19 hx hZH (xi := (⟨"com/example/gridtally/gridtally/core/RowSource", "next", "()Lcom/example/gridtally/gridtally/core/Row;"⟩ : MethodName)) (y := (⟨"com/example/gridtally/gridtally/core/RowSource", "lambda$of$0", "(Ljava/util/Iterator;)Lcom/example/gridtally/gridtally/core/Row;"⟩ : MethodName)) (a := fn15) (b := it15) (Ls := #[.val (.int p1), .val (.long q1), .second, .val (.long q2), .second, .val (.long q3), .second, .val (.int (0 : Int32)), .val (.ref b1), .val (.ref b5), .val (.ref b9), .val (.ref b13), .val (.ref fn15), .val .null, .val .null, .val .null, .val .null, .unset, .unset, .unset, .unset]) (rest := []) hown (own_w hw 75 rfl) (own_w hw 76 rfl) (mvT hZ (own_w hw 77 rfl)) (own_w hw 79 rfl) (own_w hw 78 rfl) (own_w hw 45 rfl) (own_w hw 74 rfl) own_xi own_yi made15 hfn15 e19 (rmLN l Z a0 hw [] it15 b13 (0 : Int32) T15.heap n0 (own_oldge old15) E15 F15_th F15_cu kE15_b13 kF15_b13_size) (fun _ _ _ q => ⟨_, q.1, rfl⟩) 0 (by decide) (by decide) (by decide) (by decide) (by rw [hml]; rfl) (Nat.le_of_eq rfl) (hb hby at_152)
    have M20 := Fr.app M19 N20
    refine own_go st20 ?_
    show own_Go p e below _ T20 (mkF m 157 #[.val (.int p1), .val (.long q1), .second, .val (.long q2), .second, .val (.long q3), .second, .val (.int (0 : Int32)), .val (.ref b1), .val (.ref b5), .val (.ref b9), .val (.ref b13), .val (.ref fn15), .val .null, .val .null, .val .null, .val .null, .unset, .unset, .unset, .unset] [.null])
    refine own_go (fun t_ k_ => XS.astore X20.here hx rfl (hb hby at_157) rfl rfl (l' := #[.val (.int p1), .val (.long q1), .second, .val (.long q2), .second, .val (.long q3), .second, .val (.int (0 : Int32)), .val (.ref b1), .val (.ref b5), .val (.ref b9), .val (.ref b13), .val (.ref fn15), .val .null, .val .null, .val .null, .val .null, .val .null, .unset, .unset, .unset]) rfl k_) ?_
    show own_Go p e below _ T20 (mkF m 159 #[.val (.int p1), .val (.long q1), .second, .val (.long q2), .second, .val (.long q3), .second, .val (.int (0 : Int32)), .val (.ref b1), .val (.ref b5), .val (.ref b9), .val (.ref b13), .val (.ref fn15), .val .null, .val .null, .val .null, .val .null, .val .null, .unset, .unset, .unset] [])
    refine own_go (fun t_ k_ => XS.iload X20.here hx rfl (hb hby at_159) rfl k_) ?_
    show own_Go p e below _ T20 (mkF m 161 #[.val (.int p1), .val (.long q1), .second, .val (.long q2), .second, .val (.long q3), .second, .val (.int (0 : Int32)), .val (.ref b1), .val (.ref b5), .val (.ref b9), .val (.ref b13), .val (.ref fn15), .val .null, .val .null, .val .null, .val .null, .val .null, .unset, .unset, .unset] [(.int (0 : Int32))])
    refine own_go (fun t_ k_ => XS.ifYes X20.here hx rfl (pc0 := 161) (pc' := 179) rfl (hb hby at_161) rfl (XT.i0_le_t (by decide)) (by decide) (by decide) k_) ?_
    show own_Go p e below _ T20 (mkF m 179 #[.val (.int p1), .val (.long q1), .second, .val (.long q2), .second, .val (.long q3), .second, .val (.int (0 : Int32)), .val (.ref b1), .val (.ref b5), .val (.ref b9), .val (.ref b13), .val (.ref fn15), .val .null, .val .null, .val .null, .val .null, .val .null, .unset, .unset, .unset] [])
    refine own_go (fun t_ k_ => XS.aload X20.here hx rfl (hb hby at_179) rfl rfl k_) ?_
    show own_Go p e below _ T20 (mkF m 181 #[.val (.int p1), .val (.long q1), .second, .val (.long q2), .second, .val (.long q3), .second, .val (.int (0 : Int32)), .val (.ref b1), .val (.ref b5), .val (.ref b9), .val (.ref b13), .val (.ref fn15), .val .null, .val .null, .val .null, .val .null, .val .null, .unset, .unset, .unset] [.null])
    refine own_go (fun t_ k_ => XS.ifnonnullNo X20.here hx rfl (hb hby at_181) rfl k_) ?_
    show own_Go p e below _ T20 (mkF m 184 #[.val (.int p1), .val (.long q1), .second, .val (.long q2), .second, .val (.long q3), .second, .val (.int (0 : Int32)), .val (.ref b1), .val (.ref b5), .val (.ref b9), .val (.ref b13), .val (.ref fn15), .val .null, .val .null, .val .null, .val .null, .val .null, .unset, .unset, .unset] [])
    refine own_go (fun t_ k_ => XS.iconst X20.here hx rfl (hb hby at_184) k_) ?_
    show own_Go p e below _ T20 (mkF m 185 #[.val (.int p1), .val (.long q1), .second, .val (.long q2), .second, .val (.long q3), .second, .val (.int (0 : Int32)), .val (.ref b1), .val (.ref b5), .val (.ref b9), .val (.ref b13), .val (.ref fn15), .val .null, .val .null, .val .null, .val .null, .val .null, .unset, .unset, .unset] [(.int (1 : Int32))])
    refine own_go (fun t_ k_ => XS.goto X20.here hx rfl (pc0 := 185) (pc' := 189) rfl (hb hby at_185) (by decide) (by decide) k_) ?_
    show own_Go p e below _ T20 (mkF m 189 #[.val (.int p1), .val (.long q1), .second, .val (.long q2), .second, .val (.long q3), .second, .val (.int (0 : Int32)), .val (.ref b1), .val (.ref b5), .val (.ref b9), .val (.ref b13), .val (.ref fn15), .val .null, .val .null, .val .null, .val .null, .val .null, .unset, .unset, .unset] [(.int (1 : Int32))])
    refine own_go (fun t_ k_ => XS.istore X20.here hx rfl (hb hby at_189) rfl (l' := #[.val (.int p1), .val (.long q1), .second, .val (.long q2), .second, .val (.long q3), .second, .val (.int (0 : Int32)), .val (.ref b1), .val (.ref b5), .val (.ref b9), .val (.ref b13), .val (.ref fn15), .val .null, .val .null, .val .null, .val .null, .val .null, .val (.int (1 : Int32)), .unset, .unset]) rfl k_) ?_
    show own_Go p e below _ T20 (mkF m 191 #[.val (.int p1), .val (.long q1), .second, .val (.long q2), .second, .val (.long q3), .second, .val (.int (0 : Int32)), .val (.ref b1), .val (.ref b5), .val (.ref b9), .val (.ref b13), .val (.ref fn15), .val .null, .val .null, .val .null, .val .null, .val .null, .val (.int (1 : Int32)), .unset, .unset] [])
    refine own_go (fun t_ k_ => XS.iload X20.here hx rfl (hb hby at_191) rfl k_) ?_
    show own_Go p e below _ T20 (mkF m 193 #[.val (.int p1), .val (.long q1), .second, .val (.long q2), .second, .val (.long q3), .second, .val (.int (0 : Int32)), .val (.ref b1), .val (.ref b5), .val (.ref b9), .val (.ref b13), .val (.ref fn15), .val .null, .val .null, .val .null, .val .null, .val .null, .val (.int (1 : Int32)), .unset, .unset] [(.int (0 : Int32))])
    refine own_go (fun t_ k_ => XS.iconst X20.here hx rfl (hb hby at_193) k_) ?_
    show own_Go p e below _ T20 (mkF m 194 #[.val (.int p1), .val (.long q1), .second, .val (.long q2), .second, .val (.long q3), .second, .val (.int (0 : Int32)), .val (.ref b1), .val (.ref b5), .val (.ref b9), .val (.ref b13), .val (.ref fn15), .val .null, .val .null, .val .null, .val .null, .val .null, .val (.int (1 : Int32)), .unset, .unset] [(.int (1 : Int32)), (.int (0 : Int32))])
    refine own_go (fun t_ k_ => XS.icmpYes X20.here hx rfl (pc0 := 194) (pc' := 212) rfl (hb hby at_194) rfl (XT.ii_le_t (by decide)) (by decide) (by decide) k_) ?_
    show own_Go p e below _ T20 (mkF m 212 #[.val (.int p1), .val (.long q1), .second, .val (.long q2), .second, .val (.long q3), .second, .val (.int (0 : Int32)), .val (.ref b1), .val (.ref b5), .val (.ref b9), .val (.ref b13), .val (.ref fn15), .val .null, .val .null, .val .null, .val .null, .val .null, .val (.int (1 : Int32)), .unset, .unset] [])
    refine own_go (fun t_ k_ => XS.aload X20.here hx rfl (hb hby at_212) rfl rfl k_) ?_
    show own_Go p e below _ T20 (mkF m 214 #[.val (.int p1), .val (.long q1), .second, .val (.long q2), .second, .val (.long q3), .second, .val (.int (0 : Int32)), .val (.ref b1), .val (.ref b5), .val (.ref b9), .val (.ref b13), .val (.ref fn15), .val .null, .val .null, .val .null, .val .null, .val .null, .val (.int (1 : Int32)), .unset, .unset] [.null])
    refine own_go (fun t_ k_ => XS.ifnonnullNo X20.here hx rfl (hb hby at_214) rfl k_) ?_
    show own_Go p e below _ T20 (mkF m 217 #[.val (.int p1), .val (.long q1), .second, .val (.long q2), .second, .val (.long q3), .second, .val (.int (0 : Int32)), .val (.ref b1), .val (.ref b5), .val (.ref b9), .val (.ref b13), .val (.ref fn15), .val .null, .val .null, .val .null, .val .null, .val .null, .val (.int (1 : Int32)), .unset, .unset] [])
    refine own_go (fun t_ k_ => XS.iconst X20.here hx rfl (hb hby at_217) k_) ?_
    show own_Go p e below _ T20 (mkF m 218 #[.val (.int p1), .val (.long q1), .second, .val (.long q2), .second, .val (.long q3), .second, .val (.int (0 : Int32)), .val (.ref b1), .val (.ref b5), .val (.ref b9), .val (.ref b13), .val (.ref fn15), .val .null, .val .null, .val .null, .val .null, .val .null, .val (.int (1 : Int32)), .unset, .unset] [(.int (1 : Int32))])
    refine own_go (fun t_ k_ => XS.goto X20.here hx rfl (pc0 := 218) (pc' := 222) rfl (hb hby at_218) (by decide) (by decide) k_) ?_
    show own_Go p e below _ T20 (mkF m 222 #[.val (.int p1), .val (.long q1), .second, .val (.long q2), .second, .val (.long q3), .second, .val (.int (0 : Int32)), .val (.ref b1), .val (.ref b5), .val (.ref b9), .val (.ref b13), .val (.ref fn15), .val .null, .val .null, .val .null, .val .null, .val .null, .val (.int (1 : Int32)), .unset, .unset] [(.int (1 : Int32))])
    refine own_go (fun t_ k_ => XS.istore X20.here hx rfl (hb hby at_222) rfl (l' := #[.val (.int p1), .val (.long q1), .second, .val (.long q2), .second, .val (.long q3), .second, .val (.int (0 : Int32)), .val (.ref b1), .val (.ref b5), .val (.ref b9), .val (.ref b13), .val (.ref fn15), .val .null, .val .null, .val .null, .val .null, .val .null, .val (.int (1 : Int32)), .val (.int (1 : Int32)), .unset]) rfl k_) ?_
    show own_Go p e below _ T20 (mkF m 224 #[.val (.int p1), .val (.long q1), .second, .val (.long q2), .second, .val (.long q3), .second, .val (.int (0 : Int32)), .val (.ref b1), .val (.ref b5), .val (.ref b9), .val (.ref b13), .val (.ref fn15), .val .null, .val .null, .val .null, .val .null, .val .null, .val (.int (1 : Int32)), .val (.int (1 : Int32)), .unset] [])
    refine own_go (fun t_ k_ => XS.iload X20.here hx rfl (hb hby at_224) rfl k_) ?_
    show own_Go p e below _ T20 (mkF m 226 #[.val (.int p1), .val (.long q1), .second, .val (.long q2), .second, .val (.long q3), .second, .val (.int (0 : Int32)), .val (.ref b1), .val (.ref b5), .val (.ref b9), .val (.ref b13), .val (.ref fn15), .val .null, .val .null, .val .null, .val .null, .val .null, .val (.int (1 : Int32)), .val (.int (1 : Int32)), .unset] [(.int (0 : Int32))])
    refine own_go (fun t_ k_ => XS.iconst X20.here hx rfl (hb hby at_226) k_) ?_
    show own_Go p e below _ T20 (mkF m 227 #[.val (.int p1), .val (.long q1), .second, .val (.long q2), .second, .val (.long q3), .second, .val (.int (0 : Int32)), .val (.ref b1), .val (.ref b5), .val (.ref b9), .val (.ref b13), .val (.ref fn15), .val .null, .val .null, .val .null, .val .null, .val .null, .val (.int (1 : Int32)), .val (.int (1 : Int32)), .unset] [(.int (2 : Int32)), (.int (0 : Int32))])
    refine own_go (fun t_ k_ => XS.icmpYes X20.here hx rfl (pc0 := 227) (pc' := 245) rfl (hb hby at_227) rfl (XT.ii_le_t (by decide)) (by decide) (by decide) k_) ?_
    show own_Go p e below _ T20 (mkF m 245 #[.val (.int p1), .val (.long q1), .second, .val (.long q2), .second, .val (.long q3), .second, .val (.int (0 : Int32)), .val (.ref b1), .val (.ref b5), .val (.ref b9), .val (.ref b13), .val (.ref fn15), .val .null, .val .null, .val .null, .val .null, .val .null, .val (.int (1 : Int32)), .val (.int (1 : Int32)), .unset] [])
    refine own_go (fun t_ k_ => XS.aload X20.here hx rfl (hb hby at_245) rfl rfl k_) ?_
    show own_Go p e below _ T20 (mkF m 247 #[.val (.int p1), .val (.long q1), .second, .val (.long q2), .second, .val (.long q3), .second, .val (.int (0 : Int32)), .val (.ref b1), .val (.ref b5), .val (.ref b9), .val (.ref b13), .val (.ref fn15), .val .null, .val .null, .val .null, .val .null, .val .null, .val (.int (1 : Int32)), .val (.int (1 : Int32)), .unset] [.null])
    refine own_go (fun t_ k_ => XS.ifnonnullNo X20.here hx rfl (hb hby at_247) rfl k_) ?_
    show own_Go p e below _ T20 (mkF m 250 #[.val (.int p1), .val (.long q1), .second, .val (.long q2), .second, .val (.long q3), .second, .val (.int (0 : Int32)), .val (.ref b1), .val (.ref b5), .val (.ref b9), .val (.ref b13), .val (.ref fn15), .val .null, .val .null, .val .null, .val .null, .val .null, .val (.int (1 : Int32)), .val (.int (1 : Int32)), .unset] [])
    refine own_go (fun t_ k_ => XS.iconst X20.here hx rfl (hb hby at_250) k_) ?_
    show own_Go p e below _ T20 (mkF m 251 #[.val (.int p1), .val (.long q1), .second, .val (.long q2), .second, .val (.long q3), .second, .val (.int (0 : Int32)), .val (.ref b1), .val (.ref b5), .val (.ref b9), .val (.ref b13), .val (.ref fn15), .val .null, .val .null, .val .null, .val .null, .val .null, .val (.int (1 : Int32)), .val (.int (1 : Int32)), .unset] [(.int (1 : Int32))])
    refine own_go (fun t_ k_ => XS.goto X20.here hx rfl (pc0 := 251) (pc' := 255) rfl (hb hby at_251) (by decide) (by decide) k_) ?_
    show own_Go p e below _ T20 (mkF m 255 #[.val (.int p1), .val (.long q1), .second, .val (.long q2), .second, .val (.long q3), .second, .val (.int (0 : Int32)), .val (.ref b1), .val (.ref b5), .val (.ref b9), .val (.ref b13), .val (.ref fn15), .val .null, .val .null, .val .null, .val .null, .val .null, .val (.int (1 : Int32)), .val (.int (1 : Int32)), .unset] [(.int (1 : Int32))])
    refine own_go (fun t_ k_ => XS.istore X20.here hx rfl (hb hby at_255) rfl (l' := #[.val (.int p1), .val (.long q1), .second, .val (.long q2), .second, .val (.long q3), .second, .val (.int (0 : Int32)), .val (.ref b1), .val (.ref b5), .val (.ref b9), .val (.ref b13), .val (.ref fn15), .val .null, .val .null, .val .null, .val .null, .val .null, .val (.int (1 : Int32)), .val (.int (1 : Int32)), .val (.int (1 : Int32))]) rfl k_) ?_
    show own_Go p e below _ T20 (mkF m 257 #[.val (.int p1), .val (.long q1), .second, .val (.long q2), .second, .val (.long q3), .second, .val (.int (0 : Int32)), .val (.ref b1), .val (.ref b5), .val (.ref b9), .val (.ref b13), .val (.ref fn15), .val .null, .val .null, .val .null, .val .null, .val .null, .val (.int (1 : Int32)), .val (.int (1 : Int32)), .val (.int (1 : Int32))] [])
    refine own_go (fun t_ k_ => XS.iload X20.here hx rfl (hb hby at_257) rfl k_) ?_
    show own_Go p e below _ T20 (mkF m 259 #[.val (.int p1), .val (.long q1), .second, .val (.long q2), .second, .val (.long q3), .second, .val (.int (0 : Int32)), .val (.ref b1), .val (.ref b5), .val (.ref b9), .val (.ref b13), .val (.ref fn15), .val .null, .val .null, .val .null, .val .null, .val .null, .val (.int (1 : Int32)), .val (.int (1 : Int32)), .val (.int (1 : Int32))] [(.int (1 : Int32))])
    refine own_go (fun t_ k_ => XS.ifNo X20.here hx rfl (hb hby at_259) rfl (XT.i0_eq_f (by decide)) k_) ?_
    show own_Go p e below _ T20 (mkF m 262 #[.val (.int p1), .val (.long q1), .second, .val (.long q2), .second, .val (.long q3), .second, .val (.int (0 : Int32)), .val (.ref b1), .val (.ref b5), .val (.ref b9), .val (.ref b13), .val (.ref fn15), .val .null, .val .null, .val .null, .val .null, .val .null, .val (.int (1 : Int32)), .val (.int (1 : Int32)), .val (.int (1 : Int32))] [])
    refine own_go (fun t_ k_ => XS.iload X20.here hx rfl (hb hby at_262) rfl k_) ?_
    show own_Go p e below _ T20 (mkF m 264 #[.val (.int p1), .val (.long q1), .second, .val (.long q2), .second, .val (.long q3), .second, .val (.int (0 : Int32)), .val (.ref b1), .val (.ref b5), .val (.ref b9), .val (.ref b13), .val (.ref fn15), .val .null, .val .null, .val .null, .val .null, .val .null, .val (.int (1 : Int32)), .val (.int (1 : Int32)), .val (.int (1 : Int32))] [(.int (1 : Int32))])
    refine own_go (fun t_ k_ => XS.ifNo X20.here hx rfl (hb hby at_264) rfl (XT.i0_eq_f (by decide)) k_) ?_
    show own_Go p e below _ T20 (mkF m 267 #[.val (.int p1), .val (.long q1), .second, .val (.long q2), .second, .val (.long q3), .second, .val (.int (0 : Int32)), .val (.ref b1), .val (.ref b5), .val (.ref b9), .val (.ref b13), .val (.ref fn15), .val .null, .val .null, .val .null, .val .null, .val .null, .val (.int (1 : Int32)), .val (.int (1 : Int32)), .val (.int (1 : Int32))] [])
    refine own_go (fun t_ k_ => XS.iload X20.here hx rfl (hb hby at_267) rfl k_) ?_
    show own_Go p e below _ T20 (mkF m 269 #[.val (.int p1), .val (.long q1), .second, .val (.long q2), .second, .val (.long q3), .second, .val (.int (0 : Int32)), .val (.ref b1), .val (.ref b5), .val (.ref b9), .val (.ref b13), .val (.ref fn15), .val .null, .val .null, .val .null, .val .null, .val .null, .val (.int (1 : Int32)), .val (.int (1 : Int32)), .val (.int (1 : Int32))] [(.int (1 : Int32))])
    refine own_go (fun t_ k_ => XS.ifNo X20.here hx rfl (hb hby at_269) rfl (XT.i0_eq_f (by decide)) k_) ?_
    show own_Go p e below _ T20 (mkF m 272 #[.val (.int p1), .val (.long q1), .second, .val (.long q2), .second, .val (.long q3), .second, .val (.int (0 : Int32)), .val (.ref b1), .val (.ref b5), .val (.ref b9), .val (.ref b13), .val (.ref fn15), .val .null, .val .null, .val .null, .val .null, .val .null, .val (.int (1 : Int32)), .val (.int (1 : Int32)), .val (.int (1 : Int32))] [])
    refine own_go (fun t_ k_ => XS.aload X20.here hx rfl (hb hby at_272) rfl rfl k_) ?_
    show own_Go p e below _ T20 (mkF m 274 #[.val (.int p1), .val (.long q1), .second, .val (.long q2), .second, .val (.long q3), .second, .val (.int (0 : Int32)), .val (.ref b1), .val (.ref b5), .val (.ref b9), .val (.ref b13), .val (.ref fn15), .val .null, .val .null, .val .null, .val .null, .val .null, .val (.int (1 : Int32)), .val (.int (1 : Int32)), .val (.int (1 : Int32))] [.null])
    refine own_go (fun t_ k_ => XS.ifnonnullNo X20.here hx rfl (hb hby at_274) rfl k_) ?_
    show own_Go p e below _ T20 (mkF m 277 #[.val (.int p1), .val (.long q1), .second, .val (.long q2), .second, .val (.long q3), .second, .val (.int (0 : Int32)), .val (.ref b1), .val (.ref b5), .val (.ref b9), .val (.ref b13), .val (.ref fn15), .val .null, .val .null, .val .null, .val .null, .val .null, .val (.int (1 : Int32)), .val (.int (1 : Int32)), .val (.int (1 : Int32))] [])
    refine own_go (fun t_ k_ => XS.aload X20.here hx rfl (hb hby at_277) rfl rfl k_) ?_
    show own_Go p e below _ T20 (mkF m 279 #[.val (.int p1), .val (.long q1), .second, .val (.long q2), .second, .val (.long q3), .second, .val (.int (0 : Int32)), .val (.ref b1), .val (.ref b5), .val (.ref b9), .val (.ref b13), .val (.ref fn15), .val .null, .val .null, .val .null, .val .null, .val .null, .val (.int (1 : Int32)), .val (.int (1 : Int32)), .val (.int (1 : Int32))] [.null])
    refine own_go (fun t_ k_ => XS.ifnonnullNo X20.here hx rfl (hb hby at_279) rfl k_) ?_
    show own_Go p e below _ T20 (mkF m 282 #[.val (.int p1), .val (.long q1), .second, .val (.long q2), .second, .val (.long q3), .second, .val (.int (0 : Int32)), .val (.ref b1), .val (.ref b5), .val (.ref b9), .val (.ref b13), .val (.ref fn15), .val .null, .val .null, .val .null, .val .null, .val .null, .val (.int (1 : Int32)), .val (.int (1 : Int32)), .val (.int (1 : Int32))] [])
    refine own_go (fun t_ k_ => XS.aload X20.here hx rfl (hb hby at_282) rfl rfl k_) ?_
    show own_Go p e below _ T20 (mkF m 284 #[.val (.int p1), .val (.long q1), .second, .val (.long q2), .second, .val (.long q3), .second, .val (.int (0 : Int32)), .val (.ref b1), .val (.ref b5), .val (.ref b9), .val (.ref b13), .val (.ref fn15), .val .null, .val .null, .val .null, .val .null, .val .null, .val (.int (1 : Int32)), .val (.int (1 : Int32)), .val (.int (1 : Int32))] [(.ref b13)])
    obtain ⟨_, T21, L21, X21, ⟨rfl, N21, e21⟩, st21⟩ := own_callV X20 hx hZ (y := (⟨"java/util/ArrayList", "size", "()I"⟩ : MethodName)) (z := (⟨"java/util/ArrayList", "size", "()I"⟩ : MethodName)) (b := b13) (argsL := []) (rest := []) (Ls := #[.val (.int p1), .val (.long q1), .second, .val (.long q2), .second, .val (.long q3), .second, .val (.int (0 : Int32)), .val (.ref b1), .val (.ref b5), .val (.ref b9), .val (.ref b13), .val (.ref fn15), .val .null, .val .null, .val .null, .val .null, .val .null, .val (.int (1 : Int32)), .val (.int (1 : Int32)), .val (.int (1 : Int32))]) hown (own_w hw 93 rfl) (own_w hw 94 rfl) (own_w hw 96 rfl) (notFace_of_selects (args := #[]) (mvT hZ (own_w hw 96 rfl))) (own_w hw 95 rfl) (own_w hw 97 rfl) (own_w hw 21 rfl) (by decide) e20 kE15_b13 (rmSz l Z a0 hw [] b13 (0 : Int32) T15.heap n0 (own_oldge old15) kE15_b13 kF15_b13_size) 0 (by decide) (by decide) (by decide) (by decide) (by rw [hml]; rfl) (lenOf pd_0 rfl) rfl (Nat.le_of_eq rfl) (hb hby at_284)
    have M21 := Fr.app M20 N21
    refine own_go st21 ?_
    show own_Go p e below _ T21 (mkF m 287 #[.val (.int p1), .val (.long q1), .second, .val (.long q2), .second, .val (.long q3), .second, .val (.int (0 : Int32)), .val (.ref b1), .val (.ref b5), .val (.ref b9), .val (.ref b13), .val (.ref fn15), .val .null, .val .null, .val .null, .val .null, .val .null, .val (.int (1 : Int32)), .val (.int (1 : Int32)), .val (.int (1 : Int32))] [(.int (0 : Int32))])
    refine own_go (fun t_ k_ => XS.iload X21.here hx rfl (hb hby at_287) rfl k_) ?_
    show own_Go p e below _ T21 (mkF m 289 #[.val (.int p1), .val (.long q1), .second, .val (.long q2), .second, .val (.long q3), .second, .val (.int (0 : Int32)), .val (.ref b1), .val (.ref b5), .val (.ref b9), .val (.ref b13), .val (.ref fn15), .val .null, .val .null, .val .null, .val .null, .val .null, .val (.int (1 : Int32)), .val (.int (1 : Int32)), .val (.int (1 : Int32))] [(.int (0 : Int32)), (.int (0 : Int32))])
    refine own_go (fun t_ k_ => XS.icmpNo X21.here hx rfl (hb hby at_289) rfl (XT.ii_ne_f (by decide)) k_) ?_
    show own_Go p e below _ T21 (mkF m 292 #[.val (.int p1), .val (.long q1), .second, .val (.long q2), .second, .val (.long q3), .second, .val (.int (0 : Int32)), .val (.ref b1), .val (.ref b5), .val (.ref b9), .val (.ref b13), .val (.ref fn15), .val .null, .val .null, .val .null, .val .null, .val .null, .val (.int (1 : Int32)), .val (.int (1 : Int32)), .val (.int (1 : Int32))] [])
    refine own_go (fun t_ k_ => XS.iconst X21.here hx rfl (hb hby at_292) k_) ?_
    show own_Go p e below _ T21 (mkF m 293 #[.val (.int p1), .val (.long q1), .second, .val (.long q2), .second, .val (.long q3), .second, .val (.int (0 : Int32)), .val (.ref b1), .val (.ref b5), .val (.ref b9), .val (.ref b13), .val (.ref fn15), .val .null, .val .null, .val .null, .val .null, .val .null, .val (.int (1 : Int32)), .val (.int (1 : Int32)), .val (.int (1 : Int32))] [(.int (1 : Int32))])
    refine own_go (fun t_ k_ => XS.goto X21.here hx rfl (pc0 := 293) (pc' := 297) rfl (hb hby at_293) (by decide) (by decide) k_) ?_
    show own_Go p e below _ T21 (mkF m 297 #[.val (.int p1), .val (.long q1), .second, .val (.long q2), .second, .val (.long q3), .second, .val (.int (0 : Int32)), .val (.ref b1), .val (.ref b5), .val (.ref b9), .val (.ref b13), .val (.ref fn15), .val .null, .val .null, .val .null, .val .null, .val .null, .val (.int (1 : Int32)), .val (.int (1 : Int32)), .val (.int (1 : Int32))] [(.int (1 : Int32))])
    refine own_retZ X21 hx hlk hret (hb hby at_297) (Or.inr rfl) (by decide) (by decide) ?_
    exact ⟨rfl, M21⟩
  · rw [q9]
    show own_Go p e below _ T14 (mkF m 66 #[.val (.int p1), .val (.long q1), .second, .val (.long q2), .second, .val (.long q3), .second, .val (.int (1 : Int32)), .val (.ref b1), .val (.ref b5), .val (.ref b9), .val (.ref b13), .unset, .unset, .unset, .unset, .unset, .unset, .unset, .unset, .unset] [])
    refine own_go (fun t_ k_ => XS.iload X14.here hx rfl (hb hby at_66) rfl k_) ?_
    show own_Go p e below _ T14 (mkF m 68 #[.val (.int p1), .val (.long q1), .second, .val (.long q2), .second, .val (.long q3), .second, .val (.int (1 : Int32)), .val (.ref b1), .val (.ref b5), .val (.ref b9), .val (.ref b13), .unset, .unset, .unset, .unset, .unset, .unset, .unset, .unset, .unset] [(.int (1 : Int32))])
    refine own_go (fun t_ k_ => XS.ifNo X14.here hx rfl (hb hby at_68) rfl (XT.i0_le_f (by decide)) k_) ?_
    show own_Go p e below _ T14 (mkF m 71 #[.val (.int p1), .val (.long q1), .second, .val (.long q2), .second, .val (.long q3), .second, .val (.int (1 : Int32)), .val (.ref b1), .val (.ref b5), .val (.ref b9), .val (.ref b13), .unset, .unset, .unset, .unset, .unset, .unset, .unset, .unset, .unset] [])
    refine own_go (fun t_ k_ => XS.aload X14.here hx rfl (hb hby at_71) rfl rfl k_) ?_
    show own_Go p e below _ T14 (mkF m 73 #[.val (.int p1), .val (.long q1), .second, .val (.long q2), .second, .val (.long q3), .second, .val (.int (1 : Int32)), .val (.ref b1), .val (.ref b5), .val (.ref b9), .val (.ref b13), .unset, .unset, .unset, .unset, .unset, .unset, .unset, .unset, .unset] [(.ref b13)])
    refine own_go (fun t_ k_ => XS.aload X14.here hx rfl (hb hby at_73) rfl rfl k_) ?_
    show own_Go p e below _ T14 (mkF m 75 #[.val (.int p1), .val (.long q1), .second, .val (.long q2), .second, .val (.long q3), .second, .val (.int (1 : Int32)), .val (.ref b1), .val (.ref b5), .val (.ref b9), .val (.ref b13), .unset, .unset, .unset, .unset, .unset, .unset, .unset, .unset, .unset] [(.ref b1), (.ref b13)])
    obtain ⟨_, T22, L22, X22, ⟨rfl, ⟨ea22, kA22, E22, F22_ed, F22_sz, F22_mc, V22, O22, ge22, K22⟩, N22⟩, st22⟩ := own_callV X14 hx hZ (y := (⟨"java/util/ArrayList", "add", "(Ljava/lang/Object;)Z"⟩ : MethodName)) (z := (⟨"java/util/ArrayList", "add", "(Ljava/lang/Object;)Z"⟩ : MethodName)) (b := b13) (argsL := [(.ref b1)]) (rest := []) (Ls := #[.val (.int p1), .val (.long q1), .second, .val (.long q2), .second, .val (.long q3), .second, .val (.int (1 : Int32)), .val (.ref b1), .val (.ref b5), .val (.ref b9), .val (.ref b13), .unset, .unset, .unset, .unset, .unset, .unset, .unset, .unset, .unset]) hown (own_w hw 99 rfl) (own_w hw 100 rfl) (own_w hw 102 rfl) (notFace_of_selects (args := #[]) (mvT hZ (own_w hw 102 rfl))) (own_w hw 101 rfl) (own_w hw 103 rfl) (own_w hw 21 rfl) (by decide) rfl E14 (rmAd_0 l Z a0 hw [] b13 b1 da kd T14.heap n0 (own_oldge old14) old14 S_D V_d kE14_b1 ge_b13 E14 F14_ed F14_sz F14_mc) 0 (by decide) (by decide) (by decide) (by decide) (by rw [hml]; rfl) (lenOf pd_11 rfl) rfl (Nat.le_of_eq rfl) (hb hby at_75)
    have M22 := Fr.app M14 N22
    have kE22_b1 := kE14_b1.keep K22
    have kE22_b5 := kE14_b5.keep K22
    have kE22_b9 := kE14_b9.keep K22
    have kE22_b13 := E14.keep K22
    have old22 := old14.keep K22 (allS ge_b13 all0)
    have ge_ea22 : n0 ≤ ea22 := Nat.le_trans (own_oldge old14) ge22
    refine own_go st22 ?_
    show own_Go p e below _ T22 (mkF m 78 #[.val (.int p1), .val (.long q1), .second, .val (.long q2), .second, .val (.long q3), .second, .val (.int (1 : Int32)), .val (.ref b1), .val (.ref b5), .val (.ref b9), .val (.ref b13), .unset, .unset, .unset, .unset, .unset, .unset, .unset, .unset, .unset] [(.int (1 : Int32))])
    refine own_go (fun t_ k_ => XS.pop X22.here hx rfl (hb hby at_78) rfl rfl k_) ?_
    show own_Go p e below _ T22 (mkF m 79 #[.val (.int p1), .val (.long q1), .second, .val (.long q2), .second, .val (.long q3), .second, .val (.int (1 : Int32)), .val (.ref b1), .val (.ref b5), .val (.ref b9), .val (.ref b13), .unset, .unset, .unset, .unset, .unset, .unset, .unset, .unset, .unset] [])
    refine own_go (fun t_ k_ => XS.iload X22.here hx rfl (hb hby at_79) rfl k_) ?_
    show own_Go p e below _ T22 (mkF m 81 #[.val (.int p1), .val (.long q1), .second, .val (.long q2), .second, .val (.long q3), .second, .val (.int (1 : Int32)), .val (.ref b1), .val (.ref b5), .val (.ref b9), .val (.ref b13), .unset, .unset, .unset, .unset, .unset, .unset, .unset, .unset, .unset] [(.int (1 : Int32))])
    refine own_go (fun t_ k_ => XS.iconst X22.here hx rfl (hb hby at_81) k_) ?_
    show own_Go p e below _ T22 (mkF m 82 #[.val (.int p1), .val (.long q1), .second, .val (.long q2), .second, .val (.long q3), .second, .val (.int (1 : Int32)), .val (.ref b1), .val (.ref b5), .val (.ref b9), .val (.ref b13), .unset, .unset, .unset, .unset, .unset, .unset, .unset, .unset, .unset] [(.int (1 : Int32)), (.int (1 : Int32))])
    refine own_go (fun t_ k_ => XS.icmpYes X22.here hx rfl (pc0 := 82) (pc' := 93) rfl (hb hby at_82) rfl (XT.ii_le_t (by decide)) (by decide) (by decide) k_) ?_
    show own_Go p e below _ T22 (mkF m 93 #[.val (.int p1), .val (.long q1), .second, .val (.long q2), .second, .val (.long q3), .second, .val (.int (1 : Int32)), .val (.ref b1), .val (.ref b5), .val (.ref b9), .val (.ref b13), .unset, .unset, .unset, .unset, .unset, .unset, .unset, .unset, .unset] [])
    refine own_go (fun t_ k_ => XS.iload X22.here hx rfl (hb hby at_93) rfl k_) ?_
    show own_Go p e below _ T22 (mkF m 95 #[.val (.int p1), .val (.long q1), .second, .val (.long q2), .second, .val (.long q3), .second, .val (.int (1 : Int32)), .val (.ref b1), .val (.ref b5), .val (.ref b9), .val (.ref b13), .unset, .unset, .unset, .unset, .unset, .unset, .unset, .unset, .unset] [(.int (1 : Int32))])
    refine own_go (fun t_ k_ => XS.iconst X22.here hx rfl (hb hby at_95) k_) ?_
    show own_Go p e below _ T22 (mkF m 96 #[.val (.int p1), .val (.long q1), .second, .val (.long q2), .second, .val (.long q3), .second, .val (.int (1 : Int32)), .val (.ref b1), .val (.ref b5), .val (.ref b9), .val (.ref b13), .unset, .unset, .unset, .unset, .unset, .unset, .unset, .unset, .unset] [(.int (2 : Int32)), (.int (1 : Int32))])
    refine own_go (fun t_ k_ => XS.icmpYes X22.here hx rfl (pc0 := 96) (pc' := 107) rfl (hb hby at_96) rfl (XT.ii_le_t (by decide)) (by decide) (by decide) k_) ?_
    show own_Go p e below _ T22 (mkF m 107 #[.val (.int p1), .val (.long q1), .second, .val (.long q2), .second, .val (.long q3), .second, .val (.int (1 : Int32)), .val (.ref b1), .val (.ref b5), .val (.ref b9), .val (.ref b13), .unset, .unset, .unset, .unset, .unset, .unset, .unset, .unset, .unset] [])
    refine own_go (fun t_ k_ => XS.aload X22.here hx rfl (hb hby at_107) rfl rfl k_) ?_
    show own_Go p e below _ T22 (mkF m 109 #[.val (.int p1), .val (.long q1), .second, .val (.long q2), .second, .val (.long q3), .second, .val (.int (1 : Int32)), .val (.ref b1), .val (.ref b5), .val (.ref b9), .val (.ref b13), .unset, .unset, .unset, .unset, .unset, .unset, .unset, .unset, .unset] [(.ref b13)])
    obtain ⟨_, T23, L23, X23, ⟨⟨fn23, it23, cK23, rfl, made23, hfn23, E23, F23_th, F23_cu, F23_lr, F23_em, szi23, nf23, K23⟩, N23⟩, st23⟩ := own_callSH X22 hx hZH (y := (⟨"com/example/gridtally/gridtally/core/RowSource", "of", "(Ljava/util/List;)Lcom/example/gridtally/gridtally/core/RowSource;"⟩ : MethodName)) (argsL := [(.ref b13)]) (rest := []) (Ls := #[.val (.int p1), .val (.long q1), .second, .val (.long q2), .second, .val (.long q3), .second, .val (.int (1 : Int32)), .val (.ref b1), .val (.ref b5), .val (.ref b9), .val (.ref b13), .unset, .unset, .unset, .unset, .unset, .unset, .unset, .unset, .unset]) hown (own_w hw 43 rfl) (own_w hw 44 rfl) (own_w hw 45 rfl) (own_w hw 46 rfl) (by decide) rfl (rmOf l Z a0 hw [] b13 (1 : Int32) T22.heap n0 (own_oldge old22) old22 E22 F22_mc) 0 (by decide) (by decide) (by decide) (by decide) (by rw [hml]; rfl) (lenOf pd_15 rfl) rfl (Nat.le_of_eq rfl) (hb hby at_109)
    have M23 := Fr.app M22 N23
    have kE23_b1 := kE22_b1.keep K23
    have kE23_b5 := kE22_b5.keep K23
    have kE23_b9 := kE22_b9.keep K23
    have kE23_b13 := E22.keep K23
    have kF23_b13_elementData := F22_ed.keep K23 nin0
    have kF23_b13_size := F22_sz.keep K23 nin0
    have kF23_b13_modCount := F22_mc.keep K23 nin0
    have kV23_ea22 := V22.keep K23 nin0
    have old23 := old22.keep K23 all0
    have ge_it23 : n0 ≤ it23 := Nat.le_trans (own_oldge old22) szi23
    have ne_b13_it23 : b13 ≠ it23 := Exa.ne kE23_b13 E23 (by decide)
    have ne_fn23_it23 : fn23 ≠ it23 := Ne.symm nf23
    have ne_ea22_it23 : ea22 ≠ it23 := Ne.symm (Exa.neArv E23 kV23_ea22 (own_w hw 57 rfl))
    refine own_go st23 ?_
    show own_Go p e below _ T23 (mkF m 112 #[.val (.int p1), .val (.long q1), .second, .val (.long q2), .second, .val (.long q3), .second, .val (.int (1 : Int32)), .val (.ref b1), .val (.ref b5), .val (.ref b9), .val (.ref b13), .unset, .unset, .unset, .unset, .unset, .unset, .unset, .unset, .unset] [(.ref fn23)])
    refine own_go (fun t_ k_ => XS.astore X23.here hx rfl (hb hby at_112) rfl rfl (l' := #[.val (.int p1), .val (.long q1), .second, .val (.long q2), .second, .val (.long q3), .second, .val (.int (1 : Int32)), .val (.ref b1), .val (.ref b5), .val (.ref b9), .val (.ref b13), .val (.ref fn23), .unset, .unset, .unset, .unset, .unset, .unset, .unset, .unset]) rfl k_) ?_
    show own_Go p e below _ T23 (mkF m 114 #[.val (.int p1), .val (.long q1), .second, .val (.long q2), .second, .val (.long q3), .second, .val (.int (1 : Int32)), .val (.ref b1), .val (.ref b5), .val (.ref b9), .val (.ref b13), .val (.ref fn23), .unset, .unset, .unset, .unset, .unset, .unset, .unset, .unset] [])
    refine own_go (fun t_ k_ => XS.aload X23.here hx rfl (hb hby at_114) rfl rfl k_) ?_
    show own_Go p e below _ T23 (mkF m 116 #[.val (.int p1), .val (.long q1), .second, .val (.long q2), .second, .val (.long q3), .second, .val (.int (1 : Int32)), .val (.ref b1), .val (.ref b5), .val (.ref b9), .val (.ref b13), .val (.ref fn23), .unset, .unset, .unset, .unset, .unset, .unset, .unset, .unset] [(.ref fn23)])
    obtain ⟨_, T24, L24, X24, ⟨rfl, N24, K24, E24, F24_th, F24_cu, F24_lr, F24_em⟩, st24⟩ := own_lam X23 hx hZH (xi := (⟨"com/example/gridtally/gridtally/core/RowSource", "next", "()Lcom/example/gridtally/gridtally/core/Row;"⟩ : MethodName)) (y := (⟨"com/example/gridtally/gridtally/core/RowSource", "lambda$of$0", "(Ljava/util/Iterator;)Lcom/example/gridtally/gridtally/core/Row;"⟩ : MethodName)) (a := fn23) (b := it23) (Ls := #[.val (.int p1), .val (.long q1), .second, .val (.long q2), .second, .val (.long q3), .second, .val (.int (1 : Int32)), .val (.ref b1), .val (.ref b5), .val (.ref b9), .val (.ref b13), .val (.ref fn23), .unset, .unset, .unset, .unset, .unset, .unset, .unset, .unset]) (rest := []) hown (own_w hw 75 rfl) (own_w hw 76 rfl) (mvT hZ (own_w hw 77 rfl)) (own_w hw 79 rfl) (own_w hw 78 rfl) (own_w hw 45 rfl) (own_w hw 74 rfl) own_xi own_yi made23 hfn23 rfl (rmLY_0 l Z a0 hw [] it23 b13 ea22 kA22 (1 : Int32) (1 : Int32) (-1 : Int32) b1 .null .null T23.heap n0 (own_oldge old23) old23 E23 F23_th F23_cu F23_lr F23_em kE23_b13 kF23_b13_elementData kF23_b13_size kF23_b13_modCount kV23_ea22 ge_it23 (by decide) (by decide) kE23_b1) (fun _ _ _ q => ⟨_, q.1, rfl⟩) 0 (by decide) (by decide) (by decide) (by decide) (by rw [hml]; rfl) (Nat.le_of_eq rfl) (hb hby at_116)
    have M24 := Fr.app M23 N24
    have kE24_b1 := kE23_b1.keep K24
    have kE24_b5 := kE23_b5.keep K24
    have kE24_b9 := kE23_b9.keep K24
    have kE24_b13 := kE23_b13.keep K24
    have kF24_b13_elementData := kF23_b13_elementData.keep K24 (ninS ne_b13_it23 nin0)
    have kF24_b13_size := kF23_b13_size.keep K24 (ninS ne_b13_it23 nin0)
    have kF24_b13_modCount := kF23_b13_modCount.keep K24 (ninS ne_b13_it23 nin0)
    have kE24_it23 := E23.keep K24
    have kV24_ea22 := kV23_ea22.keep K24 (ninS ne_ea22_it23 nin0)
    have old24 := old23.keep K24 (allS ge_it23 all0)
    have hfn_24 := K24.2.1 _ _ hfn23 (ninS ne_fn23_it23 nin0)
    refine own_go st24 ?_
    show own_Go p e below _ T24 (mkF m 121 #[.val (.int p1), .val (.long q1), .second, .val (.long q2), .second, .val (.long q3), .second, .val (.int (1 : Int32)), .val (.ref b1), .val (.ref b5), .val (.ref b9), .val (.ref b13), .val (.ref fn23), .unset, .unset, .unset, .unset, .unset, .unset, .unset, .unset] [(.ref b1)])
    refine own_go (fun t_ k_ => XS.astore X24.here hx rfl (hb hby at_121) rfl rfl (l' := #[.val (.int p1), .val (.long q1), .second, .val (.long q2), .second, .val (.long q3), .second, .val (.int (1 : Int32)), .val (.ref b1), .val (.ref b5), .val (.ref b9), .val (.ref b13), .val (.ref fn23), .val (.ref b1), .unset, .unset, .unset, .unset, .unset, .unset, .unset]) rfl k_) ?_
    show own_Go p e below _ T24 (mkF m 123 #[.val (.int p1), .val (.long q1), .second, .val (.long q2), .second, .val (.long q3), .second, .val (.int (1 : Int32)), .val (.ref b1), .val (.ref b5), .val (.ref b9), .val (.ref b13), .val (.ref fn23), .val (.ref b1), .unset, .unset, .unset, .unset, .unset, .unset, .unset] [])
    refine own_go (fun t_ k_ => XS.aload X24.here hx rfl (hb hby at_123) rfl rfl k_) ?_
    show own_Go p e below _ T24 (mkF m 125 #[.val (.int p1), .val (.long q1), .second, .val (.long q2), .second, .val (.long q3), .second, .val (.int (1 : Int32)), .val (.ref b1), .val (.ref b5), .val (.ref b9), .val (.ref b13), .val (.ref fn23), .val (.ref b1), .unset, .unset, .unset, .unset, .unset, .unset, .unset] [(.ref fn23)])
    obtain ⟨_, T25, L25, X25, ⟨rfl, N25, e25⟩, st25⟩ := own_lam X24 hx hZH (xi := (⟨"com/example/gridtally/gridtally/core/RowSource", "next", "()Lcom/example/gridtally/gridtally/core/Row;"⟩ : MethodName)) (y := (⟨"com/example/gridtally/gridtally/core/RowSource", "lambda$of$0", "(Ljava/util/Iterator;)Lcom/example/gridtally/gridtally/core/Row;"⟩ : MethodName)) (a := fn23) (b := it23) (Ls := #[.val (.int p1), .val (.long q1), .second, .val (.long q2), .second, .val (.long q3), .second, .val (.int (1 : Int32)), .val (.ref b1), .val (.ref b5), .val (.ref b9), .val (.ref b13), .val (.ref fn23), .val (.ref b1), .unset, .unset, .unset, .unset, .unset, .unset, .unset]) (rest := []) hown (own_w hw 75 rfl) (own_w hw 76 rfl) (mvT hZ (own_w hw 77 rfl)) (own_w hw 79 rfl) (own_w hw 78 rfl) (own_w hw 45 rfl) (own_w hw 74 rfl) own_xi own_yi made23 hfn_24 rfl (rmLN l Z a0 hw [] it23 b13 (1 : Int32) T24.heap n0 (own_oldge old24) E24 F24_th F24_cu kE24_b13 kF24_b13_size) (fun _ _ _ q => ⟨_, q.1, rfl⟩) 0 (by decide) (by decide) (by decide) (by decide) (by rw [hml]; rfl) (Nat.le_of_eq rfl) (hb hby at_125)
    have M25 := Fr.app M24 N25
    refine own_go st25 ?_
    show own_Go p e below _ T25 (mkF m 130 #[.val (.int p1), .val (.long q1), .second, .val (.long q2), .second, .val (.long q3), .second, .val (.int (1 : Int32)), .val (.ref b1), .val (.ref b5), .val (.ref b9), .val (.ref b13), .val (.ref fn23), .val (.ref b1), .unset, .unset, .unset, .unset, .unset, .unset, .unset] [.null])
    refine own_go (fun t_ k_ => XS.astore X25.here hx rfl (hb hby at_130) rfl rfl (l' := #[.val (.int p1), .val (.long q1), .second, .val (.long q2), .second, .val (.long q3), .second, .val (.int (1 : Int32)), .val (.ref b1), .val (.ref b5), .val (.ref b9), .val (.ref b13), .val (.ref fn23), .val (.ref b1), .val .null, .unset, .unset, .unset, .unset, .unset, .unset]) rfl k_) ?_
    show own_Go p e below _ T25 (mkF m 132 #[.val (.int p1), .val (.long q1), .second, .val (.long q2), .second, .val (.long q3), .second, .val (.int (1 : Int32)), .val (.ref b1), .val (.ref b5), .val (.ref b9), .val (.ref b13), .val (.ref fn23), .val (.ref b1), .val .null, .unset, .unset, .unset, .unset, .unset, .unset] [])
    refine own_go (fun t_ k_ => XS.aload X25.here hx rfl (hb hby at_132) rfl rfl k_) ?_
    show own_Go p e below _ T25 (mkF m 134 #[.val (.int p1), .val (.long q1), .second, .val (.long q2), .second, .val (.long q3), .second, .val (.int (1 : Int32)), .val (.ref b1), .val (.ref b5), .val (.ref b9), .val (.ref b13), .val (.ref fn23), .val (.ref b1), .val .null, .unset, .unset, .unset, .unset, .unset, .unset] [(.ref fn23)])
    obtain ⟨_, T26, L26, X26, ⟨rfl, N26, e26⟩, st26⟩ := own_lam X25 hx hZH (xi := (⟨"com/example/gridtally/gridtally/core/RowSource", "next", "()Lcom/example/gridtally/gridtally/core/Row;"⟩ : MethodName)) (y := (⟨"com/example/gridtally/gridtally/core/RowSource", "lambda$of$0", "(Ljava/util/Iterator;)Lcom/example/gridtally/gridtally/core/Row;"⟩ : MethodName)) (a := fn23) (b := it23) (Ls := #[.val (.int p1), .val (.long q1), .second, .val (.long q2), .second, .val (.long q3), .second, .val (.int (1 : Int32)), .val (.ref b1), .val (.ref b5), .val (.ref b9), .val (.ref b13), .val (.ref fn23), .val (.ref b1), .val .null, .unset, .unset, .unset, .unset, .unset, .unset]) (rest := []) hown (own_w hw 75 rfl) (own_w hw 76 rfl) (mvT hZ (own_w hw 77 rfl)) (own_w hw 79 rfl) (own_w hw 78 rfl) (own_w hw 45 rfl) (own_w hw 74 rfl) own_xi own_yi made23 hfn_24 e25 (rmLN l Z a0 hw [] it23 b13 (1 : Int32) T24.heap n0 (own_oldge old24) E24 F24_th F24_cu kE24_b13 kF24_b13_size) (fun _ _ _ q => ⟨_, q.1, rfl⟩) 0 (by decide) (by decide) (by decide) (by decide) (by rw [hml]; rfl) (Nat.le_of_eq rfl) (hb hby at_134)
    have M26 := Fr.app M25 N26
    refine own_go st26 ?_
    show own_Go p e below _ T26 (mkF m 139 #[.val (.int p1), .val (.long q1), .second, .val (.long q2), .second, .val (.long q3), .second, .val (.int (1 : Int32)), .val (.ref b1), .val (.ref b5), .val (.ref b9), .val (.ref b13), .val (.ref fn23), .val (.ref b1), .val .null, .unset, .unset, .unset, .unset, .unset, .unset] [.null])
    refine own_go (fun t_ k_ => XS.astore X26.here hx rfl (hb hby at_139) rfl rfl (l' := #[.val (.int p1), .val (.long q1), .second, .val (.long q2), .second, .val (.long q3), .second, .val (.int (1 : Int32)), .val (.ref b1), .val (.ref b5), .val (.ref b9), .val (.ref b13), .val (.ref fn23), .val (.ref b1), .val .null, .val .null, .unset, .unset, .unset, .unset, .unset]) rfl k_) ?_
    show own_Go p e below _ T26 (mkF m 141 #[.val (.int p1), .val (.long q1), .second, .val (.long q2), .second, .val (.long q3), .second, .val (.int (1 : Int32)), .val (.ref b1), .val (.ref b5), .val (.ref b9), .val (.ref b13), .val (.ref fn23), .val (.ref b1), .val .null, .val .null, .unset, .unset, .unset, .unset, .unset] [])
    refine own_go (fun t_ k_ => XS.aload X26.here hx rfl (hb hby at_141) rfl rfl k_) ?_
    show own_Go p e below _ T26 (mkF m 143 #[.val (.int p1), .val (.long q1), .second, .val (.long q2), .second, .val (.long q3), .second, .val (.int (1 : Int32)), .val (.ref b1), .val (.ref b5), .val (.ref b9), .val (.ref b13), .val (.ref fn23), .val (.ref b1), .val .null, .val .null, .unset, .unset, .unset, .unset, .unset] [(.ref fn23)])
    obtain ⟨_, T27, L27, X27, ⟨rfl, N27, e27⟩, st27⟩ := own_lam X26 hx hZH (xi := (⟨"com/example/gridtally/gridtally/core/RowSource", "next", "()Lcom/example/gridtally/gridtally/core/Row;"⟩ : MethodName)) (y := (⟨"com/example/gridtally/gridtally/core/RowSource", "lambda$of$0", "(Ljava/util/Iterator;)Lcom/example/gridtally/gridtally/core/Row;"⟩ : MethodName)) (a := fn23) (b := it23) (Ls := #[.val (.int p1), .val (.long q1), .second, .val (.long q2), .second, .val (.long q3), .second, .val (.int (1 : Int32)), .val (.ref b1), .val (.ref b5), .val (.ref b9), .val (.ref b13), .val (.ref fn23), .val (.ref b1), .val .null, .val .null, .unset, .unset, .unset, .unset, .unset]) (rest := []) hown (own_w hw 75 rfl) (own_w hw 76 rfl) (mvT hZ (own_w hw 77 rfl)) (own_w hw 79 rfl) (own_w hw 78 rfl) (own_w hw 45 rfl) (own_w hw 74 rfl) own_xi own_yi made23 hfn_24 e26 (rmLN l Z a0 hw [] it23 b13 (1 : Int32) T24.heap n0 (own_oldge old24) E24 F24_th F24_cu kE24_b13 kF24_b13_size) (fun _ _ _ q => ⟨_, q.1, rfl⟩) 0 (by decide) (by decide) (by decide) (by decide) (by rw [hml]; rfl) (Nat.le_of_eq rfl) (hb hby at_143)
    have M27 := Fr.app M26 N27
    refine own_go st27 ?_
    show own_Go p e below _ T27 (mkF m 148 #[.val (.int p1), .val (.long q1), .second, .val (.long q2), .second, .val (.long q3), .second, .val (.int (1 : Int32)), .val (.ref b1), .val (.ref b5), .val (.ref b9), .val (.ref b13), .val (.ref fn23), .val (.ref b1), .val .null, .val .null, .unset, .unset, .unset, .unset, .unset] [.null])
    refine own_go (fun t_ k_ => XS.astore X27.here hx rfl (hb hby at_148) rfl rfl (l' := #[.val (.int p1), .val (.long q1), .second, .val (.long q2), .second, .val (.long q3), .second, .val (.int (1 : Int32)), .val (.ref b1), .val (.ref b5), .val (.ref b9), .val (.ref b13), .val (.ref fn23), .val (.ref b1), .val .null, .val .null, .val .null, .unset, .unset, .unset, .unset]) rfl k_) ?_
    show own_Go p e below _ T27 (mkF m 150 #[.val (.int p1), .val (.long q1), .second, .val (.long q2), .second, .val (.long q3), .second, .val (.int (1 : Int32)), .val (.ref b1), .val (.ref b5), .val (.ref b9), .val (.ref b13), .val (.ref fn23), .val (.ref b1), .val .null, .val .null, .val .null, .unset, .unset, .unset, .unset] [])
    refine own_go (fun t_ k_ => XS.aload X27.here hx rfl (hb hby at_150) rfl rfl k_) ?_
    show own_Go p e below _ T27 (mkF m 152 #[.val (.int p1), .val (.long q1), .second, .val (.long q2), .second, .val (.long q3), .second, .val (.int (1 : Int32)), .val (.ref b1), .val (.ref b5), .val (.ref b9), .val (.ref b13), .val (.ref fn23), .val (.ref b1), .val .null, .val .null, .val .null, .unset, .unset, .unset, .unset] [(.ref fn23)])
    obtain ⟨_, T28, L28, X28, ⟨rfl, N28, e28⟩, st28⟩ := own_lam X27 hx hZH (xi := (⟨"com/example/gridtally/gridtally/core/RowSource", "next", "()Lcom/example/gridtally/gridtally/core/Row;"⟩ : MethodName)) (y := (⟨"com/example/gridtally/gridtally/core/RowSource", "lambda$of$0", "(Ljava/util/Iterator;)Lcom/example/gridtally/gridtally/core/Row;"⟩ : MethodName)) (a := fn23) (b := it23) (Ls := #[.val (.int p1), .val (.long q1), .second, .val (.long q2), .second, .val (.long q3), .second, .val (.int (1 : Int32)), .val (.ref b1), .val (.ref b5), .val (.ref b9), .val (.ref b13), .val (.ref fn23), .val (.ref b1), .val .null, .val .null, .val .null, .unset, .unset, .unset, .unset]) (rest := []) hown (own_w hw 75 rfl) (own_w hw 76 rfl) (mvT hZ (own_w hw 77 rfl)) (own_w hw 79 rfl) (own_w hw 78 rfl) (own_w hw 45 rfl) (own_w hw 74 rfl) own_xi own_yi made23 hfn_24 e27 (rmLN l Z a0 hw [] it23 b13 (1 : Int32) T24.heap n0 (own_oldge old24) E24 F24_th F24_cu kE24_b13 kF24_b13_size) (fun _ _ _ q => ⟨_, q.1, rfl⟩) 0 (by decide) (by decide) (by decide) (by decide) (by rw [hml]; rfl) (Nat.le_of_eq rfl) (hb hby at_152)
    have M28 := Fr.app M27 N28
    refine own_go st28 ?_
    show own_Go p e below _ T28 (mkF m 157 #[.val (.int p1), .val (.long q1), .second, .val (.long q2), .second, .val (.long q3), .second, .val (.int (1 : Int32)), .val (.ref b1), .val (.ref b5), .val (.ref b9), .val (.ref b13), .val (.ref fn23), .val (.ref b1), .val .null, .val .null, .val .null, .unset, .unset, .unset, .unset] [.null])
    refine own_go (fun t_ k_ => XS.astore X28.here hx rfl (hb hby at_157) rfl rfl (l' := #[.val (.int p1), .val (.long q1), .second, .val (.long q2), .second, .val (.long q3), .second, .val (.int (1 : Int32)), .val (.ref b1), .val (.ref b5), .val (.ref b9), .val (.ref b13), .val (.ref fn23), .val (.ref b1), .val .null, .val .null, .val .null, .val .null, .unset, .unset, .unset]) rfl k_) ?_
    show own_Go p e below _ T28 (mkF m 159 #[.val (.int p1), .val (.long q1), .second, .val (.long q2), .second, .val (.long q3), .second, .val (.int (1 : Int32)), .val (.ref b1), .val (.ref b5), .val (.ref b9), .val (.ref b13), .val (.ref fn23), .val (.ref b1), .val .null, .val .null, .val .null, .val .null, .unset, .unset, .unset] [])
    refine own_go (fun t_ k_ => XS.iload X28.here hx rfl (hb hby at_159) rfl k_) ?_
    show own_Go p e below _ T28 (mkF m 161 #[.val (.int p1), .val (.long q1), .second, .val (.long q2), .second, .val (.long q3), .second, .val (.int (1 : Int32)), .val (.ref b1), .val (.ref b5), .val (.ref b9), .val (.ref b13), .val (.ref fn23), .val (.ref b1), .val .null, .val .null, .val .null, .val .null, .unset, .unset, .unset] [(.int (1 : Int32))])
    refine own_go (fun t_ k_ => XS.ifNo X28.here hx rfl (hb hby at_161) rfl (XT.i0_le_f (by decide)) k_) ?_
    show own_Go p e below _ T28 (mkF m 164 #[.val (.int p1), .val (.long q1), .second, .val (.long q2), .second, .val (.long q3), .second, .val (.int (1 : Int32)), .val (.ref b1), .val (.ref b5), .val (.ref b9), .val (.ref b13), .val (.ref fn23), .val (.ref b1), .val .null, .val .null, .val .null, .val .null, .unset, .unset, .unset] [])
    refine own_go (fun t_ k_ => XS.aload X28.here hx rfl (hb hby at_164) rfl rfl k_) ?_
    show own_Go p e below _ T28 (mkF m 166 #[.val (.int p1), .val (.long q1), .second, .val (.long q2), .second, .val (.long q3), .second, .val (.int (1 : Int32)), .val (.ref b1), .val (.ref b5), .val (.ref b9), .val (.ref b13), .val (.ref fn23), .val (.ref b1), .val .null, .val .null, .val .null, .val .null, .unset, .unset, .unset] [(.ref b1)])
    refine own_go (fun t_ k_ => XS.aload X28.here hx rfl (hb hby at_166) rfl rfl k_) ?_
    show own_Go p e below _ T28 (mkF m 168 #[.val (.int p1), .val (.long q1), .second, .val (.long q2), .second, .val (.long q3), .second, .val (.int (1 : Int32)), .val (.ref b1), .val (.ref b5), .val (.ref b9), .val (.ref b13), .val (.ref fn23), .val (.ref b1), .val .null, .val .null, .val .null, .val .null, .unset, .unset, .unset] [(.ref b1), (.ref b1)])
    refine own_go (fun t_ k_ => XT.acmpNo X28.here hx rfl (hb hby at_168) rfl rfl rfl (XT.aa_ne_f rfl) k_) ?_
    show own_Go p e below _ T28 (mkF m 171 #[.val (.int p1), .val (.long q1), .second, .val (.long q2), .second, .val (.long q3), .second, .val (.int (1 : Int32)), .val (.ref b1), .val (.ref b5), .val (.ref b9), .val (.ref b13), .val (.ref fn23), .val (.ref b1), .val .null, .val .null, .val .null, .val .null, .unset, .unset, .unset] [])
    refine own_go (fun t_ k_ => XS.iconst X28.here hx rfl (hb hby at_171) k_) ?_
    show own_Go p e below _ T28 (mkF m 172 #[.val (.int p1), .val (.long q1), .second, .val (.long q2), .second, .val (.long q3), .second, .val (.int (1 : Int32)), .val (.ref b1), .val (.ref b5), .val (.ref b9), .val (.ref b13), .val (.ref fn23), .val (.ref b1), .val .null, .val .null, .val .null, .val .null, .unset, .unset, .unset] [(.int (1 : Int32))])
    refine own_go (fun t_ k_ => XS.goto X28.here hx rfl (pc0 := 172) (pc' := 189) rfl (hb hby at_172) (by decide) (by decide) k_) ?_
    show own_Go p e below _ T28 (mkF m 189 #[.val (.int p1), .val (.long q1), .second, .val (.long q2), .second, .val (.long q3), .second, .val (.int (1 : Int32)), .val (.ref b1), .val (.ref b5), .val (.ref b9), .val (.ref b13), .val (.ref fn23), .val (.ref b1), .val .null, .val .null, .val .null, .val .null, .unset, .unset, .unset] [(.int (1 : Int32))])
    refine own_go (fun t_ k_ => XS.istore X28.here hx rfl (hb hby at_189) rfl (l' := #[.val (.int p1), .val (.long q1), .second, .val (.long q2), .second, .val (.long q3), .second, .val (.int (1 : Int32)), .val (.ref b1), .val (.ref b5), .val (.ref b9), .val (.ref b13), .val (.ref fn23), .val (.ref b1), .val .null, .val .null, .val .null, .val .null, .val (.int (1 : Int32)), .unset, .unset]) rfl k_) ?_
    show own_Go p e below _ T28 (mkF m 191 #[.val (.int p1), .val (.long q1), .second, .val (.long q2), .second, .val (.long q3), .second, .val (.int (1 : Int32)), .val (.ref b1), .val (.ref b5), .val (.ref b9), .val (.ref b13), .val (.ref fn23), .val (.ref b1), .val .null, .val .null, .val .null, .val .null, .val (.int (1 : Int32)), .unset, .unset] [])
    refine own_go (fun t_ k_ => XS.iload X28.here hx rfl (hb hby at_191) rfl k_) ?_
    show own_Go p e below _ T28 (mkF m 193 #[.val (.int p1), .val (.long q1), .second, .val (.long q2), .second, .val (.long q3), .second, .val (.int (1 : Int32)), .val (.ref b1), .val (.ref b5), .val (.ref b9), .val (.ref b13), .val (.ref fn23), .val (.ref b1), .val .null, .val .null, .val .null, .val .null, .val (.int (1 : Int32)), .unset, .unset] [(.int (1 : Int32))])
    refine own_go (fun t_ k_ => XS.iconst X28.here hx rfl (hb hby at_193) k_) ?_
    show own_Go p e below _ T28 (mkF m 194 #[.val (.int p1), .val (.long q1), .second, .val (.long q2), .second, .val (.long q3), .second, .val (.int (1 : Int32)), .val (.ref b1), .val (.ref b5), .val (.ref b9), .val (.ref b13), .val (.ref fn23), .val (.ref b1), .val .null, .val .null, .val .null, .val .null, .val (.int (1 : Int32)), .unset, .unset] [(.int (1 : Int32)), (.int (1 : Int32))])
    refine own_go (fun t_ k_ => XS.icmpYes X28.here hx rfl (pc0 := 194) (pc' := 212) rfl (hb hby at_194) rfl (XT.ii_le_t (by decide)) (by decide) (by decide) k_) ?_
    show own_Go p e below _ T28 (mkF m 212 #[.val (.int p1), .val (.long q1), .second, .val (.long q2), .second, .val (.long q3), .second, .val (.int (1 : Int32)), .val (.ref b1), .val (.ref b5), .val (.ref b9), .val (.ref b13), .val (.ref fn23), .val (.ref b1), .val .null, .val .null, .val .null, .val .null, .val (.int (1 : Int32)), .unset, .unset] [])
    refine own_go (fun t_ k_ => XS.aload X28.here hx rfl (hb hby at_212) rfl rfl k_) ?_
    show own_Go p e below _ T28 (mkF m 214 #[.val (.int p1), .val (.long q1), .second, .val (.long q2), .second, .val (.long q3), .second, .val (.int (1 : Int32)), .val (.ref b1), .val (.ref b5), .val (.ref b9), .val (.ref b13), .val (.ref fn23), .val (.ref b1), .val .null, .val .null, .val .null, .val .null, .val (.int (1 : Int32)), .unset, .unset] [.null])
    refine own_go (fun t_ k_ => XS.ifnonnullNo X28.here hx rfl (hb hby at_214) rfl k_) ?_
    show own_Go p e below _ T28 (mkF m 217 #[.val (.int p1), .val (.long q1), .second, .val (.long q2), .second, .val (.long q3), .second, .val (.int (1 : Int32)), .val (.ref b1), .val (.ref b5), .val (.ref b9), .val (.ref b13), .val (.ref fn23), .val (.ref b1), .val .null, .val .null, .val .null, .val .null, .val (.int (1 : Int32)), .unset, .unset] [])
    refine own_go (fun t_ k_ => XS.iconst X28.here hx rfl (hb hby at_217) k_) ?_
    show own_Go p e below _ T28 (mkF m 218 #[.val (.int p1), .val (.long q1), .second, .val (.long q2), .second, .val (.long q3), .second, .val (.int (1 : Int32)), .val (.ref b1), .val (.ref b5), .val (.ref b9), .val (.ref b13), .val (.ref fn23), .val (.ref b1), .val .null, .val .null, .val .null, .val .null, .val (.int (1 : Int32)), .unset, .unset] [(.int (1 : Int32))])
    refine own_go (fun t_ k_ => XS.goto X28.here hx rfl (pc0 := 218) (pc' := 222) rfl (hb hby at_218) (by decide) (by decide) k_) ?_
    show own_Go p e below _ T28 (mkF m 222 #[.val (.int p1), .val (.long q1), .second, .val (.long q2), .second, .val (.long q3), .second, .val (.int (1 : Int32)), .val (.ref b1), .val (.ref b5), .val (.ref b9), .val (.ref b13), .val (.ref fn23), .val (.ref b1), .val .null, .val .null, .val .null, .val .null, .val (.int (1 : Int32)), .unset, .unset] [(.int (1 : Int32))])
    refine own_go (fun t_ k_ => XS.istore X28.here hx rfl (hb hby at_222) rfl (l' := #[.val (.int p1), .val (.long q1), .second, .val (.long q2), .second, .val (.long q3), .second, .val (.int (1 : Int32)), .val (.ref b1), .val (.ref b5), .val (.ref b9), .val (.ref b13), .val (.ref fn23), .val (.ref b1), .val .null, .val .null, .val .null, .val .null, .val (.int (1 : Int32)), .val (.int (1 : Int32)), .unset]) rfl k_) ?_
    show own_Go p e below _ T28 (mkF m 224 #[.val (.int p1), .val (.long q1), .second, .val (.long q2), .second, .val (.long q3), .second, .val (.int (1 : Int32)), .val (.ref b1), .val (.ref b5), .val (.ref b9), .val (.ref b13), .val (.ref fn23), .val (.ref b1), .val .null, .val .null, .val .null, .val .null, .val (.int (1 : Int32)), .val (.int (1 : Int32)), .unset] [])
    refine own_go (fun t_ k_ => XS.iload X28.here hx rfl (hb hby at_224) rfl k_) ?_
    show own_Go p e below _ T28 (mkF m 226 #[.val (.int p1), .val (.long q1), .second, .val (.long q2), .second, .val (.long q3), .second, .val (.int (1 : Int32)), .val (.ref b1), .val (.ref b5), .val (.ref b9), .val (.ref b13), .val (.ref fn23), .val (.ref b1), .val .null, .val .null, .val .null, .val .null, .val (.int (1 : Int32)), .val (.int (1 : Int32)), .unset] [(.int (1 : Int32))])
    refine own_go (fun t_ k_ => XS.iconst X28.here hx rfl (hb hby at_226) k_) ?_
    show own_Go p e below _ T28 (mkF m 227 #[.val (.int p1), .val (.long q1), .second, .val (.long q2), .second, .val (.long q3), .second, .val (.int (1 : Int32)), .val (.ref b1), .val (.ref b5), .val (.ref b9), .val (.ref b13), .val (.ref fn23), .val (.ref b1), .val .null, .val .null, .val .null, .val .null, .val (.int (1 : Int32)), .val (.int (1 : Int32)), .unset] [(.int (2 : Int32)), (.int (1 : Int32))])
    refine own_go (fun t_ k_ => XS.icmpYes X28.here hx rfl (pc0 := 227) (pc' := 245) rfl (hb hby at_227) rfl (XT.ii_le_t (by decide)) (by decide) (by decide) k_) ?_
    show own_Go p e below _ T28 (mkF m 245 #[.val (.int p1), .val (.long q1), .second, .val (.long q2), .second, .val (.long q3), .second, .val (.int (1 : Int32)), .val (.ref b1), .val (.ref b5), .val (.ref b9), .val (.ref b13), .val (.ref fn23), .val (.ref b1), .val .null, .val .null, .val .null, .val .null, .val (.int (1 : Int32)), .val (.int (1 : Int32)), .unset] [])
    refine own_go (fun t_ k_ => XS.aload X28.here hx rfl (hb hby at_245) rfl rfl k_) ?_
    show own_Go p e below _ T28 (mkF m 247 #[.val (.int p1), .val (.long q1), .second, .val (.long q2), .second, .val (.long q3), .second, .val (.int (1 : Int32)), .val (.ref b1), .val (.ref b5), .val (.ref b9), .val (.ref b13), .val (.ref fn23), .val (.ref b1), .val .null, .val .null, .val .null, .val .null, .val (.int (1 : Int32)), .val (.int (1 : Int32)), .unset] [.null])
    refine own_go (fun t_ k_ => XS.ifnonnullNo X28.here hx rfl (hb hby at_247) rfl k_) ?_
    show own_Go p e below _ T28 (mkF m 250 #[.val (.int p1), .val (.long q1), .second, .val (.long q2), .second, .val (.long q3), .second, .val (.int (1 : Int32)), .val (.ref b1), .val (.ref b5), .val (.ref b9), .val (.ref b13), .val (.ref fn23), .val (.ref b1), .val .null, .val .null, .val .null, .val .null, .val (.int (1 : Int32)), .val (.int (1 : Int32)), .unset] [])
    refine own_go (fun t_ k_ => XS.iconst X28.here hx rfl (hb hby at_250) k_) ?_
    show own_Go p e below _ T28 (mkF m 251 #[.val (.int p1), .val (.long q1), .second, .val (.long q2), .second, .val (.long q3), .second, .val (.int (1 : Int32)), .val (.ref b1), .val (.ref b5), .val (.ref b9), .val (.ref b13), .val (.ref fn23), .val (.ref b1), .val .null, .val .null, .val .null, .val .null, .val (.int (1 : Int32)), .val (.int (1 : Int32)), .unset] [(.int (1 : Int32))])
    refine own_go (fun t_ k_ => XS.goto X28.here hx rfl (pc0 := 251) (pc' := 255) rfl (hb hby at_251) (by decide) (by decide) k_) ?_
    show own_Go p e below _ T28 (mkF m 255 #[.val (.int p1), .val (.long q1), .second, .val (.long q2), .second, .val (.long q3), .second, .val (.int (1 : Int32)), .val (.ref b1), .val (.ref b5), .val (.ref b9), .val (.ref b13), .val (.ref fn23), .val (.ref b1), .val .null, .val .null, .val .null, .val .null, .val (.int (1 : Int32)), .val (.int (1 : Int32)), .unset] [(.int (1 : Int32))])
    refine own_go (fun t_ k_ => XS.istore X28.here hx rfl (hb hby at_255) rfl (l' := #[.val (.int p1), .val (.long q1), .second, .val (.long q2), .second, .val (.long q3), .second, .val (.int (1 : Int32)), .val (.ref b1), .val (.ref b5), .val (.ref b9), .val (.ref b13), .val (.ref fn23), .val (.ref b1), .val .null, .val .null, .val .null, .val .null, .val (.int (1 : Int32)), .val (.int (1 : Int32)), .val (.int (1 : Int32))]) rfl k_) ?_
    show own_Go p e below _ T28 (mkF m 257 #[.val (.int p1), .val (.long q1), .second, .val (.long q2), .second, .val (.long q3), .second, .val (.int (1 : Int32)), .val (.ref b1), .val (.ref b5), .val (.ref b9), .val (.ref b13), .val (.ref fn23), .val (.ref b1), .val .null, .val .null, .val .null, .val .null, .val (.int (1 : Int32)), .val (.int (1 : Int32)), .val (.int (1 : Int32))] [])
    refine own_go (fun t_ k_ => XS.iload X28.here hx rfl (hb hby at_257) rfl k_) ?_
    show own_Go p e below _ T28 (mkF m 259 #[.val (.int p1), .val (.long q1), .second, .val (.long q2), .second, .val (.long q3), .second, .val (.int (1 : Int32)), .val (.ref b1), .val (.ref b5), .val (.ref b9), .val (.ref b13), .val (.ref fn23), .val (.ref b1), .val .null, .val .null, .val .null, .val .null, .val (.int (1 : Int32)), .val (.int (1 : Int32)), .val (.int (1 : Int32))] [(.int (1 : Int32))])
    refine own_go (fun t_ k_ => XS.ifNo X28.here hx rfl (hb hby at_259) rfl (XT.i0_eq_f (by decide)) k_) ?_
    show own_Go p e below _ T28 (mkF m 262 #[.val (.int p1), .val (.long q1), .second, .val (.long q2), .second, .val (.long q3), .second, .val (.int (1 : Int32)), .val (.ref b1), .val (.ref b5), .val (.ref b9), .val (.ref b13), .val (.ref fn23), .val (.ref b1), .val .null, .val .null, .val .null, .val .null, .val (.int (1 : Int32)), .val (.int (1 : Int32)), .val (.int (1 : Int32))] [])
    refine own_go (fun t_ k_ => XS.iload X28.here hx rfl (hb hby at_262) rfl k_) ?_
    show own_Go p e below _ T28 (mkF m 264 #[.val (.int p1), .val (.long q1), .second, .val (.long q2), .second, .val (.long q3), .second, .val (.int (1 : Int32)), .val (.ref b1), .val (.ref b5), .val (.ref b9), .val (.ref b13), .val (.ref fn23), .val (.ref b1), .val .null, .val .null, .val .null, .val .null, .val (.int (1 : Int32)), .val (.int (1 : Int32)), .val (.int (1 : Int32))] [(.int (1 : Int32))])
    refine own_go (fun t_ k_ => XS.ifNo X28.here hx rfl (hb hby at_264) rfl (XT.i0_eq_f (by decide)) k_) ?_
    show own_Go p e below _ T28 (mkF m 267 #[.val (.int p1), .val (.long q1), .second, .val (.long q2), .second, .val (.long q3), .second, .val (.int (1 : Int32)), .val (.ref b1), .val (.ref b5), .val (.ref b9), .val (.ref b13), .val (.ref fn23), .val (.ref b1), .val .null, .val .null, .val .null, .val .null, .val (.int (1 : Int32)), .val (.int (1 : Int32)), .val (.int (1 : Int32))] [])
    refine own_go (fun t_ k_ => XS.iload X28.here hx rfl (hb hby at_267) rfl k_) ?_
    show own_Go p e below _ T28 (mkF m 269 #[.val (.int p1), .val (.long q1), .second, .val (.long q2), .second, .val (.long q3), .second, .val (.int (1 : Int32)), .val (.ref b1), .val (.ref b5), .val (.ref b9), .val (.ref b13), .val (.ref fn23), .val (.ref b1), .val .null, .val .null, .val .null, .val .null, .val (.int (1 : Int32)), .val (.int (1 : Int32)), .val (.int (1 : Int32))] [(.int (1 : Int32))])
    refine own_go (fun t_ k_ => XS.ifNo X28.here hx rfl (hb hby at_269) rfl (XT.i0_eq_f (by decide)) k_) ?_
    show own_Go p e below _ T28 (mkF m 272 #[.val (.int p1), .val (.long q1), .second, .val (.long q2), .second, .val (.long q3), .second, .val (.int (1 : Int32)), .val (.ref b1), .val (.ref b5), .val (.ref b9), .val (.ref b13), .val (.ref fn23), .val (.ref b1), .val .null, .val .null, .val .null, .val .null, .val (.int (1 : Int32)), .val (.int (1 : Int32)), .val (.int (1 : Int32))] [])
    refine own_go (fun t_ k_ => XS.aload X28.here hx rfl (hb hby at_272) rfl rfl k_) ?_
    show own_Go p e below _ T28 (mkF m 274 #[.val (.int p1), .val (.long q1), .second, .val (.long q2), .second, .val (.long q3), .second, .val (.int (1 : Int32)), .val (.ref b1), .val (.ref b5), .val (.ref b9), .val (.ref b13), .val (.ref fn23), .val (.ref b1), .val .null, .val .null, .val .null, .val .null, .val (.int (1 : Int32)), .val (.int (1 : Int32)), .val (.int (1 : Int32))] [.null])
    refine own_go (fun t_ k_ => XS.ifnonnullNo X28.here hx rfl (hb hby at_274) rfl k_) ?_
    show own_Go p e below _ T28 (mkF m 277 #[.val (.int p1), .val (.long q1), .second, .val (.long q2), .second, .val (.long q3), .second, .val (.int (1 : Int32)), .val (.ref b1), .val (.ref b5), .val (.ref b9), .val (.ref b13), .val (.ref fn23), .val (.ref b1), .val .null, .val .null, .val .null, .val .null, .val (.int (1 : Int32)), .val (.int (1 : Int32)), .val (.int (1 : Int32))] [])
    refine own_go (fun t_ k_ => XS.aload X28.here hx rfl (hb hby at_277) rfl rfl k_) ?_
    show own_Go p e below _ T28 (mkF m 279 #[.val (.int p1), .val (.long q1), .second, .val (.long q2), .second, .val (.long q3), .second, .val (.int (1 : Int32)), .val (.ref b1), .val (.ref b5), .val (.ref b9), .val (.ref b13), .val (.ref fn23), .val (.ref b1), .val .null, .val .null, .val .null, .val .null, .val (.int (1 : Int32)), .val (.int (1 : Int32)), .val (.int (1 : Int32))] [.null])
    refine own_go (fun t_ k_ => XS.ifnonnullNo X28.here hx rfl (hb hby at_279) rfl k_) ?_
    show own_Go p e below _ T28 (mkF m 282 #[.val (.int p1), .val (.long q1), .second, .val (.long q2), .second, .val (.long q3), .second, .val (.int (1 : Int32)), .val (.ref b1), .val (.ref b5), .val (.ref b9), .val (.ref b13), .val (.ref fn23), .val (.ref b1), .val .null, .val .null, .val .null, .val .null, .val (.int (1 : Int32)), .val (.int (1 : Int32)), .val (.int (1 : Int32))] [])
    refine own_go (fun t_ k_ => XS.aload X28.here hx rfl (hb hby at_282) rfl rfl k_) ?_
    show own_Go p e below _ T28 (mkF m 284 #[.val (.int p1), .val (.long q1), .second, .val (.long q2), .second, .val (.long q3), .second, .val (.int (1 : Int32)), .val (.ref b1), .val (.ref b5), .val (.ref b9), .val (.ref b13), .val (.ref fn23), .val (.ref b1), .val .null, .val .null, .val .null, .val .null, .val (.int (1 : Int32)), .val (.int (1 : Int32)), .val (.int (1 : Int32))] [(.ref b13)])
    obtain ⟨_, T29, L29, X29, ⟨rfl, N29, e29⟩, st29⟩ := own_callV X28 hx hZ (y := (⟨"java/util/ArrayList", "size", "()I"⟩ : MethodName)) (z := (⟨"java/util/ArrayList", "size", "()I"⟩ : MethodName)) (b := b13) (argsL := []) (rest := []) (Ls := #[.val (.int p1), .val (.long q1), .second, .val (.long q2), .second, .val (.long q3), .second, .val (.int (1 : Int32)), .val (.ref b1), .val (.ref b5), .val (.ref b9), .val (.ref b13), .val (.ref fn23), .val (.ref b1), .val .null, .val .null, .val .null, .val .null, .val (.int (1 : Int32)), .val (.int (1 : Int32)), .val (.int (1 : Int32))]) hown (own_w hw 93 rfl) (own_w hw 94 rfl) (own_w hw 96 rfl) (notFace_of_selects (args := #[]) (mvT hZ (own_w hw 96 rfl))) (own_w hw 95 rfl) (own_w hw 97 rfl) (own_w hw 21 rfl) (by decide) e28 kE24_b13 (rmSz l Z a0 hw [] b13 (1 : Int32) T24.heap n0 (own_oldge old24) kE24_b13 kF24_b13_size) 0 (by decide) (by decide) (by decide) (by decide) (by rw [hml]; rfl) (lenOf pd_0 rfl) rfl (Nat.le_of_eq rfl) (hb hby at_284)
    have M29 := Fr.app M28 N29
    refine own_go st29 ?_
    show own_Go p e below _ T29 (mkF m 287 #[.val (.int p1), .val (.long q1), .second, .val (.long q2), .second, .val (.long q3), .second, .val (.int (1 : Int32)), .val (.ref b1), .val (.ref b5), .val (.ref b9), .val (.ref b13), .val (.ref fn23), .val (.ref b1), .val .null, .val .null, .val .null, .val .null, .val (.int (1 : Int32)), .val (.int (1 : Int32)), .val (.int (1 : Int32))] [(.int (1 : Int32))])
    refine own_go (fun t_ k_ => XS.iload X29.here hx rfl (hb hby at_287) rfl k_) ?_
    show own_Go p e below _ T29 (mkF m 289 #[.val (.int p1), .val (.long q1), .second, .val (.long q2), .second, .val (.long q3), .second, .val (.int (1 : Int32)), .val (.ref b1), .val (.ref b5), .val (.ref b9), .val (.ref b13), .val (.ref fn23), .val (.ref b1), .val .null, .val .null, .val .null, .val .null, .val (.int (1 : Int32)), .val (.int (1 : Int32)), .val (.int (1 : Int32))] [(.int (1 : Int32)), (.int (1 : Int32))])
    refine own_go (fun t_ k_ => XS.icmpNo X29.here hx rfl (hb hby at_289) rfl (XT.ii_ne_f (by decide)) k_) ?_
    show own_Go p e below _ T29 (mkF m 292 #[.val (.int p1), .val (.long q1), .second, .val (.long q2), .second, .val (.long q3), .second, .val (.int (1 : Int32)), .val (.ref b1), .val (.ref b5), .val (.ref b9), .val (.ref b13), .val (.ref fn23), .val (.ref b1), .val .null, .val .null, .val .null, .val .null, .val (.int (1 : Int32)), .val (.int (1 : Int32)), .val (.int (1 : Int32))] [])
    refine own_go (fun t_ k_ => XS.iconst X29.here hx rfl (hb hby at_292) k_) ?_
    show own_Go p e below _ T29 (mkF m 293 #[.val (.int p1), .val (.long q1), .second, .val (.long q2), .second, .val (.long q3), .second, .val (.int (1 : Int32)), .val (.ref b1), .val (.ref b5), .val (.ref b9), .val (.ref b13), .val (.ref fn23), .val (.ref b1), .val .null, .val .null, .val .null, .val .null, .val (.int (1 : Int32)), .val (.int (1 : Int32)), .val (.int (1 : Int32))] [(.int (1 : Int32))])
    refine own_go (fun t_ k_ => XS.goto X29.here hx rfl (pc0 := 293) (pc' := 297) rfl (hb hby at_293) (by decide) (by decide) k_) ?_
    show own_Go p e below _ T29 (mkF m 297 #[.val (.int p1), .val (.long q1), .second, .val (.long q2), .second, .val (.long q3), .second, .val (.int (1 : Int32)), .val (.ref b1), .val (.ref b5), .val (.ref b9), .val (.ref b13), .val (.ref fn23), .val (.ref b1), .val .null, .val .null, .val .null, .val .null, .val (.int (1 : Int32)), .val (.int (1 : Int32)), .val (.int (1 : Int32))] [(.int (1 : Int32))])
    refine own_retZ X29 hx hlk hret (hb hby at_297) (Or.inr rfl) (by decide) (by decide) ?_
    exact ⟨rfl, M29⟩
  · rw [q9]
    show own_Go p e below _ T14 (mkF m 66 #[.val (.int p1), .val (.long q1), .second, .val (.long q2), .second, .val (.long q3), .second, .val (.int (2 : Int32)), .val (.ref b1), .val (.ref b5), .val (.ref b9), .val (.ref b13), .unset, .unset, .unset, .unset, .unset, .unset, .unset, .unset, .unset] [])
    refine own_go (fun t_ k_ => XS.iload X14.here hx rfl (hb hby at_66) rfl k_) ?_
    show own_Go p e below _ T14 (mkF m 68 #[.val (.int p1), .val (.long q1), .second, .val (.long q2), .second, .val (.long q3), .second, .val (.int (2 : Int32)), .val (.ref b1), .val (.ref b5), .val (.ref b9), .val (.ref b13), .unset, .unset, .unset, .unset, .unset, .unset, .unset, .unset, .unset] [(.int (2 : Int32))])
    refine own_go (fun t_ k_ => XS.ifNo X14.here hx rfl (hb hby at_68) rfl (XT.i0_le_f (by decide)) k_) ?_
    show own_Go p e below _ T14 (mkF m 71 #[.val (.int p1), .val (.long q1), .second, .val (.long q2), .second, .val (.long q3), .second, .val (.int (2 : Int32)), .val (.ref b1), .val (.ref b5), .val (.ref b9), .val (.ref b13), .unset, .unset, .unset, .unset, .unset, .unset, .unset, .unset, .unset] [])
    refine own_go (fun t_ k_ => XS.aload X14.here hx rfl (hb hby at_71) rfl rfl k_) ?_
    show own_Go p e below _ T14 (mkF m 73 #[.val (.int p1), .val (.long q1), .second, .val (.long q2), .second, .val (.long q3), .second, .val (.int (2 : Int32)), .val (.ref b1), .val (.ref b5), .val (.ref b9), .val (.ref b13), .unset, .unset, .unset, .unset, .unset, .unset, .unset, .unset, .unset] [(.ref b13)])
    refine own_go (fun t_ k_ => XS.aload X14.here hx rfl (hb hby at_73) rfl rfl k_) ?_
    show own_Go p e below _ T14 (mkF m 75 #[.val (.int p1), .val (.long q1), .second, .val (.long q2), .second, .val (.long q3), .second, .val (.int (2 : Int32)), .val (.ref b1), .val (.ref b5), .val (.ref b9), .val (.ref b13), .unset, .unset, .unset, .unset, .unset, .unset, .unset, .unset, .unset] [(.ref b1), (.ref b13)])
    obtain ⟨_, T30, L30, X30, ⟨rfl, ⟨ea30, kA30, E30, F30_ed, F30_sz, F30_mc, V30, O30, ge30, K30⟩, N30⟩, st30⟩ := own_callV X14 hx hZ (y := (⟨"java/util/ArrayList", "add", "(Ljava/lang/Object;)Z"⟩ : MethodName)) (z := (⟨"java/util/ArrayList", "add", "(Ljava/lang/Object;)Z"⟩ : MethodName)) (b := b13) (argsL := [(.ref b1)]) (rest := []) (Ls := #[.val (.int p1), .val (.long q1), .second, .val (.long q2), .second, .val (.long q3), .second, .val (.int (2 : Int32)), .val (.ref b1), .val (.ref b5), .val (.ref b9), .val (.ref b13), .unset, .unset, .unset, .unset, .unset, .unset, .unset, .unset, .unset]) hown (own_w hw 99 rfl) (own_w hw 100 rfl) (own_w hw 102 rfl) (notFace_of_selects (args := #[]) (mvT hZ (own_w hw 102 rfl))) (own_w hw 101 rfl) (own_w hw 103 rfl) (own_w hw 21 rfl) (by decide) rfl E14 (rmAd_0 l Z a0 hw [] b13 b1 da kd T14.heap n0 (own_oldge old14) old14 S_D V_d kE14_b1 ge_b13 E14 F14_ed F14_sz F14_mc) 0 (by decide) (by decide) (by decide) (by decide) (by rw [hml]; rfl) (lenOf pd_11 rfl) rfl (Nat.le_of_eq rfl) (hb hby at_75)
    have M30 := Fr.app M14 N30
    have kE30_b1 := kE14_b1.keep K30
    have kE30_b5 := kE14_b5.keep K30
    have kE30_b9 := kE14_b9.keep K30
    have kE30_b13 := E14.keep K30
    have old30 := old14.keep K30 (allS ge_b13 all0)
    have ge_ea30 : n0 ≤ ea30 := Nat.le_trans (own_oldge old14) ge30
    refine own_go st30 ?_
    show own_Go p e below _ T30 (mkF m 78 #[.val (.int p1), .val (.long q1), .second, .val (.long q2), .second, .val (.long q3), .second, .val (.int (2 : Int32)), .val (.ref b1), .val (.ref b5), .val (.ref b9), .val (.ref b13), .unset, .unset, .unset, .unset, .unset, .unset, .unset, .unset, .unset] [(.int (1 : Int32))])
    refine own_go (fun t_ k_ => XS.pop X30.here hx rfl (hb hby at_78) rfl rfl k_) ?_
    show own_Go p e below _ T30 (mkF m 79 #[.val (.int p1), .val (.long q1), .second, .val (.long q2), .second, .val (.long q3), .second, .val (.int (2 : Int32)), .val (.ref b1), .val (.ref b5), .val (.ref b9), .val (.ref b13), .unset, .unset, .unset, .unset, .unset, .unset, .unset, .unset, .unset] [])
    refine own_go (fun t_ k_ => XS.iload X30.here hx rfl (hb hby at_79) rfl k_) ?_
    show own_Go p e below _ T30 (mkF m 81 #[.val (.int p1), .val (.long q1), .second, .val (.long q2), .second, .val (.long q3), .second, .val (.int (2 : Int32)), .val (.ref b1), .val (.ref b5), .val (.ref b9), .val (.ref b13), .unset, .unset, .unset, .unset, .unset, .unset, .unset, .unset, .unset] [(.int (2 : Int32))])
    refine own_go (fun t_ k_ => XS.iconst X30.here hx rfl (hb hby at_81) k_) ?_
    show own_Go p e below _ T30 (mkF m 82 #[.val (.int p1), .val (.long q1), .second, .val (.long q2), .second, .val (.long q3), .second, .val (.int (2 : Int32)), .val (.ref b1), .val (.ref b5), .val (.ref b9), .val (.ref b13), .unset, .unset, .unset, .unset, .unset, .unset, .unset, .unset, .unset] [(.int (1 : Int32)), (.int (2 : Int32))])
    refine own_go (fun t_ k_ => XS.icmpNo X30.here hx rfl (hb hby at_82) rfl (XT.ii_le_f (by decide)) k_) ?_
    show own_Go p e below _ T30 (mkF m 85 #[.val (.int p1), .val (.long q1), .second, .val (.long q2), .second, .val (.long q3), .second, .val (.int (2 : Int32)), .val (.ref b1), .val (.ref b5), .val (.ref b9), .val (.ref b13), .unset, .unset, .unset, .unset, .unset, .unset, .unset, .unset, .unset] [])
    refine own_go (fun t_ k_ => XS.aload X30.here hx rfl (hb hby at_85) rfl rfl k_) ?_
    show own_Go p e below _ T30 (mkF m 87 #[.val (.int p1), .val (.long q1), .second, .val (.long q2), .second, .val (.long q3), .second, .val (.int (2 : Int32)), .val (.ref b1), .val (.ref b5), .val (.ref b9), .val (.ref b13), .unset, .unset, .unset, .unset, .unset, .unset, .unset, .unset, .unset] [(.ref b13)])
    refine own_go (fun t_ k_ => XS.aload X30.here hx rfl (hb hby at_87) rfl rfl k_) ?_
    show own_Go p e below _ T30 (mkF m 89 #[.val (.int p1), .val (.long q1), .second, .val (.long q2), .second, .val (.long q3), .second, .val (.int (2 : Int32)), .val (.ref b1), .val (.ref b5), .val (.ref b9), .val (.ref b13), .unset, .unset, .unset, .unset, .unset, .unset, .unset, .unset, .unset] [(.ref b5), (.ref b13)])
    obtain ⟨_, T31, L31, X31, ⟨rfl, ⟨E31, F31_ed, F31_sz, F31_mc, V31, K31⟩, N31⟩, st31⟩ := own_callV X30 hx hZ (y := (⟨"java/util/ArrayList", "add", "(Ljava/lang/Object;)Z"⟩ : MethodName)) (z := (⟨"java/util/ArrayList", "add", "(Ljava/lang/Object;)Z"⟩ : MethodName)) (b := b13) (argsL := [(.ref b5)]) (rest := []) (Ls := #[.val (.int p1), .val (.long q1), .second, .val (.long q2), .second, .val (.long q3), .second, .val (.int (2 : Int32)), .val (.ref b1), .val (.ref b5), .val (.ref b9), .val (.ref b13), .unset, .unset, .unset, .unset, .unset, .unset, .unset, .unset, .unset]) hown (own_w hw 99 rfl) (own_w hw 100 rfl) (own_w hw 102 rfl) (notFace_of_selects (args := #[]) (mvT hZ (own_w hw 102 rfl))) (own_w hw 101 rfl) (own_w hw 103 rfl) (own_w hw 21 rfl) (by decide) rfl E30 (rmAd_1 l Z a0 hw [] b13 b5 ea30 kA30 (.ref b1) T30.heap n0 (own_oldge old30) old30 V30 O30 ge_ea30 kE30_b5 ge_b13 E30 F30_ed F30_sz F30_mc) 0 (by decide) (by decide) (by decide) (by decide) (by rw [hml]; rfl) (lenOf pd_11 rfl) rfl (Nat.le_of_eq rfl) (hb hby at_89)
    have M31 := Fr.app M30 N31
    have kE31_b1 := kE30_b1.keep K31
    have kE31_b5 := kE30_b5.keep K31
    have kE31_b9 := kE30_b9.keep K31
    have kE31_b13 := E30.keep K31
    have old31 := old30.keep K31 (allS ge_b13 (allS ge_ea30 all0))
    refine own_go st31 ?_
    show own_Go p e below _ T31 (mkF m 92 #[.val (.int p1), .val (.long q1), .second, .val (.long q2), .second, .val (.long q3), .second, .val (.int (2 : Int32)), .val (.ref b1), .val (.ref b5), .val (.ref b9), .val (.ref b13), .unset, .unset, .unset, .unset, .unset, .unset, .unset, .unset, .unset] [(.int (1 : Int32))])
    refine own_go (fun t_ k_ => XS.pop X31.here hx rfl (hb hby at_92) rfl rfl k_) ?_
    show own_Go p e below _ T31 (mkF m 93 #[.val (.int p1), .val (.long q1), .second, .val (.long q2), .second, .val (.long q3), .second, .val (.int (2 : Int32)), .val (.ref b1), .val (.ref b5), .val (.ref b9), .val (.ref b13), .unset, .unset, .unset, .unset, .unset, .unset, .unset, .unset, .unset] [])
    refine own_go (fun t_ k_ => XS.iload X31.here hx rfl (hb hby at_93) rfl k_) ?_
    show own_Go p e below _ T31 (mkF m 95 #[.val (.int p1), .val (.long q1), .second, .val (.long q2), .second, .val (.long q3), .second, .val (.int (2 : Int32)), .val (.ref b1), .val (.ref b5), .val (.ref b9), .val (.ref b13), .unset, .unset, .unset, .unset, .unset, .unset, .unset, .unset, .unset] [(.int (2 : Int32))])
    refine own_go (fun t_ k_ => XS.iconst X31.here hx rfl (hb hby at_95) k_) ?_
    show own_Go p e below _ T31 (mkF m 96 #[.val (.int p1), .val (.long q1), .second, .val (.long q2), .second, .val (.long q3), .second, .val (.int (2 : Int32)), .val (.ref b1), .val (.ref b5), .val (.ref b9), .val (.ref b13), .unset, .unset, .unset, .unset, .unset, .unset, .unset, .unset, .unset] [(.int (2 : Int32)), (.int (2 : Int32))])
    refine own_go (fun t_ k_ => XS.icmpYes X31.here hx rfl (pc0 := 96) (pc' := 107) rfl (hb hby at_96) rfl (XT.ii_le_t (by decide)) (by decide) (by decide) k_) ?_
    show own_Go p e below _ T31 (mkF m 107 #[.val (.int p1), .val (.long q1), .second, .val (.long q2), .second, .val (.long q3), .second, .val (.int (2 : Int32)), .val (.ref b1), .val (.ref b5), .val (.ref b9), .val (.ref b13), .unset, .unset, .unset, .unset, .unset, .unset, .unset, .unset, .unset] [])
    refine own_go (fun t_ k_ => XS.aload X31.here hx rfl (hb hby at_107) rfl rfl k_) ?_
    show own_Go p e below _ T31 (mkF m 109 #[.val (.int p1), .val (.long q1), .second, .val (.long q2), .second, .val (.long q3), .second, .val (.int (2 : Int32)), .val (.ref b1), .val (.ref b5), .val (.ref b9), .val (.ref b13), .unset, .unset, .unset, .unset, .unset, .unset, .unset, .unset, .unset] [(.ref b13)])
    obtain ⟨_, T32, L32, X32, ⟨⟨fn32, it32, cK32, rfl, made32, hfn32, E32, F32_th, F32_cu, F32_lr, F32_em, szi32, nf32, K32⟩, N32⟩, st32⟩ := own_callSH X31 hx hZH (y := (⟨"com/example/gridtally/gridtally/core/RowSource", "of", "(Ljava/util/List;)Lcom/example/gridtally/gridtally/core/RowSource;"⟩ : MethodName)) (argsL := [(.ref b13)]) (rest := []) (Ls := #[.val (.int p1), .val (.long q1), .second, .val (.long q2), .second, .val (.long q3), .second, .val (.int (2 : Int32)), .val (.ref b1), .val (.ref b5), .val (.ref b9), .val (.ref b13), .unset, .unset, .unset, .unset, .unset, .unset, .unset, .unset, .unset]) hown (own_w hw 43 rfl) (own_w hw 44 rfl) (own_w hw 45 rfl) (own_w hw 46 rfl) (by decide) rfl (rmOf l Z a0 hw [] b13 (2 : Int32) T31.heap n0 (own_oldge old31) old31 E31 F31_mc) 0 (by decide) (by decide) (by decide) (by decide) (by rw [hml]; rfl) (lenOf pd_15 rfl) rfl (Nat.le_of_eq rfl) (hb hby at_109)
    have M32 := Fr.app M31 N32
    have kE32_b1 := kE31_b1.keep K32
    have kE32_b5 := kE31_b5.keep K32
    have kE32_b9 := kE31_b9.keep K32
    have kE32_b13 := E31.keep K32
    have kF32_b13_elementData := F31_ed.keep K32 nin0
    have kF32_b13_size := F31_sz.keep K32 nin0
    have kF32_b13_modCount := F31_mc.keep K32 nin0
    have kV32_ea30 := V31.keep K32 nin0
    have old32 := old31.keep K32 all0
    have ge_it32 : n0 ≤ it32 := Nat.le_trans (own_oldge old31) szi32
    have ne_b13_it32 : b13 ≠ it32 := Exa.ne kE32_b13 E32 (by decide)
    have ne_fn32_it32 : fn32 ≠ it32 := Ne.symm nf32
    have ne_ea30_it32 : ea30 ≠ it32 := Ne.symm (Exa.neArv E32 kV32_ea30 (own_w hw 57 rfl))
    refine own_go st32 ?_
    show own_Go p e below _ T32 (mkF m 112 #[.val (.int p1), .val (.long q1), .second, .val (.long q2), .second, .val (.long q3), .second, .val (.int (2 : Int32)), .val (.ref b1), .val (.ref b5), .val (.ref b9), .val (.ref b13), .unset, .unset, .unset, .unset, .unset, .unset, .unset, .unset, .unset] [(.ref fn32)])
    refine own_go (fun t_ k_ => XS.astore X32.here hx rfl (hb hby at_112) rfl rfl (l' := #[.val (.int p1), .val (.long q1), .second, .val (.long q2), .second, .val (.long q3), .second, .val (.int (2 : Int32)), .val (.ref b1), .val (.ref b5), .val (.ref b9), .val (.ref b13), .val (.ref fn32), .unset, .unset, .unset, .unset, .unset, .unset, .unset, .unset]) rfl k_) ?_
    show own_Go p e below _ T32 (mkF m 114 #[.val (.int p1), .val (.long q1), .second, .val (.long q2), .second, .val (.long q3), .second, .val (.int (2 : Int32)), .val (.ref b1), .val (.ref b5), .val (.ref b9), .val (.ref b13), .val (.ref fn32), .unset, .unset, .unset, .unset, .unset, .unset, .unset, .unset] [])
    refine own_go (fun t_ k_ => XS.aload X32.here hx rfl (hb hby at_114) rfl rfl k_) ?_
    show own_Go p e below _ T32 (mkF m 116 #[.val (.int p1), .val (.long q1), .second, .val (.long q2), .second, .val (.long q3), .second, .val (.int (2 : Int32)), .val (.ref b1), .val (.ref b5), .val (.ref b9), .val (.ref b13), .val (.ref fn32), .unset, .unset, .unset, .unset, .unset, .unset, .unset, .unset] [(.ref fn32)])
    obtain ⟨_, T33, L33, X33, ⟨rfl, N33, K33, E33, F33_th, F33_cu, F33_lr, F33_em⟩, st33⟩ := own_lam X32 hx hZH (xi := (⟨"com/example/gridtally/gridtally/core/RowSource", "next", "()Lcom/example/gridtally/gridtally/core/Row;"⟩ : MethodName)) (y := (⟨"com/example/gridtally/gridtally/core/RowSource", "lambda$of$0", "(Ljava/util/Iterator;)Lcom/example/gridtally/gridtally/core/Row;"⟩ : MethodName)) (a := fn32) (b := it32) (Ls := #[.val (.int p1), .val (.long q1), .second, .val (.long q2), .second, .val (.long q3), .second, .val (.int (2 : Int32)), .val (.ref b1), .val (.ref b5), .val (.ref b9), .val (.ref b13), .val (.ref fn32), .unset, .unset, .unset, .unset, .unset, .unset, .unset, .unset]) (rest := []) hown (own_w hw 75 rfl) (own_w hw 76 rfl) (mvT hZ (own_w hw 77 rfl)) (own_w hw 79 rfl) (own_w hw 78 rfl) (own_w hw 45 rfl) (own_w hw 74 rfl) own_xi own_yi made32 hfn32 rfl (rmLY_0 l Z a0 hw [] it32 b13 ea30 kA30 (2 : Int32) (2 : Int32) (-1 : Int32) b1 (.ref b5) .null T32.heap n0 (own_oldge old32) old32 E32 F32_th F32_cu F32_lr F32_em kE32_b13 kF32_b13_elementData kF32_b13_size kF32_b13_modCount kV32_ea30 ge_it32 (by decide) (by decide) kE32_b1) (fun _ _ _ q => ⟨_, q.1, rfl⟩) 0 (by decide) (by decide) (by decide) (by decide) (by rw [hml]; rfl) (Nat.le_of_eq rfl) (hb hby at_116)
    have M33 := Fr.app M32 N33
    have kE33_b1 := kE32_b1.keep K33
    have kE33_b5 := kE32_b5.keep K33
    have kE33_b9 := kE32_b9.keep K33
    have kE33_b13 := kE32_b13.keep K33
    have kF33_b13_elementData := kF32_b13_elementData.keep K33 (ninS ne_b13_it32 nin0)
    have kF33_b13_size := kF32_b13_size.keep K33 (ninS ne_b13_it32 nin0)
    have kF33_b13_modCount := kF32_b13_modCount.keep K33 (ninS ne_b13_it32 nin0)
    have kE33_it32 := E32.keep K33
    have kV33_ea30 := kV32_ea30.keep K33 (ninS ne_ea30_it32 nin0)
    have old33 := old32.keep K33 (allS ge_it32 all0)
    have hfn_33 := K33.2.1 _ _ hfn32 (ninS ne_fn32_it32 nin0)
    refine own_go st33 ?_
    show own_Go p e below _ T33 (mkF m 121 #[.val (.int p1), .val (.long q1), .second, .val (.long q2), .second, .val (.long q3), .second, .val (.int (2 : Int32)), .val (.ref b1), .val (.ref b5), .val (.ref b9), .val (.ref b13), .val (.ref fn32), .unset, .unset, .unset, .unset, .unset, .unset, .unset, .unset] [(.ref b1)])
    refine own_go (fun t_ k_ => XS.astore X33.here hx rfl (hb hby at_121) rfl rfl (l' := #[.val (.int p1), .val (.long q1), .second, .val (.long q2), .second, .val (.long q3), .second, .val (.int (2 : Int32)), .val (.ref b1), .val (.ref b5), .val (.ref b9), .val (.ref b13), .val (.ref fn32), .val (.ref b1), .unset, .unset, .unset, .unset, .unset, .unset, .unset]) rfl k_) ?_
    show own_Go p e below _ T33 (mkF m 123 #[.val (.int p1), .val (.long q1), .second, .val (.long q2), .second, .val (.long q3), .second, .val (.int (2 : Int32)), .val (.ref b1), .val (.ref b5), .val (.ref b9), .val (.ref b13), .val (.ref fn32), .val (.ref b1), .unset, .unset, .unset, .unset, .unset, .unset, .unset] [])
    refine own_go (fun t_ k_ => XS.aload X33.here hx rfl (hb hby at_123) rfl rfl k_) ?_
    show own_Go p e below _ T33 (mkF m 125 #[.val (.int p1), .val (.long q1), .second, .val (.long q2), .second, .val (.long q3), .second, .val (.int (2 : Int32)), .val (.ref b1), .val (.ref b5), .val (.ref b9), .val (.ref b13), .val (.ref fn32), .val (.ref b1), .unset, .unset, .unset, .unset, .unset, .unset, .unset] [(.ref fn32)])
    obtain ⟨_, T34, L34, X34, ⟨rfl, N34, K34, E34, F34_th, F34_cu, F34_lr, F34_em⟩, st34⟩ := own_lam X33 hx hZH (xi := (⟨"com/example/gridtally/gridtally/core/RowSource", "next", "()Lcom/example/gridtally/gridtally/core/Row;"⟩ : MethodName)) (y := (⟨"com/example/gridtally/gridtally/core/RowSource", "lambda$of$0", "(Ljava/util/Iterator;)Lcom/example/gridtally/gridtally/core/Row;"⟩ : MethodName)) (a := fn32) (b := it32) (Ls := #[.val (.int p1), .val (.long q1), .second, .val (.long q2), .second, .val (.long q3), .second, .val (.int (2 : Int32)), .val (.ref b1), .val (.ref b5), .val (.ref b9), .val (.ref b13), .val (.ref fn32), .val (.ref b1), .unset, .unset, .unset, .unset, .unset, .unset, .unset]) (rest := []) hown (own_w hw 75 rfl) (own_w hw 76 rfl) (mvT hZ (own_w hw 77 rfl)) (own_w hw 79 rfl) (own_w hw 78 rfl) (own_w hw 45 rfl) (own_w hw 74 rfl) own_xi own_yi made32 hfn_33 rfl (rmLY_1 l Z a0 hw [] it32 b13 ea30 kA30 (2 : Int32) (2 : Int32) (0 : Int32) b5 (.ref b1) .null T33.heap n0 (own_oldge old33) old33 E33 F33_th F33_cu F33_lr F33_em kE33_b13 kF33_b13_elementData kF33_b13_size kF33_b13_modCount kV33_ea30 ge_it32 (by decide) (by decide) kE33_b5) (fun _ _ _ q => ⟨_, q.1, rfl⟩) 0 (by decide) (by decide) (by decide) (by decide) (by rw [hml]; rfl) (Nat.le_of_eq rfl) (hb hby at_125)
    have M34 := Fr.app M33 N34
    have kE34_b1 := kE33_b1.keep K34
    have kE34_b5 := kE33_b5.keep K34
    have kE34_b9 := kE33_b9.keep K34
    have kE34_b13 := kE33_b13.keep K34
    have kF34_b13_elementData := kF33_b13_elementData.keep K34 (ninS ne_b13_it32 nin0)
    have kF34_b13_size := kF33_b13_size.keep K34 (ninS ne_b13_it32 nin0)
    have kF34_b13_modCount := kF33_b13_modCount.keep K34 (ninS ne_b13_it32 nin0)
    have kE34_it32 := E33.keep K34
    have kV34_ea30 := kV33_ea30.keep K34 (ninS ne_ea30_it32 nin0)
    have old34 := old33.keep K34 (allS ge_it32 all0)
    have hfn_34 := K34.2.1 _ _ hfn_33 (ninS ne_fn32_it32 nin0)
    refine own_go st34 ?_
    show own_Go p e below _ T34 (mkF m 130 #[.val (.int p1), .val (.long q1), .second, .val (.long q2), .second, .val (.long q3), .second, .val (.int (2 : Int32)), .val (.ref b1), .val (.ref b5), .val (.ref b9), .val (.ref b13), .val (.ref fn32), .val (.ref b1), .unset, .unset, .unset, .unset, .unset, .unset, .unset] [(.ref b5)])
    refine own_go (fun t_ k_ => XS.astore X34.here hx rfl (hb hby at_130) rfl rfl (l' := #[.val (.int p1), .val (.long q1), .second, .val (.long q2), .second, .val (.long q3), .second, .val (.int (2 : Int32)), .val (.ref b1), .val (.ref b5), .val (.ref b9), .val (.ref b13), .val (.ref fn32), .val (.ref b1), .val (.ref b5), .unset, .unset, .unset, .unset, .unset, .unset]) rfl k_) ?_
    show own_Go p e below _ T34 (mkF m 132 #[.val (.int p1), .val (.long q1), .second, .val (.long q2), .second, .val (.long q3), .second, .val (.int (2 : Int32)), .val (.ref b1), .val (.ref b5), .val (.ref b9), .val (.ref b13), .val (.ref fn32), .val (.ref b1), .val (.ref b5), .unset, .unset, .unset, .unset, .unset, .unset] [])
    refine own_go (fun t_ k_ => XS.aload X34.here hx rfl (hb hby at_132) rfl rfl k_) ?_
    show own_Go p e below _ T34 (mkF m 134 #[.val (.int p1), .val (.long q1), .second, .val (.long q2), .second, .val (.long q3), .second, .val (.int (2 : Int32)), .val (.ref b1), .val (.ref b5), .val (.ref b9), .val (.ref b13), .val (.ref fn32), .val (.ref b1), .val (.ref b5), .unset, .unset, .unset, .unset, .unset, .unset] [(.ref fn32)])
    obtain ⟨_, T35, L35, X35, ⟨rfl, N35, e35⟩, st35⟩ := own_lam X34 hx hZH (xi := (⟨"com/example/gridtally/gridtally/core/RowSource", "next", "()Lcom/example/gridtally/gridtally/core/Row;"⟩ : MethodName)) (y := (⟨"com/example/gridtally/gridtally/core/RowSource", "lambda$of$0", "(Ljava/util/Iterator;)Lcom/example/gridtally/gridtally/core/Row;"⟩ : MethodName)) (a := fn32) (b := it32) (Ls := #[.val (.int p1), .val (.long q1), .second, .val (.long q2), .second, .val (.long q3), .second, .val (.int (2 : Int32)), .val (.ref b1), .val (.ref b5), .val (.ref b9), .val (.ref b13), .val (.ref fn32), .val (.ref b1), .val (.ref b5), .unset, .unset, .unset, .unset, .unset, .unset]) (rest := []) hown (own_w hw 75 rfl) (own_w hw 76 rfl) (mvT hZ (own_w hw 77 rfl)) (own_w hw 79 rfl) (own_w hw 78 rfl) (own_w hw 45 rfl) (own_w hw 74 rfl) own_xi own_yi made32 hfn_34 rfl (rmLN l Z a0 hw [] it32 b13 (2 : Int32) T34.heap n0 (own_oldge old34) E34 F34_th F34_cu kE34_b13 kF34_b13_size) (fun _ _ _ q => ⟨_, q.1, rfl⟩) 0 (by decide) (by decide) (by decide) (by decide) (by rw [hml]; rfl) (Nat.le_of_eq rfl) (hb hby at_134)
    have M35 := Fr.app M34 N35
    refine own_go st35 ?_
    show own_Go p e below _ T35 (mkF m 139 #[.val (.int p1), .val (.long q1), .second, .val (.long q2), .second, .val (.long q3), .second, .val (.int (2 : Int32)), .val (.ref b1), .val (.ref b5), .val (.ref b9), .val (.ref b13), .val (.ref fn32), .val (.ref b1), .val (.ref b5), .unset, .unset, .unset, .unset, .unset, .unset] [.null])
    refine own_go (fun t_ k_ => XS.astore X35.here hx rfl (hb hby at_139) rfl rfl (l' := #[.val (.int p1), .val (.long q1), .second, .val (.long q2), .second, .val (.long q3), .second, .val (.int (2 : Int32)), .val (.ref b1), .val (.ref b5), .val (.ref b9), .val (.ref b13), .val (.ref fn32), .val (.ref b1), .val (.ref b5), .val .null, .unset, .unset, .unset, .unset, .unset]) rfl k_) ?_
    show own_Go p e below _ T35 (mkF m 141 #[.val (.int p1), .val (.long q1), .second, .val (.long q2), .second, .val (.long q3), .second, .val (.int (2 : Int32)), .val (.ref b1), .val (.ref b5), .val (.ref b9), .val (.ref b13), .val (.ref fn32), .val (.ref b1), .val (.ref b5), .val .null, .unset, .unset, .unset, .unset, .unset] [])
    refine own_go (fun t_ k_ => XS.aload X35.here hx rfl (hb hby at_141) rfl rfl k_) ?_
    show own_Go p e below _ T35 (mkF m 143 #[.val (.int p1), .val (.long q1), .second, .val (.long q2), .second, .val (.long q3), .second, .val (.int (2 : Int32)), .val (.ref b1), .val (.ref b5), .val (.ref b9), .val (.ref b13), .val (.ref fn32), .val (.ref b1), .val (.ref b5), .val .null, .unset, .unset, .unset, .unset, .unset] [(.ref fn32)])
    obtain ⟨_, T36, L36, X36, ⟨rfl, N36, e36⟩, st36⟩ := own_lam X35 hx hZH (xi := (⟨"com/example/gridtally/gridtally/core/RowSource", "next", "()Lcom/example/gridtally/gridtally/core/Row;"⟩ : MethodName)) (y := (⟨"com/example/gridtally/gridtally/core/RowSource", "lambda$of$0", "(Ljava/util/Iterator;)Lcom/example/gridtally/gridtally/core/Row;"⟩ : MethodName)) (a := fn32) (b := it32) (Ls := #[.val (.int p1), .val (.long q1), .second, .val (.long q2), .second, .val (.long q3), .second, .val (.int (2 : Int32)), .val (.ref b1), .val (.ref b5), .val (.ref b9), .val (.ref b13), .val (.ref fn32), .val (.ref b1), .val (.ref b5), .val .null, .unset, .unset, .unset, .unset, .unset]) (rest := []) hown (own_w hw 75 rfl) (own_w hw 76 rfl) (mvT hZ (own_w hw 77 rfl)) (own_w hw 79 rfl) (own_w hw 78 rfl) (own_w hw 45 rfl) (own_w hw 74 rfl) own_xi own_yi made32 hfn_34 e35 (rmLN l Z a0 hw [] it32 b13 (2 : Int32) T34.heap n0 (own_oldge old34) E34 F34_th F34_cu kE34_b13 kF34_b13_size) (fun _ _ _ q => ⟨_, q.1, rfl⟩) 0 (by decide) (by decide) (by decide) (by decide) (by rw [hml]; rfl) (Nat.le_of_eq rfl) (hb hby at_143)
    have M36 := Fr.app M35 N36
    refine own_go st36 ?_
    show own_Go p e below _ T36 (mkF m 148 #[.val (.int p1), .val (.long q1), .second, .val (.long q2), .second, .val (.long q3), .second, .val (.int (2 : Int32)), .val (.ref b1), .val (.ref b5), .val (.ref b9), .val (.ref b13), .val (.ref fn32), .val (.ref b1), .val (.ref b5), .val .null, .unset, .unset, .unset, .unset, .unset] [.null])
    refine own_go (fun t_ k_ => XS.astore X36.here hx rfl (hb hby at_148) rfl rfl (l' := #[.val (.int p1), .val (.long q1), .second, .val (.long q2), .second, .val (.long q3), .second, .val (.int (2 : Int32)), .val (.ref b1), .val (.ref b5), .val (.ref b9), .val (.ref b13), .val (.ref fn32), .val (.ref b1), .val (.ref b5), .val .null, .val .null, .unset, .unset, .unset, .unset]) rfl k_) ?_
    show own_Go p e below _ T36 (mkF m 150 #[.val (.int p1), .val (.long q1), .second, .val (.long q2), .second, .val (.long q3), .second, .val (.int (2 : Int32)), .val (.ref b1), .val (.ref b5), .val (.ref b9), .val (.ref b13), .val (.ref fn32), .val (.ref b1), .val (.ref b5), .val .null, .val .null, .unset, .unset, .unset, .unset] [])
    refine own_go (fun t_ k_ => XS.aload X36.here hx rfl (hb hby at_150) rfl rfl k_) ?_
    show own_Go p e below _ T36 (mkF m 152 #[.val (.int p1), .val (.long q1), .second, .val (.long q2), .second, .val (.long q3), .second, .val (.int (2 : Int32)), .val (.ref b1), .val (.ref b5), .val (.ref b9), .val (.ref b13), .val (.ref fn32), .val (.ref b1), .val (.ref b5), .val .null, .val .null, .unset, .unset, .unset, .unset] [(.ref fn32)])
    obtain ⟨_, T37, L37, X37, ⟨rfl, N37, e37⟩, st37⟩ := own_lam X36 hx hZH (xi := (⟨"com/example/gridtally/gridtally/core/RowSource", "next", "()Lcom/example/gridtally/gridtally/core/Row;"⟩ : MethodName)) (y := (⟨"com/example/gridtally/gridtally/core/RowSource", "lambda$of$0", "(Ljava/util/Iterator;)Lcom/example/gridtally/gridtally/core/Row;"⟩ : MethodName)) (a := fn32) (b := it32) (Ls := #[.val (.int p1), .val (.long q1), .second, .val (.long q2), .second, .val (.long q3), .second, .val (.int (2 : Int32)), .val (.ref b1), .val (.ref b5), .val (.ref b9), .val (.ref b13), .val (.ref fn32), .val (.ref b1), .val (.ref b5), .val .null, .val .null, .unset, .unset, .unset, .unset]) (rest := []) hown (own_w hw 75 rfl) (own_w hw 76 rfl) (mvT hZ (own_w hw 77 rfl)) (own_w hw 79 rfl) (own_w hw 78 rfl) (own_w hw 45 rfl) (own_w hw 74 rfl) own_xi own_yi made32 hfn_34 e36 (rmLN l Z a0 hw [] it32 b13 (2 : Int32) T34.heap n0 (own_oldge old34) E34 F34_th F34_cu kE34_b13 kF34_b13_size) (fun _ _ _ q => ⟨_, q.1, rfl⟩) 0 (by decide) (by decide) (by decide) (by decide) (by rw [hml]; rfl) (Nat.le_of_eq rfl) (hb hby at_152)
    have M37 := Fr.app M36 N37
    refine own_go st37 ?_
    show own_Go p e below _ T37 (mkF m 157 #[.val (.int p1), .val (.long q1), .second, .val (.long q2), .second, .val (.long q3), .second, .val (.int (2 : Int32)), .val (.ref b1), .val (.ref b5), .val (.ref b9), .val (.ref b13), .val (.ref fn32), .val (.ref b1), .val (.ref b5), .val .null, .val .null, .unset, .unset, .unset, .unset] [.null])
    refine own_go (fun t_ k_ => XS.astore X37.here hx rfl (hb hby at_157) rfl rfl (l' := #[.val (.int p1), .val (.long q1), .second, .val (.long q2), .second, .val (.long q3), .second, .val (.int (2 : Int32)), .val (.ref b1), .val (.ref b5), .val (.ref b9), .val (.ref b13), .val (.ref fn32), .val (.ref b1), .val (.ref b5), .val .null, .val .null, .val .null, .unset, .unset, .unset]) rfl k_) ?_
    show own_Go p e below _ T37 (mkF m 159 #[.val (.int p1), .val (.long q1), .second, .val (.long q2), .second, .val (.long q3), .second, .val (.int (2 : Int32)), .val (.ref b1), .val (.ref b5), .val (.ref b9), .val (.ref b13), .val (.ref fn32), .val (.ref b1), .val (.ref b5), .val .null, .val .null, .val .null, .unset, .unset, .unset] [])
    refine own_go (fun t_ k_ => XS.iload X37.here hx rfl (hb hby at_159) rfl k_) ?_
    show own_Go p e below _ T37 (mkF m 161 #[.val (.int p1), .val (.long q1), .second, .val (.long q2), .second, .val (.long q3), .second, .val (.int (2 : Int32)), .val (.ref b1), .val (.ref b5), .val (.ref b9), .val (.ref b13), .val (.ref fn32), .val (.ref b1), .val (.ref b5), .val .null, .val .null, .val .null, .unset, .unset, .unset] [(.int (2 : Int32))])
    refine own_go (fun t_ k_ => XS.ifNo X37.here hx rfl (hb hby at_161) rfl (XT.i0_le_f (by decide)) k_) ?_
    show own_Go p e below _ T37 (mkF m 164 #[.val (.int p1), .val (.long q1), .second, .val (.long q2), .second, .val (.long q3), .second, .val (.int (2 : Int32)), .val (.ref b1), .val (.ref b5), .val (.ref b9), .val (.ref b13), .val (.ref fn32), .val (.ref b1), .val (.ref b5), .val .null, .val .null, .val .null, .unset, .unset, .unset] [])
    refine own_go (fun t_ k_ => XS.aload X37.here hx rfl (hb hby at_164) rfl rfl k_) ?_
    show own_Go p e below _ T37 (mkF m 166 #[.val (.int p1), .val (.long q1), .second, .val (.long q2), .second, .val (.long q3), .second, .val (.int (2 : Int32)), .val (.ref b1), .val (.ref b5), .val (.ref b9), .val (.ref b13), .val (.ref fn32), .val (.ref b1), .val (.ref b5), .val .null, .val .null, .val .null, .unset, .unset, .unset] [(.ref b1)])
    refine own_go (fun t_ k_ => XS.aload X37.here hx rfl (hb hby at_166) rfl rfl k_) ?_
    show own_Go p e below _ T37 (mkF m 168 #[.val (.int p1), .val (.long q1), .second, .val (.long q2), .second, .val (.long q3), .second, .val (.int (2 : Int32)), .val (.ref b1), .val (.ref b5), .val (.ref b9), .val (.ref b13), .val (.ref fn32), .val (.ref b1), .val (.ref b5), .val .null, .val .null, .val .null, .unset, .unset, .unset] [(.ref b1), (.ref b1)])
    refine own_go (fun t_ k_ => XT.acmpNo X37.here hx rfl (hb hby at_168) rfl rfl rfl (XT.aa_ne_f rfl) k_) ?_
    show own_Go p e below _ T37 (mkF m 171 #[.val (.int p1), .val (.long q1), .second, .val (.long q2), .second, .val (.long q3), .second, .val (.int (2 : Int32)), .val (.ref b1), .val (.ref b5), .val (.ref b9), .val (.ref b13), .val (.ref fn32), .val (.ref b1), .val (.ref b5), .val .null, .val .null, .val .null, .unset, .unset, .unset] [])
    refine own_go (fun t_ k_ => XS.iconst X37.here hx rfl (hb hby at_171) k_) ?_
    show own_Go p e below _ T37 (mkF m 172 #[.val (.int p1), .val (.long q1), .second, .val (.long q2), .second, .val (.long q3), .second, .val (.int (2 : Int32)), .val (.ref b1), .val (.ref b5), .val (.ref b9), .val (.ref b13), .val (.ref fn32), .val (.ref b1), .val (.ref b5), .val .null, .val .null, .val .null, .unset, .unset, .unset] [(.int (1 : Int32))])
    refine own_go (fun t_ k_ => XS.goto X37.here hx rfl (pc0 := 172) (pc' := 189) rfl (hb hby at_172) (by decide) (by decide) k_) ?_
    show own_Go p e below _ T37 (mkF m 189 #[.val (.int p1), .val (.long q1), .second, .val (.long q2), .second, .val (.long q3), .second, .val (.int (2 : Int32)), .val (.ref b1), .val (.ref b5), .val (.ref b9), .val (.ref b13), .val (.ref fn32), .val (.ref b1), .val (.ref b5), .val .null, .val .null, .val .null, .unset, .unset, .unset] [(.int (1 : Int32))])
    refine own_go (fun t_ k_ => XS.istore X37.here hx rfl (hb hby at_189) rfl (l' := #[.val (.int p1), .val (.long q1), .second, .val (.long q2), .second, .val (.long q3), .second, .val (.int (2 : Int32)), .val (.ref b1), .val (.ref b5), .val (.ref b9), .val (.ref b13), .val (.ref fn32), .val (.ref b1), .val (.ref b5), .val .null, .val .null, .val .null, .val (.int (1 : Int32)), .unset, .unset]) rfl k_) ?_
    show own_Go p e below _ T37 (mkF m 191 #[.val (.int p1), .val (.long q1), .second, .val (.long q2), .second, .val (.long q3), .second, .val (.int (2 : Int32)), .val (.ref b1), .val (.ref b5), .val (.ref b9), .val (.ref b13), .val (.ref fn32), .val (.ref b1), .val (.ref b5), .val .null, .val .null, .val .null, .val (.int (1 : Int32)), .unset, .unset] [])
    refine own_go (fun t_ k_ => XS.iload X37.here hx rfl (hb hby at_191) rfl k_) ?_
    show own_Go p e below _ T37 (mkF m 193 #[.val (.int p1), .val (.long q1), .second, .val (.long q2), .second, .val (.long q3), .second, .val (.int (2 : Int32)), .val (.ref b1), .val (.ref b5), .val (.ref b9), .val (.ref b13), .val (.ref fn32), .val (.ref b1), .val (.ref b5), .val .null, .val .null, .val .null, .val (.int (1 : Int32)), .unset, .unset] [(.int (2 : Int32))])
    refine own_go (fun t_ k_ => XS.iconst X37.here hx rfl (hb hby at_193) k_) ?_
    show own_Go p e below _ T37 (mkF m 194 #[.val (.int p1), .val (.long q1), .second, .val (.long q2), .second, .val (.long q3), .second, .val (.int (2 : Int32)), .val (.ref b1), .val (.ref b5), .val (.ref b9), .val (.ref b13), .val (.ref fn32), .val (.ref b1), .val (.ref b5), .val .null, .val .null, .val .null, .val (.int (1 : Int32)), .unset, .unset] [(.int (1 : Int32)), (.int (2 : Int32))])
    refine own_go (fun t_ k_ => XS.icmpNo X37.here hx rfl (hb hby at_194) rfl (XT.ii_le_f (by decide)) k_) ?_
    show own_Go p e below _ T37 (mkF m 197 #[.val (.int p1), .val (.long q1), .second, .val (.long q2), .second, .val (.long q3), .second, .val (.int (2 : Int32)), .val (.ref b1), .val (.ref b5), .val (.ref b9), .val (.ref b13), .val (.ref fn32), .val (.ref b1), .val (.ref b5), .val .null, .val .null, .val .null, .val (.int (1 : Int32)), .unset, .unset] [])
    refine own_go (fun t_ k_ => XS.aload X37.here hx rfl (hb hby at_197) rfl rfl k_) ?_
    show own_Go p e below _ T37 (mkF m 199 #[.val (.int p1), .val (.long q1), .second, .val (.long q2), .second, .val (.long q3), .second, .val (.int (2 : Int32)), .val (.ref b1), .val (.ref b5), .val (.ref b9), .val (.ref b13), .val (.ref fn32), .val (.ref b1), .val (.ref b5), .val .null, .val .null, .val .null, .val (.int (1 : Int32)), .unset, .unset] [(.ref b5)])
    refine own_go (fun t_ k_ => XS.aload X37.here hx rfl (hb hby at_199) rfl rfl k_) ?_
    show own_Go p e below _ T37 (mkF m 201 #[.val (.int p1), .val (.long q1), .second, .val (.long q2), .second, .val (.long q3), .second, .val (.int (2 : Int32)), .val (.ref b1), .val (.ref b5), .val (.ref b9), .val (.ref b13), .val (.ref fn32), .val (.ref b1), .val (.ref b5), .val .null, .val .null, .val .null, .val (.int (1 : Int32)), .unset, .unset] [(.ref b5), (.ref b5)])
    refine own_go (fun t_ k_ => XT.acmpNo X37.here hx rfl (hb hby at_201) rfl rfl rfl (XT.aa_ne_f rfl) k_) ?_
    show own_Go p e below _ T37 (mkF m 204 #[.val (.int p1), .val (.long q1), .second, .val (.long q2), .second, .val (.long q3), .second, .val (.int (2 : Int32)), .val (.ref b1), .val (.ref b5), .val (.ref b9), .val (.ref b13), .val (.ref fn32), .val (.ref b1), .val (.ref b5), .val .null, .val .null, .val .null, .val (.int (1 : Int32)), .unset, .unset] [])
    refine own_go (fun t_ k_ => XS.iconst X37.here hx rfl (hb hby at_204) k_) ?_
    show own_Go p e below _ T37 (mkF m 205 #[.val (.int p1), .val (.long q1), .second, .val (.long q2), .second, .val (.long q3), .second, .val (.int (2 : Int32)), .val (.ref b1), .val (.ref b5), .val (.ref b9), .val (.ref b13), .val (.ref fn32), .val (.ref b1), .val (.ref b5), .val .null, .val .null, .val .null, .val (.int (1 : Int32)), .unset, .unset] [(.int (1 : Int32))])
    refine own_go (fun t_ k_ => XS.goto X37.here hx rfl (pc0 := 205) (pc' := 222) rfl (hb hby at_205) (by decide) (by decide) k_) ?_
    show own_Go p e below _ T37 (mkF m 222 #[.val (.int p1), .val (.long q1), .second, .val (.long q2), .second, .val (.long q3), .second, .val (.int (2 : Int32)), .val (.ref b1), .val (.ref b5), .val (.ref b9), .val (.ref b13), .val (.ref fn32), .val (.ref b1), .val (.ref b5), .val .null, .val .null, .val .null, .val (.int (1 : Int32)), .unset, .unset] [(.int (1 : Int32))])
    refine own_go (fun t_ k_ => XS.istore X37.here hx rfl (hb hby at_222) rfl (l' := #[.val (.int p1), .val (.long q1), .second, .val (.long q2), .second, .val (.long q3), .second, .val (.int (2 : Int32)), .val (.ref b1), .val (.ref b5), .val (.ref b9), .val (.ref b13), .val (.ref fn32), .val (.ref b1), .val (.ref b5), .val .null, .val .null, .val .null, .val (.int (1 : Int32)), .val (.int (1 : Int32)), .unset]) rfl k_) ?_
    show own_Go p e below _ T37 (mkF m 224 #[.val (.int p1), .val (.long q1), .second, .val (.long q2), .second, .val (.long q3), .second, .val (.int (2 : Int32)), .val (.ref b1), .val (.ref b5), .val (.ref b9), .val (.ref b13), .val (.ref fn32), .val (.ref b1), .val (.ref b5), .val .null, .val .null, .val .null, .val (.int (1 : Int32)), .val (.int (1 : Int32)), .unset] [])
    refine own_go (fun t_ k_ => XS.iload X37.here hx rfl (hb hby at_224) rfl k_) ?_
    show own_Go p e below _ T37 (mkF m 226 #[.val (.int p1), .val (.long q1), .second, .val (.long q2), .second, .val (.long q3), .second, .val (.int (2 : Int32)), .val (.ref b1), .val (.ref b5), .val (.ref b9), .val (.ref b13), .val (.ref fn32), .val (.ref b1), .val (.ref b5), .val .null, .val .null, .val .null, .val (.int (1 : Int32)), .val (.int (1 : Int32)), .unset] [(.int (2 : Int32))])
    refine own_go (fun t_ k_ => XS.iconst X37.here hx rfl (hb hby at_226) k_) ?_
    show own_Go p e below _ T37 (mkF m 227 #[.val (.int p1), .val (.long q1), .second, .val (.long q2), .second, .val (.long q3), .second, .val (.int (2 : Int32)), .val (.ref b1), .val (.ref b5), .val (.ref b9), .val (.ref b13), .val (.ref fn32), .val (.ref b1), .val (.ref b5), .val .null, .val .null, .val .null, .val (.int (1 : Int32)), .val (.int (1 : Int32)), .unset] [(.int (2 : Int32)), (.int (2 : Int32))])
    refine own_go (fun t_ k_ => XS.icmpYes X37.here hx rfl (pc0 := 227) (pc' := 245) rfl (hb hby at_227) rfl (XT.ii_le_t (by decide)) (by decide) (by decide) k_) ?_
    show own_Go p e below _ T37 (mkF m 245 #[.val (.int p1), .val (.long q1), .second, .val (.long q2), .second, .val (.long q3), .second, .val (.int (2 : Int32)), .val (.ref b1), .val (.ref b5), .val (.ref b9), .val (.ref b13), .val (.ref fn32), .val (.ref b1), .val (.ref b5), .val .null, .val .null, .val .null, .val (.int (1 : Int32)), .val (.int (1 : Int32)), .unset] [])
    refine own_go (fun t_ k_ => XS.aload X37.here hx rfl (hb hby at_245) rfl rfl k_) ?_
    show own_Go p e below _ T37 (mkF m 247 #[.val (.int p1), .val (.long q1), .second, .val (.long q2), .second, .val (.long q3), .second, .val (.int (2 : Int32)), .val (.ref b1), .val (.ref b5), .val (.ref b9), .val (.ref b13), .val (.ref fn32), .val (.ref b1), .val (.ref b5), .val .null, .val .null, .val .null, .val (.int (1 : Int32)), .val (.int (1 : Int32)), .unset] [.null])
    refine own_go (fun t_ k_ => XS.ifnonnullNo X37.here hx rfl (hb hby at_247) rfl k_) ?_
    show own_Go p e below _ T37 (mkF m 250 #[.val (.int p1), .val (.long q1), .second, .val (.long q2), .second, .val (.long q3), .second, .val (.int (2 : Int32)), .val (.ref b1), .val (.ref b5), .val (.ref b9), .val (.ref b13), .val (.ref fn32), .val (.ref b1), .val (.ref b5), .val .null, .val .null, .val .null, .val (.int (1 : Int32)), .val (.int (1 : Int32)), .unset] [])
    refine own_go (fun t_ k_ => XS.iconst X37.here hx rfl (hb hby at_250) k_) ?_
    show own_Go p e below _ T37 (mkF m 251 #[.val (.int p1), .val (.long q1), .second, .val (.long q2), .second, .val (.long q3), .second, .val (.int (2 : Int32)), .val (.ref b1), .val (.ref b5), .val (.ref b9), .val (.ref b13), .val (.ref fn32), .val (.ref b1), .val (.ref b5), .val .null, .val .null, .val .null, .val (.int (1 : Int32)), .val (.int (1 : Int32)), .unset] [(.int (1 : Int32))])
    refine own_go (fun t_ k_ => XS.goto X37.here hx rfl (pc0 := 251) (pc' := 255) rfl (hb hby at_251) (by decide) (by decide) k_) ?_
    show own_Go p e below _ T37 (mkF m 255 #[.val (.int p1), .val (.long q1), .second, .val (.long q2), .second, .val (.long q3), .second, .val (.int (2 : Int32)), .val (.ref b1), .val (.ref b5), .val (.ref b9), .val (.ref b13), .val (.ref fn32), .val (.ref b1), .val (.ref b5), .val .null, .val .null, .val .null, .val (.int (1 : Int32)), .val (.int (1 : Int32)), .unset] [(.int (1 : Int32))])
    refine own_go (fun t_ k_ => XS.istore X37.here hx rfl (hb hby at_255) rfl (l' := #[.val (.int p1), .val (.long q1), .second, .val (.long q2), .second, .val (.long q3), .second, .val (.int (2 : Int32)), .val (.ref b1), .val (.ref b5), .val (.ref b9), .val (.ref b13), .val (.ref fn32), .val (.ref b1), .val (.ref b5), .val .null, .val .null, .val .null, .val (.int (1 : Int32)), .val (.int (1 : Int32)), .val (.int (1 : Int32))]) rfl k_) ?_
    show own_Go p e below _ T37 (mkF m 257 #[.val (.int p1), .val (.long q1), .second, .val (.long q2), .second, .val (.long q3), .second, .val (.int (2 : Int32)), .val (.ref b1), .val (.ref b5), .val (.ref b9), .val (.ref b13), .val (.ref fn32), .val (.ref b1), .val (.ref b5), .val .null, .val .null, .val .null, .val (.int (1 : Int32)), .val (.int (1 : Int32)), .val (.int (1 : Int32))] [])
    refine own_go (fun t_ k_ => XS.iload X37.here hx rfl (hb hby at_257) rfl k_) ?_
    show own_Go p e below _ T37 (mkF m 259 #[.val (.int p1), .val (.long q1), .second, .val (.long q2), .second, .val (.long q3), .second, .val (.int (2 : Int32)), .val (.ref b1), .val (.ref b5), .val (.ref b9), .val (.ref b13), .val (.ref fn32), .val (.ref b1), .val (.ref b5), .val .null, .val .null, .val .null, .val (.int (1 : Int32)), .val (.int (1 : Int32)), .val (.int (1 : Int32))] [(.int (1 : Int32))])
    refine own_go (fun t_ k_ => XS.ifNo X37.here hx rfl (hb hby at_259) rfl (XT.i0_eq_f (by decide)) k_) ?_
    show own_Go p e below _ T37 (mkF m 262 #[.val (.int p1), .val (.long q1), .second, .val (.long q2), .second, .val (.long q3), .second, .val (.int (2 : Int32)), .val (.ref b1), .val (.ref b5), .val (.ref b9), .val (.ref b13), .val (.ref fn32), .val (.ref b1), .val (.ref b5), .val .null, .val .null, .val .null, .val (.int (1 : Int32)), .val (.int (1 : Int32)), .val (.int (1 : Int32))] [])
    refine own_go (fun t_ k_ => XS.iload X37.here hx rfl (hb hby at_262) rfl k_) ?_
    show own_Go p e below _ T37 (mkF m 264 #[.val (.int p1), .val (.long q1), .second, .val (.long q2), .second, .val (.long q3), .second, .val (.int (2 : Int32)), .val (.ref b1), .val (.ref b5), .val (.ref b9), .val (.ref b13), .val (.ref fn32), .val (.ref b1), .val (.ref b5), .val .null, .val .null, .val .null, .val (.int (1 : Int32)), .val (.int (1 : Int32)), .val (.int (1 : Int32))] [(.int (1 : Int32))])
    refine own_go (fun t_ k_ => XS.ifNo X37.here hx rfl (hb hby at_264) rfl (XT.i0_eq_f (by decide)) k_) ?_
    show own_Go p e below _ T37 (mkF m 267 #[.val (.int p1), .val (.long q1), .second, .val (.long q2), .second, .val (.long q3), .second, .val (.int (2 : Int32)), .val (.ref b1), .val (.ref b5), .val (.ref b9), .val (.ref b13), .val (.ref fn32), .val (.ref b1), .val (.ref b5), .val .null, .val .null, .val .null, .val (.int (1 : Int32)), .val (.int (1 : Int32)), .val (.int (1 : Int32))] [])
    refine own_go (fun t_ k_ => XS.iload X37.here hx rfl (hb hby at_267) rfl k_) ?_
    show own_Go p e below _ T37 (mkF m 269 #[.val (.int p1), .val (.long q1), .second, .val (.long q2), .second, .val (.long q3), .second, .val (.int (2 : Int32)), .val (.ref b1), .val (.ref b5), .val (.ref b9), .val (.ref b13), .val (.ref fn32), .val (.ref b1), .val (.ref b5), .val .null, .val .null, .val .null, .val (.int (1 : Int32)), .val (.int (1 : Int32)), .val (.int (1 : Int32))] [(.int (1 : Int32))])
    refine own_go (fun t_ k_ => XS.ifNo X37.here hx rfl (hb hby at_269) rfl (XT.i0_eq_f (by decide)) k_) ?_
    show own_Go p e below _ T37 (mkF m 272 #[.val (.int p1), .val (.long q1), .second, .val (.long q2), .second, .val (.long q3), .second, .val (.int (2 : Int32)), .val (.ref b1), .val (.ref b5), .val (.ref b9), .val (.ref b13), .val (.ref fn32), .val (.ref b1), .val (.ref b5), .val .null, .val .null, .val .null, .val (.int (1 : Int32)), .val (.int (1 : Int32)), .val (.int (1 : Int32))] [])
    refine own_go (fun t_ k_ => XS.aload X37.here hx rfl (hb hby at_272) rfl rfl k_) ?_
    show own_Go p e below _ T37 (mkF m 274 #[.val (.int p1), .val (.long q1), .second, .val (.long q2), .second, .val (.long q3), .second, .val (.int (2 : Int32)), .val (.ref b1), .val (.ref b5), .val (.ref b9), .val (.ref b13), .val (.ref fn32), .val (.ref b1), .val (.ref b5), .val .null, .val .null, .val .null, .val (.int (1 : Int32)), .val (.int (1 : Int32)), .val (.int (1 : Int32))] [.null])
    refine own_go (fun t_ k_ => XS.ifnonnullNo X37.here hx rfl (hb hby at_274) rfl k_) ?_
    show own_Go p e below _ T37 (mkF m 277 #[.val (.int p1), .val (.long q1), .second, .val (.long q2), .second, .val (.long q3), .second, .val (.int (2 : Int32)), .val (.ref b1), .val (.ref b5), .val (.ref b9), .val (.ref b13), .val (.ref fn32), .val (.ref b1), .val (.ref b5), .val .null, .val .null, .val .null, .val (.int (1 : Int32)), .val (.int (1 : Int32)), .val (.int (1 : Int32))] [])
    refine own_go (fun t_ k_ => XS.aload X37.here hx rfl (hb hby at_277) rfl rfl k_) ?_
    show own_Go p e below _ T37 (mkF m 279 #[.val (.int p1), .val (.long q1), .second, .val (.long q2), .second, .val (.long q3), .second, .val (.int (2 : Int32)), .val (.ref b1), .val (.ref b5), .val (.ref b9), .val (.ref b13), .val (.ref fn32), .val (.ref b1), .val (.ref b5), .val .null, .val .null, .val .null, .val (.int (1 : Int32)), .val (.int (1 : Int32)), .val (.int (1 : Int32))] [.null])
    refine own_go (fun t_ k_ => XS.ifnonnullNo X37.here hx rfl (hb hby at_279) rfl k_) ?_
    show own_Go p e below _ T37 (mkF m 282 #[.val (.int p1), .val (.long q1), .second, .val (.long q2), .second, .val (.long q3), .second, .val (.int (2 : Int32)), .val (.ref b1), .val (.ref b5), .val (.ref b9), .val (.ref b13), .val (.ref fn32), .val (.ref b1), .val (.ref b5), .val .null, .val .null, .val .null, .val (.int (1 : Int32)), .val (.int (1 : Int32)), .val (.int (1 : Int32))] [])
    refine own_go (fun t_ k_ => XS.aload X37.here hx rfl (hb hby at_282) rfl rfl k_) ?_
    show own_Go p e below _ T37 (mkF m 284 #[.val (.int p1), .val (.long q1), .second, .val (.long q2), .second, .val (.long q3), .second, .val (.int (2 : Int32)), .val (.ref b1), .val (.ref b5), .val (.ref b9), .val (.ref b13), .val (.ref fn32), .val (.ref b1), .val (.ref b5), .val .null, .val .null, .val .null, .val (.int (1 : Int32)), .val (.int (1 : Int32)), .val (.int (1 : Int32))] [(.ref b13)])
    obtain ⟨_, T38, L38, X38, ⟨rfl, N38, e38⟩, st38⟩ := own_callV X37 hx hZ (y := (⟨"java/util/ArrayList", "size", "()I"⟩ : MethodName)) (z := (⟨"java/util/ArrayList", "size", "()I"⟩ : MethodName)) (b := b13) (argsL := []) (rest := []) (Ls := #[.val (.int p1), .val (.long q1), .second, .val (.long q2), .second, .val (.long q3), .second, .val (.int (2 : Int32)), .val (.ref b1), .val (.ref b5), .val (.ref b9), .val (.ref b13), .val (.ref fn32), .val (.ref b1), .val (.ref b5), .val .null, .val .null, .val .null, .val (.int (1 : Int32)), .val (.int (1 : Int32)), .val (.int (1 : Int32))]) hown (own_w hw 93 rfl) (own_w hw 94 rfl) (own_w hw 96 rfl) (notFace_of_selects (args := #[]) (mvT hZ (own_w hw 96 rfl))) (own_w hw 95 rfl) (own_w hw 97 rfl) (own_w hw 21 rfl) (by decide) e37 kE34_b13 (rmSz l Z a0 hw [] b13 (2 : Int32) T34.heap n0 (own_oldge old34) kE34_b13 kF34_b13_size) 0 (by decide) (by decide) (by decide) (by decide) (by rw [hml]; rfl) (lenOf pd_0 rfl) rfl (Nat.le_of_eq rfl) (hb hby at_284)
    have M38 := Fr.app M37 N38
    refine own_go st38 ?_
    show own_Go p e below _ T38 (mkF m 287 #[.val (.int p1), .val (.long q1), .second, .val (.long q2), .second, .val (.long q3), .second, .val (.int (2 : Int32)), .val (.ref b1), .val (.ref b5), .val (.ref b9), .val (.ref b13), .val (.ref fn32), .val (.ref b1), .val (.ref b5), .val .null, .val .null, .val .null, .val (.int (1 : Int32)), .val (.int (1 : Int32)), .val (.int (1 : Int32))] [(.int (2 : Int32))])
    refine own_go (fun t_ k_ => XS.iload X38.here hx rfl (hb hby at_287) rfl k_) ?_
    show own_Go p e below _ T38 (mkF m 289 #[.val (.int p1), .val (.long q1), .second, .val (.long q2), .second, .val (.long q3), .second, .val (.int (2 : Int32)), .val (.ref b1), .val (.ref b5), .val (.ref b9), .val (.ref b13), .val (.ref fn32), .val (.ref b1), .val (.ref b5), .val .null, .val .null, .val .null, .val (.int (1 : Int32)), .val (.int (1 : Int32)), .val (.int (1 : Int32))] [(.int (2 : Int32)), (.int (2 : Int32))])
    refine own_go (fun t_ k_ => XS.icmpNo X38.here hx rfl (hb hby at_289) rfl (XT.ii_ne_f (by decide)) k_) ?_
    show own_Go p e below _ T38 (mkF m 292 #[.val (.int p1), .val (.long q1), .second, .val (.long q2), .second, .val (.long q3), .second, .val (.int (2 : Int32)), .val (.ref b1), .val (.ref b5), .val (.ref b9), .val (.ref b13), .val (.ref fn32), .val (.ref b1), .val (.ref b5), .val .null, .val .null, .val .null, .val (.int (1 : Int32)), .val (.int (1 : Int32)), .val (.int (1 : Int32))] [])
    refine own_go (fun t_ k_ => XS.iconst X38.here hx rfl (hb hby at_292) k_) ?_
    show own_Go p e below _ T38 (mkF m 293 #[.val (.int p1), .val (.long q1), .second, .val (.long q2), .second, .val (.long q3), .second, .val (.int (2 : Int32)), .val (.ref b1), .val (.ref b5), .val (.ref b9), .val (.ref b13), .val (.ref fn32), .val (.ref b1), .val (.ref b5), .val .null, .val .null, .val .null, .val (.int (1 : Int32)), .val (.int (1 : Int32)), .val (.int (1 : Int32))] [(.int (1 : Int32))])
    refine own_go (fun t_ k_ => XS.goto X38.here hx rfl (pc0 := 293) (pc' := 297) rfl (hb hby at_293) (by decide) (by decide) k_) ?_
    show own_Go p e below _ T38 (mkF m 297 #[.val (.int p1), .val (.long q1), .second, .val (.long q2), .second, .val (.long q3), .second, .val (.int (2 : Int32)), .val (.ref b1), .val (.ref b5), .val (.ref b9), .val (.ref b13), .val (.ref fn32), .val (.ref b1), .val (.ref b5), .val .null, .val .null, .val .null, .val (.int (1 : Int32)), .val (.int (1 : Int32)), .val (.int (1 : Int32))] [(.int (1 : Int32))])
    refine own_retZ X38 hx hlk hret (hb hby at_297) (Or.inr rfl) (by decide) (by decide) ?_
    exact ⟨rfl, M38⟩
  · rw [q9]
    show own_Go p e below _ T14 (mkF m 66 #[.val (.int p1), .val (.long q1), .second, .val (.long q2), .second, .val (.long q3), .second, .val (.int (3 : Int32)), .val (.ref b1), .val (.ref b5), .val (.ref b9), .val (.ref b13), .unset, .unset, .unset, .unset, .unset, .unset, .unset, .unset, .unset] [])
    refine own_go (fun t_ k_ => XS.iload X14.here hx rfl (hb hby at_66) rfl k_) ?_
    show own_Go p e below _ T14 (mkF m 68 #[.val (.int p1), .val (.long q1), .second, .val (.long q2), .second, .val (.long q3), .second, .val (.int (3 : Int32)), .val (.ref b1), .val (.ref b5), .val (.ref b9), .val (.ref b13), .unset, .unset, .unset, .unset, .unset, .unset, .unset, .unset, .unset] [(.int (3 : Int32))])
    refine own_go (fun t_ k_ => XS.ifNo X14.here hx rfl (hb hby at_68) rfl (XT.i0_le_f (by decide)) k_) ?_
    show own_Go p e below _ T14 (mkF m 71 #[.val (.int p1), .val (.long q1), .second, .val (.long q2), .second, .val (.long q3), .second, .val (.int (3 : Int32)), .val (.ref b1), .val (.ref b5), .val (.ref b9), .val (.ref b13), .unset, .unset, .unset, .unset, .unset, .unset, .unset, .unset, .unset] [])
    refine own_go (fun t_ k_ => XS.aload X14.here hx rfl (hb hby at_71) rfl rfl k_) ?_
    show own_Go p e below _ T14 (mkF m 73 #[.val (.int p1), .val (.long q1), .second, .val (.long q2), .second, .val (.long q3), .second, .val (.int (3 : Int32)), .val (.ref b1), .val (.ref b5), .val (.ref b9), .val (.ref b13), .unset, .unset, .unset, .unset, .unset, .unset, .unset, .unset, .unset] [(.ref b13)])
    refine own_go (fun t_ k_ => XS.aload X14.here hx rfl (hb hby at_73) rfl rfl k_) ?_
    show own_Go p e below _ T14 (mkF m 75 #[.val (.int p1), .val (.long q1), .second, .val (.long q2), .second, .val (.long q3), .second, .val (.int (3 : Int32)), .val (.ref b1), .val (.ref b5), .val (.ref b9), .val (.ref b13), .unset, .unset, .unset, .unset, .unset, .unset, .unset, .unset, .unset] [(.ref b1), (.ref b13)])
    obtain ⟨_, T39, L39, X39, ⟨rfl, ⟨ea39, kA39, E39, F39_ed, F39_sz, F39_mc, V39, O39, ge39, K39⟩, N39⟩, st39⟩ := own_callV X14 hx hZ (y := (⟨"java/util/ArrayList", "add", "(Ljava/lang/Object;)Z"⟩ : MethodName)) (z := (⟨"java/util/ArrayList", "add", "(Ljava/lang/Object;)Z"⟩ : MethodName)) (b := b13) (argsL := [(.ref b1)]) (rest := []) (Ls := #[.val (.int p1), .val (.long q1), .second, .val (.long q2), .second, .val (.long q3), .second, .val (.int (3 : Int32)), .val (.ref b1), .val (.ref b5), .val (.ref b9), .val (.ref b13), .unset, .unset, .unset, .unset, .unset, .unset, .unset, .unset, .unset]) hown (own_w hw 99 rfl) (own_w hw 100 rfl) (own_w hw 102 rfl) (notFace_of_selects (args := #[]) (mvT hZ (own_w hw 102 rfl))) (own_w hw 101 rfl) (own_w hw 103 rfl) (own_w hw 21 rfl) (by decide) rfl E14 (rmAd_0 l Z a0 hw [] b13 b1 da kd T14.heap n0 (own_oldge old14) old14 S_D V_d kE14_b1 ge_b13 E14 F14_ed F14_sz F14_mc) 0 (by decide) (by decide) (by decide) (by decide) (by rw [hml]; rfl) (lenOf pd_11 rfl) rfl (Nat.le_of_eq rfl) (hb hby at_75)
    have M39 := Fr.app M14 N39
    have kE39_b1 := kE14_b1.keep K39
    have kE39_b5 := kE14_b5.keep K39
    have kE39_b9 := kE14_b9.keep K39
    have kE39_b13 := E14.keep K39
    have old39 := old14.keep K39 (allS ge_b13 all0)
    have ge_ea39 : n0 ≤ ea39 := Nat.le_trans (own_oldge old14) ge39
    refine own_go st39 ?_
    show own_Go p e below _ T39 (mkF m 78 #[.val (.int p1), .val (.long q1), .second, .val (.long q2), .second, .val (.long q3), .second, .val (.int (3 : Int32)), .val (.ref b1), .val (.ref b5), .val (.ref b9), .val (.ref b13), .unset, .unset, .unset, .unset, .unset, .unset, .unset, .unset, .unset] [(.int (1 : Int32))])
    refine own_go (fun t_ k_ => XS.pop X39.here hx rfl (hb hby at_78) rfl rfl k_) ?_
    show own_Go p e below _ T39 (mkF m 79 #[.val (.int p1), .val (.long q1), .second, .val (.long q2), .second, .val (.long q3), .second, .val (.int (3 : Int32)), .val (.ref b1), .val (.ref b5), .val (.ref b9), .val (.ref b13), .unset, .unset, .unset, .unset, .unset, .unset, .unset, .unset, .unset] [])
    refine own_go (fun t_ k_ => XS.iload X39.here hx rfl (hb hby at_79) rfl k_) ?_
    show own_Go p e below _ T39 (mkF m 81 #[.val (.int p1), .val (.long q1), .second, .val (.long q2), .second, .val (.long q3), .second, .val (.int (3 : Int32)), .val (.ref b1), .val (.ref b5), .val (.ref b9), .val (.ref b13), .unset, .unset, .unset, .unset, .unset, .unset, .unset, .unset, .unset] [(.int (3 : Int32))])
    refine own_go (fun t_ k_ => XS.iconst X39.here hx rfl (hb hby at_81) k_) ?_
    show own_Go p e below _ T39 (mkF m 82 #[.val (.int p1), .val (.long q1), .second, .val (.long q2), .second, .val (.long q3), .second, .val (.int (3 : Int32)), .val (.ref b1), .val (.ref b5), .val (.ref b9), .val (.ref b13), .unset, .unset, .unset, .unset, .unset, .unset, .unset, .unset, .unset] [(.int (1 : Int32)), (.int (3 : Int32))])
    refine own_go (fun t_ k_ => XS.icmpNo X39.here hx rfl (hb hby at_82) rfl (XT.ii_le_f (by decide)) k_) ?_
    show own_Go p e below _ T39 (mkF m 85 #[.val (.int p1), .val (.long q1), .second, .val (.long q2), .second, .val (.long q3), .second, .val (.int (3 : Int32)), .val (.ref b1), .val (.ref b5), .val (.ref b9), .val (.ref b13), .unset, .unset, .unset, .unset, .unset, .unset, .unset, .unset, .unset] [])
    refine own_go (fun t_ k_ => XS.aload X39.here hx rfl (hb hby at_85) rfl rfl k_) ?_
    show own_Go p e below _ T39 (mkF m 87 #[.val (.int p1), .val (.long q1), .second, .val (.long q2), .second, .val (.long q3), .second, .val (.int (3 : Int32)), .val (.ref b1), .val (.ref b5), .val (.ref b9), .val (.ref b13), .unset, .unset, .unset, .unset, .unset, .unset, .unset, .unset, .unset] [(.ref b13)])
    refine own_go (fun t_ k_ => XS.aload X39.here hx rfl (hb hby at_87) rfl rfl k_) ?_
    show own_Go p e below _ T39 (mkF m 89 #[.val (.int p1), .val (.long q1), .second, .val (.long q2), .second, .val (.long q3), .second, .val (.int (3 : Int32)), .val (.ref b1), .val (.ref b5), .val (.ref b9), .val (.ref b13), .unset, .unset, .unset, .unset, .unset, .unset, .unset, .unset, .unset] [(.ref b5), (.ref b13)])
    obtain ⟨_, T40, L40, X40, ⟨rfl, ⟨E40, F40_ed, F40_sz, F40_mc, V40, K40⟩, N40⟩, st40⟩ := own_callV X39 hx hZ (y := (⟨"java/util/ArrayList", "add", "(Ljava/lang/Object;)Z"⟩ : MethodName)) (z := (⟨"java/util/ArrayList", "add", "(Ljava/lang/Object;)Z"⟩ : MethodName)) (b := b13) (argsL := [(.ref b5)]) (rest := []) (Ls := #[.val (.int p1), .val (.long q1), .second, .val (.long q2), .second, .val (.long q3), .second, .val (.int (3 : Int32)), .val (.ref b1), .val (.ref b5), .val (.ref b9), .val (.ref b13), .unset, .unset, .unset, .unset, .unset, .unset, .unset, .unset, .unset]) hown (own_w hw 99 rfl) (own_w hw 100 rfl) (own_w hw 102 rfl) (notFace_of_selects (args := #[]) (mvT hZ (own_w hw 102 rfl))) (own_w hw 101 rfl) (own_w hw 103 rfl) (own_w hw 21 rfl) (by decide) rfl E39 (rmAd_1 l Z a0 hw [] b13 b5 ea39 kA39 (.ref b1) T39.heap n0 (own_oldge old39) old39 V39 O39 ge_ea39 kE39_b5 ge_b13 E39 F39_ed F39_sz F39_mc) 0 (by decide) (by decide) (by decide) (by decide) (by rw [hml]; rfl) (lenOf pd_11 rfl) rfl (Nat.le_of_eq rfl) (hb hby at_89)
    have M40 := Fr.app M39 N40
    have kE40_b1 := kE39_b1.keep K40
    have kE40_b5 := kE39_b5.keep K40
    have kE40_b9 := kE39_b9.keep K40
    have kE40_b13 := E39.keep K40
    have old40 := old39.keep K40 (allS ge_b13 (allS ge_ea39 all0))
    refine own_go st40 ?_
    show own_Go p e below _ T40 (mkF m 92 #[.val (.int p1), .val (.long q1), .second, .val (.long q2), .second, .val (.long q3), .second, .val (.int (3 : Int32)), .val (.ref b1), .val (.ref b5), .val (.ref b9), .val (.ref b13), .unset, .unset, .unset, .unset, .unset, .unset, .unset, .unset, .unset] [(.int (1 : Int32))])
    refine own_go (fun t_ k_ => XS.pop X40.here hx rfl (hb hby at_92) rfl rfl k_) ?_
    show own_Go p e below _ T40 (mkF m 93 #[.val (.int p1), .val (.long q1), .second, .val (.long q2), .second, .val (.long q3), .second, .val (.int (3 : Int32)), .val (.ref b1), .val (.ref b5), .val (.ref b9), .val (.ref b13), .unset, .unset, .unset, .unset, .unset, .unset, .unset, .unset, .unset] [])
    refine own_go (fun t_ k_ => XS.iload X40.here hx rfl (hb hby at_93) rfl k_) ?_
    show own_Go p e below _ T40 (mkF m 95 #[.val (.int p1), .val (.long q1), .second, .val (.long q2), .second, .val (.long q3), .second, .val (.int (3 : Int32)), .val (.ref b1), .val (.ref b5), .val (.ref b9), .val (.ref b13), .unset, .unset, .unset, .unset, .unset, .unset, .unset, .unset, .unset] [(.int (3 : Int32))])
    refine own_go (fun t_ k_ => XS.iconst X40.here hx rfl (hb hby at_95) k_) ?_
    show own_Go p e below _ T40 (mkF m 96 #[.val (.int p1), .val (.long q1), .second, .val (.long q2), .second, .val (.long q3), .second, .val (.int (3 : Int32)), .val (.ref b1), .val (.ref b5), .val (.ref b9), .val (.ref b13), .unset, .unset, .unset, .unset, .unset, .unset, .unset, .unset, .unset] [(.int (2 : Int32)), (.int (3 : Int32))])
    refine own_go (fun t_ k_ => XS.icmpNo X40.here hx rfl (hb hby at_96) rfl (XT.ii_le_f (by decide)) k_) ?_
    show own_Go p e below _ T40 (mkF m 99 #[.val (.int p1), .val (.long q1), .second, .val (.long q2), .second, .val (.long q3), .second, .val (.int (3 : Int32)), .val (.ref b1), .val (.ref b5), .val (.ref b9), .val (.ref b13), .unset, .unset, .unset, .unset, .unset, .unset, .unset, .unset, .unset] [])
    refine own_go (fun t_ k_ => XS.aload X40.here hx rfl (hb hby at_99) rfl rfl k_) ?_
    show own_Go p e below _ T40 (mkF m 101 #[.val (.int p1), .val (.long q1), .second, .val (.long q2), .second, .val (.long q3), .second, .val (.int (3 : Int32)), .val (.ref b1), .val (.ref b5), .val (.ref b9), .val (.ref b13), .unset, .unset, .unset, .unset, .unset, .unset, .unset, .unset, .unset] [(.ref b13)])
    refine own_go (fun t_ k_ => XS.aload X40.here hx rfl (hb hby at_101) rfl rfl k_) ?_
    show own_Go p e below _ T40 (mkF m 103 #[.val (.int p1), .val (.long q1), .second, .val (.long q2), .second, .val (.long q3), .second, .val (.int (3 : Int32)), .val (.ref b1), .val (.ref b5), .val (.ref b9), .val (.ref b13), .unset, .unset, .unset, .unset, .unset, .unset, .unset, .unset, .unset] [(.ref b9), (.ref b13)])
    obtain ⟨_, T41, L41, X41, ⟨rfl, ⟨E41, F41_ed, F41_sz, F41_mc, V41, K41⟩, N41⟩, st41⟩ := own_callV X40 hx hZ (y := (⟨"java/util/ArrayList", "add", "(Ljava/lang/Object;)Z"⟩ : MethodName)) (z := (⟨"java/util/ArrayList", "add", "(Ljava/lang/Object;)Z"⟩ : MethodName)) (b := b13) (argsL := [(.ref b9)]) (rest := []) (Ls := #[.val (.int p1), .val (.long q1), .second, .val (.long q2), .second, .val (.long q3), .second, .val (.int (3 : Int32)), .val (.ref b1), .val (.ref b5), .val (.ref b9), .val (.ref b13), .unset, .unset, .unset, .unset, .unset, .unset, .unset, .unset, .unset]) hown (own_w hw 99 rfl) (own_w hw 100 rfl) (own_w hw 102 rfl) (notFace_of_selects (args := #[]) (mvT hZ (own_w hw 102 rfl))) (own_w hw 101 rfl) (own_w hw 103 rfl) (own_w hw 21 rfl) (by decide) rfl E40 (rmAd_2 l Z a0 hw [] b13 b9 ea39 kA39 (.ref b1) (.ref b5) T40.heap n0 (own_oldge old40) old40 V40 O39 ge_ea39 kE40_b9 ge_b13 E40 F40_ed F40_sz F40_mc) 0 (by decide) (by decide) (by decide) (by decide) (by rw [hml]; rfl) (lenOf pd_11 rfl) rfl (Nat.le_of_eq rfl) (hb hby at_103)
    have M41 := Fr.app M40 N41
    have kE41_b1 := kE40_b1.keep K41
    have kE41_b5 := kE40_b5.keep K41
    have kE41_b9 := kE40_b9.keep K41
    have kE41_b13 := E40.keep K41
    have old41 := old40.keep K41 (allS ge_b13 (allS ge_ea39 all0))
    refine own_go st41 ?_
    show own_Go p e below _ T41 (mkF m 106 #[.val (.int p1), .val (.long q1), .second, .val (.long q2), .second, .val (.long q3), .second, .val (.int (3 : Int32)), .val (.ref b1), .val (.ref b5), .val (.ref b9), .val (.ref b13), .unset, .unset, .unset, .unset, .unset, .unset, .unset, .unset, .unset] [(.int (1 : Int32))])
    refine own_go (fun t_ k_ => XS.pop X41.here hx rfl (hb hby at_106) rfl rfl k_) ?_
    show own_Go p e below _ T41 (mkF m 107 #[.val (.int p1), .val (.long q1), .second, .val (.long q2), .second, .val (.long q3), .second, .val (.int (3 : Int32)), .val (.ref b1), .val (.ref b5), .val (.ref b9), .val (.ref b13), .unset, .unset, .unset, .unset, .unset, .unset, .unset, .unset, .unset] [])
    refine own_go (fun t_ k_ => XS.aload X41.here hx rfl (hb hby at_107) rfl rfl k_) ?_
    show own_Go p e below _ T41 (mkF m 109 #[.val (.int p1), .val (.long q1), .second, .val (.long q2), .second, .val (.long q3), .second, .val (.int (3 : Int32)), .val (.ref b1), .val (.ref b5), .val (.ref b9), .val (.ref b13), .unset, .unset, .unset, .unset, .unset, .unset, .unset, .unset, .unset] [(.ref b13)])
    obtain ⟨_, T42, L42, X42, ⟨⟨fn42, it42, cK42, rfl, made42, hfn42, E42, F42_th, F42_cu, F42_lr, F42_em, szi42, nf42, K42⟩, N42⟩, st42⟩ := own_callSH X41 hx hZH (y := (⟨"com/example/gridtally/gridtally/core/RowSource", "of", "(Ljava/util/List;)Lcom/example/gridtally/gridtally/core/RowSource;"⟩ : MethodName)) (argsL := [(.ref b13)]) (rest := []) (Ls := #[.val (.int p1), .val (.long q1), .second, .val (.long q2), .second, .val (.long q3), .second, .val (.int (3 : Int32)), .val (.ref b1), .val (.ref b5), .val (.ref b9), .val (.ref b13), .unset, .unset, .unset, .unset, .unset, .unset, .unset, .unset, .unset]) hown (own_w hw 43 rfl) (own_w hw 44 rfl) (own_w hw 45 rfl) (own_w hw 46 rfl) (by decide) rfl (rmOf l Z a0 hw [] b13 (3 : Int32) T41.heap n0 (own_oldge old41) old41 E41 F41_mc) 0 (by decide) (by decide) (by decide) (by decide) (by rw [hml]; rfl) (lenOf pd_15 rfl) rfl (Nat.le_of_eq rfl) (hb hby at_109)
    have M42 := Fr.app M41 N42
    have kE42_b1 := kE41_b1.keep K42
    have kE42_b5 := kE41_b5.keep K42
    have kE42_b9 := kE41_b9.keep K42
    have kE42_b13 := E41.keep K42
    have kF42_b13_elementData := F41_ed.keep K42 nin0
    have kF42_b13_size := F41_sz.keep K42 nin0
    have kF42_b13_modCount := F41_mc.keep K42 nin0
    have kV42_ea39 := V41.keep K42 nin0
    have old42 := old41.keep K42 all0
    have ge_it42 : n0 ≤ it42 := Nat.le_trans (own_oldge old41) szi42
    have ne_b13_it42 : b13 ≠ it42 := Exa.ne kE42_b13 E42 (by decide)
    have ne_fn42_it42 : fn42 ≠ it42 := Ne.symm nf42
    have ne_ea39_it42 : ea39 ≠ it42 := Ne.symm (Exa.neArv E42 kV42_ea39 (own_w hw 57 rfl))
    refine own_go st42 ?_
    show own_Go p e below _ T42 (mkF m 112 #[.val (.int p1), .val (.long q1), .second, .val (.long q2), .second, .val (.long q3), .second, .val (.int (3 : Int32)), .val (.ref b1), .val (.ref b5), .val (.ref b9), .val (.ref b13), .unset, .unset, .unset, .unset, .unset, .unset, .unset, .unset, .unset] [(.ref fn42)])
    refine own_go (fun t_ k_ => XS.astore X42.here hx rfl (hb hby at_112) rfl rfl (l' := #[.val (.int p1), .val (.long q1), .second, .val (.long q2), .second, .val (.long q3), .second, .val (.int (3 : Int32)), .val (.ref b1), .val (.ref b5), .val (.ref b9), .val (.ref b13), .val (.ref fn42), .unset, .unset, .unset, .unset, .unset, .unset, .unset, .unset]) rfl k_) ?_
    show own_Go p e below _ T42 (mkF m 114 #[.val (.int p1), .val (.long q1), .second, .val (.long q2), .second, .val (.long q3), .second, .val (.int (3 : Int32)), .val (.ref b1), .val (.ref b5), .val (.ref b9), .val (.ref b13), .val (.ref fn42), .unset, .unset, .unset, .unset, .unset, .unset, .unset, .unset] [])
    refine own_go (fun t_ k_ => XS.aload X42.here hx rfl (hb hby at_114) rfl rfl k_) ?_
    show own_Go p e below _ T42 (mkF m 116 #[.val (.int p1), .val (.long q1), .second, .val (.long q2), .second, .val (.long q3), .second, .val (.int (3 : Int32)), .val (.ref b1), .val (.ref b5), .val (.ref b9), .val (.ref b13), .val (.ref fn42), .unset, .unset, .unset, .unset, .unset, .unset, .unset, .unset] [(.ref fn42)])
    obtain ⟨_, T43, L43, X43, ⟨rfl, N43, K43, E43, F43_th, F43_cu, F43_lr, F43_em⟩, st43⟩ := own_lam X42 hx hZH (xi := (⟨"com/example/gridtally/gridtally/core/RowSource", "next", "()Lcom/example/gridtally/gridtally/core/Row;"⟩ : MethodName)) (y := (⟨"com/example/gridtally/gridtally/core/RowSource", "lambda$of$0", "(Ljava/util/Iterator;)Lcom/example/gridtally/gridtally/core/Row;"⟩ : MethodName)) (a := fn42) (b := it42) (Ls := #[.val (.int p1), .val (.long q1), .second, .val (.long q2), .second, .val (.long q3), .second, .val (.int (3 : Int32)), .val (.ref b1), .val (.ref b5), .val (.ref b9), .val (.ref b13), .val (.ref fn42), .unset, .unset, .unset, .unset, .unset, .unset, .unset, .unset]) (rest := []) hown (own_w hw 75 rfl) (own_w hw 76 rfl) (mvT hZ (own_w hw 77 rfl)) (own_w hw 79 rfl) (own_w hw 78 rfl) (own_w hw 45 rfl) (own_w hw 74 rfl) own_xi own_yi made42 hfn42 rfl (rmLY_0 l Z a0 hw [] it42 b13 ea39 kA39 (3 : Int32) (3 : Int32) (-1 : Int32) b1 (.ref b5) (.ref b9) T42.heap n0 (own_oldge old42) old42 E42 F42_th F42_cu F42_lr F42_em kE42_b13 kF42_b13_elementData kF42_b13_size kF42_b13_modCount kV42_ea39 ge_it42 (by decide) (by decide) kE42_b1) (fun _ _ _ q => ⟨_, q.1, rfl⟩) 0 (by decide) (by decide) (by decide) (by decide) (by rw [hml]; rfl) (Nat.le_of_eq rfl) (hb hby at_116)
    have M43 := Fr.app M42 N43
    have kE43_b1 := kE42_b1.keep K43
    have kE43_b5 := kE42_b5.keep K43
    have kE43_b9 := kE42_b9.keep K43
    have kE43_b13 := kE42_b13.keep K43
    have kF43_b13_elementData := kF42_b13_elementData.keep K43 (ninS ne_b13_it42 nin0)
    have kF43_b13_size := kF42_b13_size.keep K43 (ninS ne_b13_it42 nin0)
    have kF43_b13_modCount := kF42_b13_modCount.keep K43 (ninS ne_b13_it42 nin0)
    have kE43_it42 := E42.keep K43
    have kV43_ea39 := kV42_ea39.keep K43 (ninS ne_ea39_it42 nin0)
    have old43 := old42.keep K43 (allS ge_it42 all0)
    have hfn_43 := K43.2.1 _ _ hfn42 (ninS ne_fn42_it42 nin0)
    refine own_go st43 ?_
    show own_Go p e below _ T43 (mkF m 121 #[.val (.int p1), .val (.long q1), .second, .val (.long q2), .second, .val (.long q3), .second, .val (.int (3 : Int32)), .val (.ref b1), .val (.ref b5), .val (.ref b9), .val (.ref b13), .val (.ref fn42), .unset, .unset, .unset, .unset, .unset, .unset, .unset, .unset] [(.ref b1)])
    refine own_go (fun t_ k_ => XS.astore X43.here hx rfl (hb hby at_121) rfl rfl (l' := #[.val (.int p1), .val (.long q1), .second, .val (.long q2), .second, .val (.long q3), .second, .val (.int (3 : Int32)), .val (.ref b1), .val (.ref b5), .val (.ref b9), .val (.ref b13), .val (.ref fn42), .val (.ref b1), .unset, .unset, .unset, .unset, .unset, .unset, .unset]) rfl k_) ?_
    show own_Go p e below _ T43 (mkF m 123 #[.val (.int p1), .val (.long q1), .second, .val (.long q2), .second, .val (.long q3), .second, .val (.int (3 : Int32)), .val (.ref b1), .val (.ref b5), .val (.ref b9), .val (.ref b13), .val (.ref fn42), .val (.ref b1), .unset, .unset, .unset, .unset, .unset, .unset, .unset] [])
    refine own_go (fun t_ k_ => XS.aload X43.here hx rfl (hb hby at_123) rfl rfl k_) ?_
    show own_Go p e below _ T43 (mkF m 125 #[.val (.int p1), .val (.long q1), .second, .val (.long q2), .second, .val (.long q3), .second, .val (.int (3 : Int32)), .val (.ref b1), .val (.ref b5), .val (.ref b9), .val (.ref b13), .val (.ref fn42), .val (.ref b1), .unset, .unset, .unset, .unset, .unset, .unset, .unset] [(.ref fn42)])
    obtain ⟨_, T44, L44, X44, ⟨rfl, N44, K44, E44, F44_th, F44_cu, F44_lr, F44_em⟩, st44⟩ := own_lam X43 hx hZH (xi := (⟨"com/example/gridtally/gridtally/core/RowSource", "next", "()Lcom/example/gridtally/gridtally/core/Row;"⟩ : MethodName)) (y := (⟨"com/example/gridtally/gridtally/core/RowSource", "lambda$of$0", "(Ljava/util/Iterator;)Lcom/example/gridtally/gridtally/core/Row;"⟩ : MethodName)) (a := fn42) (b := it42) (Ls := #[.val (.int p1), .val (.long q1), .second, .val (.long q2), .second, .val (.long q3), .second, .val (.int (3 : Int32)), .val (.ref b1), .val (.ref b5), .val (.ref b9), .val (.ref b13), .val (.ref fn42), .val (.ref b1), .unset, .unset, .unset, .unset, .unset, .unset, .unset]) (rest := []) hown (own_w hw 75 rfl) (own_w hw 76 rfl) (mvT hZ (own_w hw 77 rfl)) (own_w hw 79 rfl) (own_w hw 78 rfl) (own_w hw 45 rfl) (own_w hw 74 rfl) own_xi own_yi made42 hfn_43 rfl (rmLY_1 l Z a0 hw [] it42 b13 ea39 kA39 (3 : Int32) (3 : Int32) (0 : Int32) b5 (.ref b1) (.ref b9) T43.heap n0 (own_oldge old43) old43 E43 F43_th F43_cu F43_lr F43_em kE43_b13 kF43_b13_elementData kF43_b13_size kF43_b13_modCount kV43_ea39 ge_it42 (by decide) (by decide) kE43_b5) (fun _ _ _ q => ⟨_, q.1, rfl⟩) 0 (by decide) (by decide) (by decide) (by decide) (by rw [hml]; rfl) (Nat.le_of_eq rfl) (hb hby at_125)
    have M44 := Fr.app M43 N44
    have kE44_b1 := kE43_b1.keep K44
    have kE44_b5 := kE43_b5.keep K44
    have kE44_b9 := kE43_b9.keep K44
    have kE44_b13 := kE43_b13.keep K44
    have kF44_b13_elementData := kF43_b13_elementData.keep K44 (ninS ne_b13_it42 nin0)
    have kF44_b13_size := kF43_b13_size.keep K44 (ninS ne_b13_it42 nin0)
    have kF44_b13_modCount := kF43_b13_modCount.keep K44 (ninS ne_b13_it42 nin0)
    have kE44_it42 := E43.keep K44
    have kV44_ea39 := kV43_ea39.keep K44 (ninS ne_ea39_it42 nin0)
    have old44 := old43.keep K44 (allS ge_it42 all0)
    have hfn_44 := K44.2.1 _ _ hfn_43 (ninS ne_fn42_it42 nin0)
    refine own_go st44 ?_
    show own_Go p e below _ T44 (mkF m 130 #[.val (.int p1), .val (.long q1), .second, .val (.long q2), .second, .val (.long q3), .second, .val (.int (3 : Int32)), .val (.ref b1), .val (.ref b5), .val (.ref b9), .val (.ref b13), .val (.ref fn42), .val (.ref b1), .unset, .unset, .unset, .unset, .unset, .unset, .unset] [(.ref b5)])
    refine own_go (fun t_ k_ => XS.astore X44.here hx rfl (hb hby at_130) rfl rfl (l' := #[.val (.int p1), .val (.long q1), .second, .val (.long q2), .second, .val (.long q3), .second, .val (.int (3 : Int32)), .val (.ref b1), .val (.ref b5), .val (.ref b9), .val (.ref b13), .val (.ref fn42), .val (.ref b1), .val (.ref b5), .unset, .unset, .unset, .unset, .unset, .unset]) rfl k_) ?_
    show own_Go p e below _ T44 (mkF m 132 #[.val (.int p1), .val (.long q1), .second, .val (.long q2), .second, .val (.long q3), .second, .val (.int (3 : Int32)), .val (.ref b1), .val (.ref b5), .val (.ref b9), .val (.ref b13), .val (.ref fn42), .val (.ref b1), .val (.ref b5), .unset, .unset, .unset, .unset, .unset, .unset] [])
    refine own_go (fun t_ k_ => XS.aload X44.here hx rfl (hb hby at_132) rfl rfl k_) ?_
    show own_Go p e below _ T44 (mkF m 134 #[.val (.int p1), .val (.long q1), .second, .val (.long q2), .second, .val (.long q3), .second, .val (.int (3 : Int32)), .val (.ref b1), .val (.ref b5), .val (.ref b9), .val (.ref b13), .val (.ref fn42), .val (.ref b1), .val (.ref b5), .unset, .unset, .unset, .unset, .unset, .unset] [(.ref fn42)])
    obtain ⟨_, T45, L45, X45, ⟨rfl, N45, K45, E45, F45_th, F45_cu, F45_lr, F45_em⟩, st45⟩ := own_lam X44 hx hZH (xi := (⟨"com/example/gridtally/gridtally/core/RowSource", "next", "()Lcom/example/gridtally/gridtally/core/Row;"⟩ : MethodName)) (y := (⟨"com/example/gridtally/gridtally/core/RowSource", "lambda$of$0", "(Ljava/util/Iterator;)Lcom/example/gridtally/gridtally/core/Row;"⟩ : MethodName)) (a := fn42) (b := it42) (Ls := #[.val (.int p1), .val (.long q1), .second, .val (.long q2), .second, .val (.long q3), .second, .val (.int (3 : Int32)), .val (.ref b1), .val (.ref b5), .val (.ref b9), .val (.ref b13), .val (.ref fn42), .val (.ref b1), .val (.ref b5), .unset, .unset, .unset, .unset, .unset, .unset]) (rest := []) hown (own_w hw 75 rfl) (own_w hw 76 rfl) (mvT hZ (own_w hw 77 rfl)) (own_w hw 79 rfl) (own_w hw 78 rfl) (own_w hw 45 rfl) (own_w hw 74 rfl) own_xi own_yi made42 hfn_44 rfl (rmLY_2 l Z a0 hw [] it42 b13 ea39 kA39 (3 : Int32) (3 : Int32) (1 : Int32) b9 (.ref b1) (.ref b5) T44.heap n0 (own_oldge old44) old44 E44 F44_th F44_cu F44_lr F44_em kE44_b13 kF44_b13_elementData kF44_b13_size kF44_b13_modCount kV44_ea39 ge_it42 (by decide) (by decide) kE44_b9) (fun _ _ _ q => ⟨_, q.1, rfl⟩) 0 (by decide) (by decide) (by decide) (by decide) (by rw [hml]; rfl) (Nat.le_of_eq rfl) (hb hby at_134)
    have M45 := Fr.app M44 N45
    have kE45_b1 := kE44_b1.keep K45
    have kE45_b5 := kE44_b5.keep K45
    have kE45_b9 := kE44_b9.keep K45
    have kE45_b13 := kE44_b13.keep K45
    have kF45_b13_elementData := kF44_b13_elementData.keep K45 (ninS ne_b13_it42 nin0)
    have kF45_b13_size := kF44_b13_size.keep K45 (ninS ne_b13_it42 nin0)
    have kF45_b13_modCount := kF44_b13_modCount.keep K45 (ninS ne_b13_it42 nin0)
    have kE45_it42 := E44.keep K45
    have kV45_ea39 := kV44_ea39.keep K45 (ninS ne_ea39_it42 nin0)
    have old45 := old44.keep K45 (allS ge_it42 all0)
    have hfn_45 := K45.2.1 _ _ hfn_44 (ninS ne_fn42_it42 nin0)
    refine own_go st45 ?_
    show own_Go p e below _ T45 (mkF m 139 #[.val (.int p1), .val (.long q1), .second, .val (.long q2), .second, .val (.long q3), .second, .val (.int (3 : Int32)), .val (.ref b1), .val (.ref b5), .val (.ref b9), .val (.ref b13), .val (.ref fn42), .val (.ref b1), .val (.ref b5), .unset, .unset, .unset, .unset, .unset, .unset] [(.ref b9)])
    refine own_go (fun t_ k_ => XS.astore X45.here hx rfl (hb hby at_139) rfl rfl (l' := #[.val (.int p1), .val (.long q1), .second, .val (.long q2), .second, .val (.long q3), .second, .val (.int (3 : Int32)), .val (.ref b1), .val (.ref b5), .val (.ref b9), .val (.ref b13), .val (.ref fn42), .val (.ref b1), .val (.ref b5), .val (.ref b9), .unset, .unset, .unset, .unset, .unset]) rfl k_) ?_
    show own_Go p e below _ T45 (mkF m 141 #[.val (.int p1), .val (.long q1), .second, .val (.long q2), .second, .val (.long q3), .second, .val (.int (3 : Int32)), .val (.ref b1), .val (.ref b5), .val (.ref b9), .val (.ref b13), .val (.ref fn42), .val (.ref b1), .val (.ref b5), .val (.ref b9), .unset, .unset, .unset, .unset, .unset] [])
    refine own_go (fun t_ k_ => XS.aload X45.here hx rfl (hb hby at_141) rfl rfl k_) ?_
    show own_Go p e below _ T45 (mkF m 143 #[.val (.int p1), .val (.long q1), .second, .val (.long q2), .second, .val (.long q3), .second, .val (.int (3 : Int32)), .val (.ref b1), .val (.ref b5), .val (.ref b9), .val (.ref b13), .val (.ref fn42), .val (.ref b1), .val (.ref b5), .val (.ref b9), .unset, .unset, .unset, .unset, .unset] [(.ref fn42)])
    obtain ⟨_, T46, L46, X46, ⟨rfl, N46, e46⟩, st46⟩ := own_lam X45 hx hZH (xi := (⟨"com/example/gridtally/gridtally/core/RowSource", "next", "()Lcom/example/gridtally/gridtally/core/Row;"⟩ : MethodName)) (y := (⟨"com/example/gridtally/gridtally/core/RowSource", "lambda$of$0", "(Ljava/util/Iterator;)Lcom/example/gridtally/gridtally/core/Row;"⟩ : MethodName)) (a := fn42) (b := it42) (Ls := #[.val (.int p1), .val (.long q1), .second, .val (.long q2), .second, .val (.long q3), .second, .val (.int (3 : Int32)), .val (.ref b1), .val (.ref b5), .val (.ref b9), .val (.ref b13), .val (.ref fn42), .val (.ref b1), .val (.ref b5), .val (.ref b9), .unset, .unset, .unset, .unset, .unset]) (rest := []) hown (own_w hw 75 rfl) (own_w hw 76 rfl) (mvT hZ (own_w hw 77 rfl)) (own_w hw 79 rfl) (own_w hw 78 rfl) (own_w hw 45 rfl) (own_w hw 74 rfl) own_xi own_yi made42 hfn_45 rfl (rmLN l Z a0 hw [] it42 b13 (3 : Int32) T45.heap n0 (own_oldge old45) E45 F45_th F45_cu kE45_b13 kF45_b13_size) (fun _ _ _ q => ⟨_, q.1, rfl⟩) 0 (by decide) (by decide) (by decide) (by decide) (by rw [hml]; rfl) (Nat.le_of_eq rfl) (hb hby at_143)
    have M46 := Fr.app M45 N46
    refine own_go st46 ?_
    show own_Go p e below _ T46 (mkF m 148 #[.val (.int p1), .val (.long q1), .second, .val (.long q2), .second, .val (.long q3), .second, .val (.int (3 : Int32)), .val (.ref b1), .val (.ref b5), .val (.ref b9), .val (.ref b13), .val (.ref fn42), .val (.ref b1), .val (.ref b5), .val (.ref b9), .unset, .unset, .unset, .unset, .unset] [.null])
    refine own_go (fun t_ k_ => XS.astore X46.here hx rfl (hb hby at_148) rfl rfl (l' := #[.val (.int p1), .val (.long q1), .second, .val (.long q2), .second, .val (.long q3), .second, .val (.int (3 : Int32)), .val (.ref b1), .val (.ref b5), .val (.ref b9), .val (.ref b13), .val (.ref fn42), .val (.ref b1), .val (.ref b5), .val (.ref b9), .val .null, .unset, .unset, .unset, .unset]) rfl k_) ?_
    show own_Go p e below _ T46 (mkF m 150 #[.val (.int p1), .val (.long q1), .second, .val (.long q2), .second, .val (.long q3), .second, .val (.int (3 : Int32)), .val (.ref b1), .val (.ref b5), .val (.ref b9), .val (.ref b13), .val (.ref fn42), .val (.ref b1), .val (.ref b5), .val (.ref b9), .val .null, .unset, .unset, .unset, .unset] [])
    refine own_go (fun t_ k_ => XS.aload X46.here hx rfl (hb hby at_150) rfl rfl k_) ?_
    show own_Go p e below _ T46 (mkF m 152 #[.val (.int p1), .val (.long q1), .second, .val (.long q2), .second, .val (.long q3), .second, .val (.int (3 : Int32)), .val (.ref b1), .val (.ref b5), .val (.ref b9), .val (.ref b13), .val (.ref fn42), .val (.ref b1), .val (.ref b5), .val (.ref b9), .val .null, .unset, .unset, .unset, .unset] [(.ref fn42)])
    obtain ⟨_, T47, L47, X47, ⟨rfl, N47, e47⟩, st47⟩ := own_lam X46 hx hZH (xi := (⟨"com/example/gridtally/gridtally/core/RowSource", "next", "()Lcom/example/gridtally/gridtally/core/Row;"⟩ : MethodName)) (y := (⟨"com/example/gridtally/gridtally/core/RowSource", "lambda$of$0", "(Ljava/util/Iterator;)Lcom/example/gridtally/gridtally/core/Row;"⟩ : MethodName)) (a := fn42) (b := it42) (Ls := #[.val (.int p1), .val (.long q1), .second, .val (.long q2), .second, .val (.long q3), .second, .val (.int (3 : Int32)), .val (.ref b1), .val (.ref b5), .val (.ref b9), .val (.ref b13), .val (.ref fn42), .val (.ref b1), .val (.ref b5), .val (.ref b9), .val .null, .unset, .unset, .unset, .unset]) (rest := []) hown (own_w hw 75 rfl) (own_w hw 76 rfl) (mvT hZ (own_w hw 77 rfl)) (own_w hw 79 rfl) (own_w hw 78 rfl) (own_w hw 45 rfl) (own_w hw 74 rfl) own_xi own_yi made42 hfn_45 e46 (rmLN l Z a0 hw [] it42 b13 (3 : Int32) T45.heap n0 (own_oldge old45) E45 F45_th F45_cu kE45_b13 kF45_b13_size) (fun _ _ _ q => ⟨_, q.1, rfl⟩) 0 (by decide) (by decide) (by decide) (by decide) (by rw [hml]; rfl) (Nat.le_of_eq rfl) (hb hby at_152)
    have M47 := Fr.app M46 N47
    refine own_go st47 ?_
    show own_Go p e below _ T47 (mkF m 157 #[.val (.int p1), .val (.long q1), .second, .val (.long q2), .second, .val (.long q3), .second, .val (.int (3 : Int32)), .val (.ref b1), .val (.ref b5), .val (.ref b9), .val (.ref b13), .val (.ref fn42), .val (.ref b1), .val (.ref b5), .val (.ref b9), .val .null, .unset, .unset, .unset, .unset] [.null])
    refine own_go (fun t_ k_ => XS.astore X47.here hx rfl (hb hby at_157) rfl rfl (l' := #[.val (.int p1), .val (.long q1), .second, .val (.long q2), .second, .val (.long q3), .second, .val (.int (3 : Int32)), .val (.ref b1), .val (.ref b5), .val (.ref b9), .val (.ref b13), .val (.ref fn42), .val (.ref b1), .val (.ref b5), .val (.ref b9), .val .null, .val .null, .unset, .unset, .unset]) rfl k_) ?_
    show own_Go p e below _ T47 (mkF m 159 #[.val (.int p1), .val (.long q1), .second, .val (.long q2), .second, .val (.long q3), .second, .val (.int (3 : Int32)), .val (.ref b1), .val (.ref b5), .val (.ref b9), .val (.ref b13), .val (.ref fn42), .val (.ref b1), .val (.ref b5), .val (.ref b9), .val .null, .val .null, .unset, .unset, .unset] [])
    refine own_go (fun t_ k_ => XS.iload X47.here hx rfl (hb hby at_159) rfl k_) ?_
    show own_Go p e below _ T47 (mkF m 161 #[.val (.int p1), .val (.long q1), .second, .val (.long q2), .second, .val (.long q3), .second, .val (.int (3 : Int32)), .val (.ref b1), .val (.ref b5), .val (.ref b9), .val (.ref b13), .val (.ref fn42), .val (.ref b1), .val (.ref b5), .val (.ref b9), .val .null, .val .null, .unset, .unset, .unset] [(.int (3 : Int32))])
    refine own_go (fun t_ k_ => XS.ifNo X47.here hx rfl (hb hby at_161) rfl (XT.i0_le_f (by decide)) k_) ?_
    show own_Go p e below _ T47 (mkF m 164 #[.val (.int p1), .val (.long q1), .second, .val (.long q2), .second, .val (.long q3), .second, .val (.int (3 : Int32)), .val (.ref b1), .val (.ref b5), .val (.ref b9), .val (.ref b13), .val (.ref fn42), .val (.ref b1), .val (.ref b5), .val (.ref b9), .val .null, .val .null, .unset, .unset, .unset] [])
    refine own_go (fun t_ k_ => XS.aload X47.here hx rfl (hb hby at_164) rfl rfl k_) ?_
    show own_Go p e below _ T47 (mkF m 166 #[.val (.int p1), .val (.long q1), .second, .val (.long q2), .second, .val (.long q3), .second, .val (.int (3 : Int32)), .val (.ref b1), .val (.ref b5), .val (.ref b9), .val (.ref b13), .val (.ref fn42), .val (.ref b1), .val (.ref b5), .val (.ref b9), .val .null, .val .null, .unset, .unset, .unset] [(.ref b1)])
    refine own_go (fun t_ k_ => XS.aload X47.here hx rfl (hb hby at_166) rfl rfl k_) ?_
    show own_Go p e below _ T47 (mkF m 168 #[.val (.int p1), .val (.long q1), .second, .val (.long q2), .second, .val (.long q3), .second, .val (.int (3 : Int32)), .val (.ref b1), .val (.ref b5), .val (.ref b9), .val (.ref b13), .val (.ref fn42), .val (.ref b1), .val (.ref b5), .val (.ref b9), .val .null, .val .null, .unset, .unset, .unset] [(.ref b1), (.ref b1)])
    refine own_go (fun t_ k_ => XT.acmpNo X47.here hx rfl (hb hby at_168) rfl rfl rfl (XT.aa_ne_f rfl) k_) ?_
    show own_Go p e below _ T47 (mkF m 171 #[.val (.int p1), .val (.long q1), .second, .val (.long q2), .second, .val (.long q3), .second, .val (.int (3 : Int32)), .val (.ref b1), .val (.ref b5), .val (.ref b9), .val (.ref b13), .val (.ref fn42), .val (.ref b1), .val (.ref b5), .val (.ref b9), .val .null, .val .null, .unset, .unset, .unset] [])
    refine own_go (fun t_ k_ => XS.iconst X47.here hx rfl (hb hby at_171) k_) ?_
    show own_Go p e below _ T47 (mkF m 172 #[.val (.int p1), .val (.long q1), .second, .val (.long q2), .second, .val (.long q3), .second, .val (.int (3 : Int32)), .val (.ref b1), .val (.ref b5), .val (.ref b9), .val (.ref b13), .val (.ref fn42), .val (.ref b1), .val (.ref b5), .val (.ref b9), .val .null, .val .null, .unset, .unset, .unset] [(.int (1 : Int32))])
    refine own_go (fun t_ k_ => XS.goto X47.here hx rfl (pc0 := 172) (pc' := 189) rfl (hb hby at_172) (by decide) (by decide) k_) ?_
    show own_Go p e below _ T47 (mkF m 189 #[.val (.int p1), .val (.long q1), .second, .val (.long q2), .second, .val (.long q3), .second, .val (.int (3 : Int32)), .val (.ref b1), .val (.ref b5), .val (.ref b9), .val (.ref b13), .val (.ref fn42), .val (.ref b1), .val (.ref b5), .val (.ref b9), .val .null, .val .null, .unset, .unset, .unset] [(.int (1 : Int32))])
    refine own_go (fun t_ k_ => XS.istore X47.here hx rfl (hb hby at_189) rfl (l' := #[.val (.int p1), .val (.long q1), .second, .val (.long q2), .second, .val (.long q3), .second, .val (.int (3 : Int32)), .val (.ref b1), .val (.ref b5), .val (.ref b9), .val (.ref b13), .val (.ref fn42), .val (.ref b1), .val (.ref b5), .val (.ref b9), .val .null, .val .null, .val (.int (1 : Int32)), .unset, .unset]) rfl k_) ?_
    show own_Go p e below _ T47 (mkF m 191 #[.val (.int p1), .val (.long q1), .second, .val (.long q2), .second, .val (.long q3), .second, .val (.int (3 : Int32)), .val (.ref b1), .val (.ref b5), .val (.ref b9), .val (.ref b13), .val (.ref fn42), .val (.ref b1), .val (.ref b5), .val (.ref b9), .val .null, .val .null, .val (.int (1 : Int32)), .unset, .unset] [])
    refine own_go (fun t_ k_ => XS.iload X47.here hx rfl (hb hby at_191) rfl k_) ?_
    show own_Go p e below _ T47 (mkF m 193 #[.val (.int p1), .val (.long q1), .second, .val (.long q2), .second, .val (.long q3), .second, .val (.int (3 : Int32)), .val (.ref b1), .val (.ref b5), .val (.ref b9), .val (.ref b13), .val (.ref fn42), .val (.ref b1), .val (.ref b5), .val (.ref b9), .val .null, .val .null, .val (.int (1 : Int32)), .unset, .unset] [(.int (3 : Int32))])
    refine own_go (fun t_ k_ => XS.iconst X47.here hx rfl (hb hby at_193) k_) ?_
    show own_Go p e below _ T47 (mkF m 194 #[.val (.int p1), .val (.long q1), .second, .val (.long q2), .second, .val (.long q3), .second, .val (.int (3 : Int32)), .val (.ref b1), .val (.ref b5), .val (.ref b9), .val (.ref b13), .val (.ref fn42), .val (.ref b1), .val (.ref b5), .val (.ref b9), .val .null, .val .null, .val (.int (1 : Int32)), .unset, .unset] [(.int (1 : Int32)), (.int (3 : Int32))])
    refine own_go (fun t_ k_ => XS.icmpNo X47.here hx rfl (hb hby at_194) rfl (XT.ii_le_f (by decide)) k_) ?_
    show own_Go p e below _ T47 (mkF m 197 #[.val (.int p1), .val (.long q1), .second, .val (.long q2), .second, .val (.long q3), .second, .val (.int (3 : Int32)), .val (.ref b1), .val (.ref b5), .val (.ref b9), .val (.ref b13), .val (.ref fn42), .val (.ref b1), .val (.ref b5), .val (.ref b9), .val .null, .val .null, .val (.int (1 : Int32)), .unset, .unset] [])
    refine own_go (fun t_ k_ => XS.aload X47.here hx rfl (hb hby at_197) rfl rfl k_) ?_
    show own_Go p e below _ T47 (mkF m 199 #[.val (.int p1), .val (.long q1), .second, .val (.long q2), .second, .val (.long q3), .second, .val (.int (3 : Int32)), .val (.ref b1), .val (.ref b5), .val (.ref b9), .val (.ref b13), .val (.ref fn42), .val (.ref b1), .val (.ref b5), .val (.ref b9), .val .null, .val .null, .val (.int (1 : Int32)), .unset, .unset] [(.ref b5)])
    refine own_go (fun t_ k_ => XS.aload X47.here hx rfl (hb hby at_199) rfl rfl k_) ?_
    show own_Go p e below _ T47 (mkF m 201 #[.val (.int p1), .val (.long q1), .second, .val (.long q2), .second, .val (.long q3), .second, .val (.int (3 : Int32)), .val (.ref b1), .val (.ref b5), .val (.ref b9), .val (.ref b13), .val (.ref fn42), .val (.ref b1), .val (.ref b5), .val (.ref b9), .val .null, .val .null, .val (.int (1 : Int32)), .unset, .unset] [(.ref b5), (.ref b5)])
    refine own_go (fun t_ k_ => XT.acmpNo X47.here hx rfl (hb hby at_201) rfl rfl rfl (XT.aa_ne_f rfl) k_) ?_
    show own_Go p e below _ T47 (mkF m 204 #[.val (.int p1), .val (.long q1), .second, .val (.long q2), .second, .val (.long q3), .second, .val (.int (3 : Int32)), .val (.ref b1), .val (.ref b5), .val (.ref b9), .val (.ref b13), .val (.ref fn42), .val (.ref b1), .val (.ref b5), .val (.ref b9), .val .null, .val .null, .val (.int (1 : Int32)), .unset, .unset] [])
    refine own_go (fun t_ k_ => XS.iconst X47.here hx rfl (hb hby at_204) k_) ?_
    show own_Go p e below _ T47 (mkF m 205 #[.val (.int p1), .val (.long q1), .second, .val (.long q2), .second, .val (.long q3), .second, .val (.int (3 : Int32)), .val (.ref b1), .val (.ref b5), .val (.ref b9), .val (.ref b13), .val (.ref fn42), .val (.ref b1), .val (.ref b5), .val (.ref b9), .val .null, .val .null, .val (.int (1 : Int32)), .unset, .unset] [(.int (1 : Int32))])
    refine own_go (fun t_ k_ => XS.goto X47.here hx rfl (pc0 := 205) (pc' := 222) rfl (hb hby at_205) (by decide) (by decide) k_) ?_
    show own_Go p e below _ T47 (mkF m 222 #[.val (.int p1), .val (.long q1), .second, .val (.long q2), .second, .val (.long q3), .second, .val (.int (3 : Int32)), .val (.ref b1), .val (.ref b5), .val (.ref b9), .val (.ref b13), .val (.ref fn42), .val (.ref b1), .val (.ref b5), .val (.ref b9), .val .null, .val .null, .val (.int (1 : Int32)), .unset, .unset] [(.int (1 : Int32))])
    refine own_go (fun t_ k_ => XS.istore X47.here hx rfl (hb hby at_222) rfl (l' := #[.val (.int p1), .val (.long q1), .second, .val (.long q2), .second, .val (.long q3), .second, .val (.int (3 : Int32)), .val (.ref b1), .val (.ref b5), .val (.ref b9), .val (.ref b13), .val (.ref fn42), .val (.ref b1), .val (.ref b5), .val (.ref b9), .val .null, .val .null, .val (.int (1 : Int32)), .val (.int (1 : Int32)), .unset]) rfl k_) ?_
    show own_Go p e below _ T47 (mkF m 224 #[.val (.int p1), .val (.long q1), .second, .val (.long q2), .second, .val (.long q3), .second, .val (.int (3 : Int32)), .val (.ref b1), .val (.ref b5), .val (.ref b9), .val (.ref b13), .val (.ref fn42), .val (.ref b1), .val (.ref b5), .val (.ref b9), .val .null, .val .null, .val (.int (1 : Int32)), .val (.int (1 : Int32)), .unset] [])
    refine own_go (fun t_ k_ => XS.iload X47.here hx rfl (hb hby at_224) rfl k_) ?_
    show own_Go p e below _ T47 (mkF m 226 #[.val (.int p1), .val (.long q1), .second, .val (.long q2), .second, .val (.long q3), .second, .val (.int (3 : Int32)), .val (.ref b1), .val (.ref b5), .val (.ref b9), .val (.ref b13), .val (.ref fn42), .val (.ref b1), .val (.ref b5), .val (.ref b9), .val .null, .val .null, .val (.int (1 : Int32)), .val (.int (1 : Int32)), .unset] [(.int (3 : Int32))])
    refine own_go (fun t_ k_ => XS.iconst X47.here hx rfl (hb hby at_226) k_) ?_
    show own_Go p e below _ T47 (mkF m 227 #[.val (.int p1), .val (.long q1), .second, .val (.long q2), .second, .val (.long q3), .second, .val (.int (3 : Int32)), .val (.ref b1), .val (.ref b5), .val (.ref b9), .val (.ref b13), .val (.ref fn42), .val (.ref b1), .val (.ref b5), .val (.ref b9), .val .null, .val .null, .val (.int (1 : Int32)), .val (.int (1 : Int32)), .unset] [(.int (2 : Int32)), (.int (3 : Int32))])
    refine own_go (fun t_ k_ => XS.icmpNo X47.here hx rfl (hb hby at_227) rfl (XT.ii_le_f (by decide)) k_) ?_
    show own_Go p e below _ T47 (mkF m 230 #[.val (.int p1), .val (.long q1), .second, .val (.long q2), .second, .val (.long q3), .second, .val (.int (3 : Int32)), .val (.ref b1), .val (.ref b5), .val (.ref b9), .val (.ref b13), .val (.ref fn42), .val (.ref b1), .val (.ref b5), .val (.ref b9), .val .null, .val .null, .val (.int (1 : Int32)), .val (.int (1 : Int32)), .unset] [])
    refine own_go (fun t_ k_ => XS.aload X47.here hx rfl (hb hby at_230) rfl rfl k_) ?_
    show own_Go p e below _ T47 (mkF m 232 #[.val (.int p1), .val (.long q1), .second, .val (.long q2), .second, .val (.long q3), .second, .val (.int (3 : Int32)), .val (.ref b1), .val (.ref b5), .val (.ref b9), .val (.ref b13), .val (.ref fn42), .val (.ref b1), .val (.ref b5), .val (.ref b9), .val .null, .val .null, .val (.int (1 : Int32)), .val (.int (1 : Int32)), .unset] [(.ref b9)])
    refine own_go (fun t_ k_ => XS.aload X47.here hx rfl (hb hby at_232) rfl rfl k_) ?_
    show own_Go p e below _ T47 (mkF m 234 #[.val (.int p1), .val (.long q1), .second, .val (.long q2), .second, .val (.long q3), .second, .val (.int (3 : Int32)), .val (.ref b1), .val (.ref b5), .val (.ref b9), .val (.ref b13), .val (.ref fn42), .val (.ref b1), .val (.ref b5), .val (.ref b9), .val .null, .val .null, .val (.int (1 : Int32)), .val (.int (1 : Int32)), .unset] [(.ref b9), (.ref b9)])
    refine own_go (fun t_ k_ => XT.acmpNo X47.here hx rfl (hb hby at_234) rfl rfl rfl (XT.aa_ne_f rfl) k_) ?_
    show own_Go p e below _ T47 (mkF m 237 #[.val (.int p1), .val (.long q1), .second, .val (.long q2), .second, .val (.long q3), .second, .val (.int (3 : Int32)), .val (.ref b1), .val (.ref b5), .val (.ref b9), .val (.ref b13), .val (.ref fn42), .val (.ref b1), .val (.ref b5), .val (.ref b9), .val .null, .val .null, .val (.int (1 : Int32)), .val (.int (1 : Int32)), .unset] [])
    refine own_go (fun t_ k_ => XS.iconst X47.here hx rfl (hb hby at_237) k_) ?_
    show own_Go p e below _ T47 (mkF m 238 #[.val (.int p1), .val (.long q1), .second, .val (.long q2), .second, .val (.long q3), .second, .val (.int (3 : Int32)), .val (.ref b1), .val (.ref b5), .val (.ref b9), .val (.ref b13), .val (.ref fn42), .val (.ref b1), .val (.ref b5), .val (.ref b9), .val .null, .val .null, .val (.int (1 : Int32)), .val (.int (1 : Int32)), .unset] [(.int (1 : Int32))])
    refine own_go (fun t_ k_ => XS.goto X47.here hx rfl (pc0 := 238) (pc' := 255) rfl (hb hby at_238) (by decide) (by decide) k_) ?_
    show own_Go p e below _ T47 (mkF m 255 #[.val (.int p1), .val (.long q1), .second, .val (.long q2), .second, .val (.long q3), .second, .val (.int (3 : Int32)), .val (.ref b1), .val (.ref b5), .val (.ref b9), .val (.ref b13), .val (.ref fn42), .val (.ref b1), .val (.ref b5), .val (.ref b9), .val .null, .val .null, .val (.int (1 : Int32)), .val (.int (1 : Int32)), .unset] [(.int (1 : Int32))])
    refine own_go (fun t_ k_ => XS.istore X47.here hx rfl (hb hby at_255) rfl (l' := #[.val (.int p1), .val (.long q1), .second, .val (.long q2), .second, .val (.long q3), .second, .val (.int (3 : Int32)), .val (.ref b1), .val (.ref b5), .val (.ref b9), .val (.ref b13), .val (.ref fn42), .val (.ref b1), .val (.ref b5), .val (.ref b9), .val .null, .val .null, .val (.int (1 : Int32)), .val (.int (1 : Int32)), .val (.int (1 : Int32))]) rfl k_) ?_
    show own_Go p e below _ T47 (mkF m 257 #[.val (.int p1), .val (.long q1), .second, .val (.long q2), .second, .val (.long q3), .second, .val (.int (3 : Int32)), .val (.ref b1), .val (.ref b5), .val (.ref b9), .val (.ref b13), .val (.ref fn42), .val (.ref b1), .val (.ref b5), .val (.ref b9), .val .null, .val .null, .val (.int (1 : Int32)), .val (.int (1 : Int32)), .val (.int (1 : Int32))] [])
    refine own_go (fun t_ k_ => XS.iload X47.here hx rfl (hb hby at_257) rfl k_) ?_
    show own_Go p e below _ T47 (mkF m 259 #[.val (.int p1), .val (.long q1), .second, .val (.long q2), .second, .val (.long q3), .second, .val (.int (3 : Int32)), .val (.ref b1), .val (.ref b5), .val (.ref b9), .val (.ref b13), .val (.ref fn42), .val (.ref b1), .val (.ref b5), .val (.ref b9), .val .null, .val .null, .val (.int (1 : Int32)), .val (.int (1 : Int32)), .val (.int (1 : Int32))] [(.int (1 : Int32))])
    refine own_go (fun t_ k_ => XS.ifNo X47.here hx rfl (hb hby at_259) rfl (XT.i0_eq_f (by decide)) k_) ?_
    show own_Go p e below _ T47 (mkF m 262 #[.val (.int p1), .val (.long q1), .second, .val (.long q2), .second, .val (.long q3), .second, .val (.int (3 : Int32)), .val (.ref b1), .val (.ref b5), .val (.ref b9), .val (.ref b13), .val (.ref fn42), .val (.ref b1), .val (.ref b5), .val (.ref b9), .val .null, .val .null, .val (.int (1 : Int32)), .val (.int (1 : Int32)), .val (.int (1 : Int32))] [])
    refine own_go (fun t_ k_ => XS.iload X47.here hx rfl (hb hby at_262) rfl k_) ?_
    show own_Go p e below _ T47 (mkF m 264 #[.val (.int p1), .val (.long q1), .second, .val (.long q2), .second, .val (.long q3), .second, .val (.int (3 : Int32)), .val (.ref b1), .val (.ref b5), .val (.ref b9), .val (.ref b13), .val (.ref fn42), .val (.ref b1), .val (.ref b5), .val (.ref b9), .val .null, .val .null, .val (.int (1 : Int32)), .val (.int (1 : Int32)), .val (.int (1 : Int32))] [(.int (1 : Int32))])
    refine own_go (fun t_ k_ => XS.ifNo X47.here hx rfl (hb hby at_264) rfl (XT.i0_eq_f (by decide)) k_) ?_
    show own_Go p e below _ T47 (mkF m 267 #[.val (.int p1), .val (.long q1), .second, .val (.long q2), .second, .val (.long q3), .second, .val (.int (3 : Int32)), .val (.ref b1), .val (.ref b5), .val (.ref b9), .val (.ref b13), .val (.ref fn42), .val (.ref b1), .val (.ref b5), .val (.ref b9), .val .null, .val .null, .val (.int (1 : Int32)), .val (.int (1 : Int32)), .val (.int (1 : Int32))] [])
    refine own_go (fun t_ k_ => XS.iload X47.here hx rfl (hb hby at_267) rfl k_) ?_
    show own_Go p e below _ T47 (mkF m 269 #[.val (.int p1), .val (.long q1), .second, .val (.long q2), .second, .val (.long q3), .second, .val (.int (3 : Int32)), .val (.ref b1), .val (.ref b5), .val (.ref b9), .val (.ref b13), .val (.ref fn42), .val (.ref b1), .val (.ref b5), .val (.ref b9), .val .null, .val .null, .val (.int (1 : Int32)), .val (.int (1 : Int32)), .val (.int (1 : Int32))] [(.int (1 : Int32))])
    refine own_go (fun t_ k_ => XS.ifNo X47.here hx rfl (hb hby at_269) rfl (XT.i0_eq_f (by decide)) k_) ?_
    show own_Go p e below _ T47 (mkF m 272 #[.val (.int p1), .val (.long q1), .second, .val (.long q2), .second, .val (.long q3), .second, .val (.int (3 : Int32)), .val (.ref b1), .val (.ref b5), .val (.ref b9), .val (.ref b13), .val (.ref fn42), .val (.ref b1), .val (.ref b5), .val (.ref b9), .val .null, .val .null, .val (.int (1 : Int32)), .val (.int (1 : Int32)), .val (.int (1 : Int32))] [])
    refine own_go (fun t_ k_ => XS.aload X47.here hx rfl (hb hby at_272) rfl rfl k_) ?_
    show own_Go p e below _ T47 (mkF m 274 #[.val (.int p1), .val (.long q1), .second, .val (.long q2), .second, .val (.long q3), .second, .val (.int (3 : Int32)), .val (.ref b1), .val (.ref b5), .val (.ref b9), .val (.ref b13), .val (.ref fn42), .val (.ref b1), .val (.ref b5), .val (.ref b9), .val .null, .val .null, .val (.int (1 : Int32)), .val (.int (1 : Int32)), .val (.int (1 : Int32))] [.null])
    refine own_go (fun t_ k_ => XS.ifnonnullNo X47.here hx rfl (hb hby at_274) rfl k_) ?_
    show own_Go p e below _ T47 (mkF m 277 #[.val (.int p1), .val (.long q1), .second, .val (.long q2), .second, .val (.long q3), .second, .val (.int (3 : Int32)), .val (.ref b1), .val (.ref b5), .val (.ref b9), .val (.ref b13), .val (.ref fn42), .val (.ref b1), .val (.ref b5), .val (.ref b9), .val .null, .val .null, .val (.int (1 : Int32)), .val (.int (1 : Int32)), .val (.int (1 : Int32))] [])
    refine own_go (fun t_ k_ => XS.aload X47.here hx rfl (hb hby at_277) rfl rfl k_) ?_
    show own_Go p e below _ T47 (mkF m 279 #[.val (.int p1), .val (.long q1), .second, .val (.long q2), .second, .val (.long q3), .second, .val (.int (3 : Int32)), .val (.ref b1), .val (.ref b5), .val (.ref b9), .val (.ref b13), .val (.ref fn42), .val (.ref b1), .val (.ref b5), .val (.ref b9), .val .null, .val .null, .val (.int (1 : Int32)), .val (.int (1 : Int32)), .val (.int (1 : Int32))] [.null])
    refine own_go (fun t_ k_ => XS.ifnonnullNo X47.here hx rfl (hb hby at_279) rfl k_) ?_
    show own_Go p e below _ T47 (mkF m 282 #[.val (.int p1), .val (.long q1), .second, .val (.long q2), .second, .val (.long q3), .second, .val (.int (3 : Int32)), .val (.ref b1), .val (.ref b5), .val (.ref b9), .val (.ref b13), .val (.ref fn42), .val (.ref b1), .val (.ref b5), .val (.ref b9), .val .null, .val .null, .val (.int (1 : Int32)), .val (.int (1 : Int32)), .val (.int (1 : Int32))] [])
    refine own_go (fun t_ k_ => XS.aload X47.here hx rfl (hb hby at_282) rfl rfl k_) ?_
    show own_Go p e below _ T47 (mkF m 284 #[.val (.int p1), .val (.long q1), .second, .val (.long q2), .second, .val (.long q3), .second, .val (.int (3 : Int32)), .val (.ref b1), .val (.ref b5), .val (.ref b9), .val (.ref b13), .val (.ref fn42), .val (.ref b1), .val (.ref b5), .val (.ref b9), .val .null, .val .null, .val (.int (1 : Int32)), .val (.int (1 : Int32)), .val (.int (1 : Int32))] [(.ref b13)])
    obtain ⟨_, T48, L48, X48, ⟨rfl, N48, e48⟩, st48⟩ := own_callV X47 hx hZ (y := (⟨"java/util/ArrayList", "size", "()I"⟩ : MethodName)) (z := (⟨"java/util/ArrayList", "size", "()I"⟩ : MethodName)) (b := b13) (argsL := []) (rest := []) (Ls := #[.val (.int p1), .val (.long q1), .second, .val (.long q2), .second, .val (.long q3), .second, .val (.int (3 : Int32)), .val (.ref b1), .val (.ref b5), .val (.ref b9), .val (.ref b13), .val (.ref fn42), .val (.ref b1), .val (.ref b5), .val (.ref b9), .val .null, .val .null, .val (.int (1 : Int32)), .val (.int (1 : Int32)), .val (.int (1 : Int32))]) hown (own_w hw 93 rfl) (own_w hw 94 rfl) (own_w hw 96 rfl) (notFace_of_selects (args := #[]) (mvT hZ (own_w hw 96 rfl))) (own_w hw 95 rfl) (own_w hw 97 rfl) (own_w hw 21 rfl) (by decide) e47 kE45_b13 (rmSz l Z a0 hw [] b13 (3 : Int32) T45.heap n0 (own_oldge old45) kE45_b13 kF45_b13_size) 0 (by decide) (by decide) (by decide) (by decide) (by rw [hml]; rfl) (lenOf pd_0 rfl) rfl (Nat.le_of_eq rfl) (hb hby at_284)
    have M48 := Fr.app M47 N48
    refine own_go st48 ?_
    show own_Go p e below _ T48 (mkF m 287 #[.val (.int p1), .val (.long q1), .second, .val (.long q2), .second, .val (.long q3), .second, .val (.int (3 : Int32)), .val (.ref b1), .val (.ref b5), .val (.ref b9), .val (.ref b13), .val (.ref fn42), .val (.ref b1), .val (.ref b5), .val (.ref b9), .val .null, .val .null, .val (.int (1 : Int32)), .val (.int (1 : Int32)), .val (.int (1 : Int32))] [(.int (3 : Int32))])
    refine own_go (fun t_ k_ => XS.iload X48.here hx rfl (hb hby at_287) rfl k_) ?_
    show own_Go p e below _ T48 (mkF m 289 #[.val (.int p1), .val (.long q1), .second, .val (.long q2), .second, .val (.long q3), .second, .val (.int (3 : Int32)), .val (.ref b1), .val (.ref b5), .val (.ref b9), .val (.ref b13), .val (.ref fn42), .val (.ref b1), .val (.ref b5), .val (.ref b9), .val .null, .val .null, .val (.int (1 : Int32)), .val (.int (1 : Int32)), .val (.int (1 : Int32))] [(.int (3 : Int32)), (.int (3 : Int32))])
    refine own_go (fun t_ k_ => XS.icmpNo X48.here hx rfl (hb hby at_289) rfl (XT.ii_ne_f (by decide)) k_) ?_
    show own_Go p e below _ T48 (mkF m 292 #[.val (.int p1), .val (.long q1), .second, .val (.long q2), .second, .val (.long q3), .second, .val (.int (3 : Int32)), .val (.ref b1), .val (.ref b5), .val (.ref b9), .val (.ref b13), .val (.ref fn42), .val (.ref b1), .val (.ref b5), .val (.ref b9), .val .null, .val .null, .val (.int (1 : Int32)), .val (.int (1 : Int32)), .val (.int (1 : Int32))] [])
    refine own_go (fun t_ k_ => XS.iconst X48.here hx rfl (hb hby at_292) k_) ?_
    show own_Go p e below _ T48 (mkF m 293 #[.val (.int p1), .val (.long q1), .second, .val (.long q2), .second, .val (.long q3), .second, .val (.int (3 : Int32)), .val (.ref b1), .val (.ref b5), .val (.ref b9), .val (.ref b13), .val (.ref fn42), .val (.ref b1), .val (.ref b5), .val (.ref b9), .val .null, .val .null, .val (.int (1 : Int32)), .val (.int (1 : Int32)), .val (.int (1 : Int32))] [(.int (1 : Int32))])
    refine own_go (fun t_ k_ => XS.goto X48.here hx rfl (pc0 := 293) (pc' := 297) rfl (hb hby at_293) (by decide) (by decide) k_) ?_
    show own_Go p e below _ T48 (mkF m 297 #[.val (.int p1), .val (.long q1), .second, .val (.long q2), .second, .val (.long q3), .second, .val (.int (3 : Int32)), .val (.ref b1), .val (.ref b5), .val (.ref b9), .val (.ref b13), .val (.ref fn42), .val (.ref b1), .val (.ref b5), .val (.ref b9), .val .null, .val .null, .val (.int (1 : Int32)), .val (.int (1 : Int32)), .val (.int (1 : Int32))] [(.int (1 : Int32))])
    refine own_retZ X48 hx hlk hret (hb hby at_297) (Or.inr rfl) (by decide) (by decide) ?_
    exact ⟨rfl, M48⟩
set_option maxRecDepth 65536 in
set_option maxHeartbeats 40000000 in
theorem comes_1 {Post : Tables → Env → Array Value → State → Outcome → State → Prop} (hpost : ∀ tb e args s v u, (limb_1_1.after args s (.returned v) u = true ∧ limb_1_2.after args s (.returned v) u = true ∧ True) → FrameEnd s (.returned v) u (Jvm.fieldLocs frame_1_writes args s ++ Jvm.arrayLocs frame_1_arrays args s ++ Jvm.staticLocs frame_1_statics s) 40 128 → Post tb e args s (.returned v) u) :
    ArmFor flags0 classFile x code maxLocals ret World_1 tables_1 room_1 Calls_1 rest_1 Pre_1 Post := by
  intro l hfl _ _ p e ha hc hk s m args below hf hA hF happ hP
  obtain ⟨hcalls, hrest, hpre⟩ := hP
  obtain ⟨-, -, -, hnamed, -, -, -, hat⟩ := (Spec.applies_iff hf).mp happ
  obtain ⟨hg, hn⟩ := and_e (Cond.before_iff.mp (show (Jvm.Cond.and given_1 narrow_1).before args s = true from hpre))
  obtain ⟨g1, g2⟩ := and_e hg
  obtain ⟨g3, g4⟩ := and_e g2
  obtain ⟨g5, g6⟩ := and_e g4
  obtain ⟨g7, g8⟩ := and_e g6
  obtain ⟨w0, w1, w2, w3, rfl⟩ : ∃ w0 w1 w2 w3 : Value, args = #[w0, w1, w2, w3] := by
    have hs : args.size = 4 := by simpa [Cond.value, given_1] using g1
    obtain ⟨L⟩ := args
    match L, hs with
    | [w0, w1, w2, w3], _ => exact ⟨w0, w1, w2, w3, rfl⟩
  have hw := fun d (hd : d ∈ tables_1) => atoms_spec (ws := Jvm.Cond.code x code maxLocals ret :: tables_1) hat d (List.mem_cons_of_mem _ hd)
  have hfit : Fit s := fun {y c} hc i hi => by
    obtain ⟨ha, rfl⟩ := Array.getElem?_eq_some_iff.mp hc
    have q := List.all_eq_true.mp ((Array.all_eq_true_iff_forall_mem.mp hF) _ (Array.getElem_mem ha)) i (List.mem_range.mpr hi)
    simpa [Array.getElem?_eq_getElem hi] using q
  obtain ⟨i0, ei0⟩ := is_v g3
  obtain rfl : w0 = (.int i0) := Option.some.inj ei0
  obtain ⟨i1, ei1⟩ := isL_v g5
  obtain rfl : w1 = (.long i1) := Option.some.inj ei1
  obtain ⟨i2, ei2⟩ := isL_v g7
  obtain rfl : w2 = (.long i2) := Option.some.inj ei2
  obtain ⟨i3, ei3⟩ := isL_v g8
  obtain rfl : w3 = (.long i3) := Option.some.inj ei3
  obtain ⟨hsets, hown0⟩ := atoms_of _ (rest_1_c_eq ▸ (show rest_1_c.before _ s = true from hrest))
  have z6 := Cond.before_iff.mp (own_w hsets 6 rfl)
  have z8 := Cond.before_iff.mp (own_w hsets 8 rfl)
  obtain ⟨da, evd⟩ := arr_v z6
  obtain ⟨cd, A_D⟩ := Arr.start evd z6
  have S_D := Sta.start evd (Or.inr ⟨(own_w hw 21 rfl), own_w hsets 2 rfl⟩)
  obtain ⟨hl1, hl2⟩ := own_lenOf evd A_D (own_eqI z8)
  have V_d := Arv.start (z := 0) (vs := []) (dv := .null) hfit A_D hl1 hl2 (by decide) rfl trivial
  obtain ⟨n, o, h1, h2, h3, _, L, rfl, ⟨rfl, N⟩, hq⟩ := rm0 l s _ hw tables_1 i0 i1 i2 i3 da cd.cls s.heap s.heap.size (Nat.le_refl _) (Old.start s) S_D V_d p e ha hc hk s m _ below hf ((Spec.applies_iff_loose hf).mp happ).1 ⟨rfl, State.WarmedH.refl s, rfl⟩ trivial
  refine ⟨n, _, h1, h2, h3, hpost _ _ _ _ _ _ ⟨Cond.after_iff.mpr rfl, Cond.after_iff.mpr (eq_i res_at (Term.int_eval (1)) rfl), trivial⟩ ⟨hq.1, hq.2.1, (hq.2.2.sift fun y hy => Or.inr (N y hy)).mono (by decide) (by decide)⟩⟩
theorem main_1_1 : Claimed_1_1 := comes_1 fun _ _ _ _ _ _ h hF => ⟨h.1, wide hF⟩
theorem main_1_2 : Claimed_1_2 := comes_1 fun _ _ _ _ _ _ h hF => ⟨h.2.1, wide hF⟩
end Jvm.Pilot.@@N@@
namespace Jvm.Pilot.@@N@@
open Jvm Jvm.ClassFile Sem Op Lib Jvm.Free Jvm.Stand Jvm.Pilot.@@N@@.Jvm.D
/-! MADE BY PROGRAM (witnessworld.py) out of the Statement's table words and the real class files: 23 classes; the members and pool entries that the words name. The judged class is class 1, her method 1. -/
namespace start1
open Jvm.ClassFile
def u (s : String) : CpInfo := .utf8 (stringToUtf16 s)
/-- a pool by its gaps: so many unusable entries, then the entry; so many at the end -/
def gap : Nat → List CpInfo → List CpInfo
  | 0, r => r
  | n + 1, r => .unusable :: gap n r
def poolList (es : List (Nat × CpInfo)) (last : Nat) : List CpInfo := es.foldr (fun e r => gap e.1 (e.2 :: r)) (gap last [])
def pool (es : List (Nat × CpInfo)) (last : Nat) : Array CpInfo := ⟨poolList es last⟩
def fileOf (pool : Array CpInfo) (this : Nat) (attrs : Array Attribute := #[]) (ms : Array MethodInfo := #[]) (fl : Nat := 33) (sup : Nat := 0) (ifs : Array Nat := #[]) (fds : Array FieldInfo := #[]) : ClassFile where
  minorVersion := 0
  majorVersion := 65
  constantPool := pool
  accessFlags := fl
  thisClass := this
  superClass := sup
  interfaces := ifs
  fields := fds
  methods := ms
  attributes := attrs
def plain (name : String) (sup : Option ClassId) : Class where
  name := name
  kind := .ordinary
  loader := none
  accessFlags := 33
  super := sup
  interfaces := #[]
  cf := none
  fields := #[]
  methods := #[]
  instanceTypes := #[]
  staticTypes := #[]
  resolved := #[]
  callSites := []
  init := .initialized
  statics := none
  mirror := none

def pool0 : Array CpInfo := pool [(5, u "<init>"), (0, u "()V"), (1, .class_ 10), (1, u "java/lang/Object")] 113

def k0c0 : Code := { maxStack := 0, maxLocals := 1, code := object_method_1_code, exceptionTable := #[], attributes := #[] }
def k0m0 : Method := { name := "<init>", desc := "()V", sig := { parameters := [], returnType := none }, accessFlags := 1, code := some k0c0 }
/-- java/lang/Object -/
def k0 : Class := { plain "java/lang/Object" none with
  accessFlags := 33
  interfaces := #[]
  cf := some (fileOf pool0 8 #[] #[{ accessFlags := 1, nameIndex := 5, descriptorIndex := 6, attributes := #[] }] 33 0 #[] #[])
  fields := #[]
  methods := #[k0m0]
  instanceTypes := #[]
  staticTypes := #[]
  resolved := Array.replicate 124 none
  statics := none }

def pool1 : Array CpInfo := pool [(2, .class_ 4), (0, .nameAndType 5 6), (0, u "java/lang/Object"), (0, u "<init>"), (0, u "()V"), (0, .class_ 8), (0, u "com/example/gridtally/gridtally/core/Row"), (0, .methodref 7 10), (0, .nameAndType 5 11), (0, u "(Lcom/example/gridtally/gridtally/core/CsvFile;J[B[I)V"), (0, .class_ 13), (0, u "java/util/ArrayList"), (0, .methodref 12 3), (0, .methodref 12 16), (0, .nameAndType 17 18), (0, u "add"), (0, u "(Ljava/lang/Object;)Z"), (0, .interfaceMethodref 20 21), (0, .class_ 22), (0, .nameAndType 23 24), (0, u "com/example/gridtally/gridtally/core/RowSource"), (0, u "of"), (0, u "(Ljava/util/List;)Lcom/example/gridtally/gridtally/core/RowSource;"), (0, .interfaceMethodref 20 26), (0, .nameAndType 27 28), (0, u "next"), (0, u "()Lcom/example/gridtally/gridtally/core/Row;"), (0, .methodref 12 30), (0, .nameAndType 31 32), (0, u "size"), (0, u "()I"), (0, .class_ 34), (0, u "com/example/gridtally/gridtally/core/RowSourceOfPinLaw"), (2, u "law"), (0, u "(IJJJ)Z")] 6

def k1m0 : Method := { name := "<init>", desc := "()V", sig := { parameters := [], returnType := none }, accessFlags := 2, code := none }
def k1c1 : Code := { maxStack := 7, maxLocals := 21, code := code, exceptionTable := #[], attributes := #[] }
def k1m1 : Method := { name := "law", desc := "(IJJJ)Z", sig := { parameters := [.int, .long, .long, .long], returnType := some .boolean }, accessFlags := 9, code := some k1c1 }
/-- com/example/gridtally/gridtally/core/RowSourceOfPinLaw -/
def k1 : Class := { plain "com/example/gridtally/gridtally/core/RowSourceOfPinLaw" (some 0) with
  accessFlags := 49
  interfaces := #[]
  cf := some (fileOf pool1 33 #[] #[{ accessFlags := 2, nameIndex := 5, descriptorIndex := 6, attributes := #[] }, { accessFlags := 9, nameIndex := 37, descriptorIndex := 38, attributes := #[] }] 49 2 #[] #[])
  fields := #[]
  methods := #[k1m0, k1m1]
  instanceTypes := #[]
  staticTypes := #[]
  resolved := Array.replicate 45 none
  statics := none }

def pool2 : Array CpInfo := pool [(1, .methodref 2 3), (0, .class_ 4), (0, .nameAndType 5 6), (0, u "java/lang/Object"), (0, u "<init>"), (0, u "()V"), (0, .fieldref 8 9), (0, .class_ 10), (0, .nameAndType 11 12), (0, u "com/example/gridtally/gridtally/core/Row"), (0, u "source"), (0, u "Lcom/example/gridtally/gridtally/core/CsvFile;"), (0, .fieldref 8 14), (0, .nameAndType 15 16), (0, u "line"), (0, u "J"), (0, .fieldref 8 18), (0, .nameAndType 19 20), (0, u "bytes"), (0, u "[B"), (0, .fieldref 8 22), (0, .nameAndType 23 24), (0, u "ends"), (0, u "[I"), (153, u "(Lcom/example/gridtally/gridtally/core/CsvFile;J[B[I)V")] 48

def k2c0 : Code := { maxStack := 3, maxLocals := 6, code := prog_47_method_1_code, exceptionTable := #[], attributes := #[] }
def k2m0 : Method := { name := "<init>", desc := "(Lcom/example/gridtally/gridtally/core/CsvFile;J[B[I)V", sig := { parameters := [(.object "com/example/gridtally/gridtally/core/CsvFile"), .long, (.array .byte), (.array .int)], returnType := none }, accessFlags := 0, code := some k2c0 }
/-- com/example/gridtally/gridtally/core/Row -/
def k2 : Class := { plain "com/example/gridtally/gridtally/core/Row" (some 0) with
  accessFlags := 49
  interfaces := #[]
  cf := some (fileOf pool2 8 #[] #[{ accessFlags := 0, nameIndex := 5, descriptorIndex := 178, attributes := #[] }] 49 2 #[] #[{ accessFlags := 18, nameIndex := 11, descriptorIndex := 12, attributes := #[] }, { accessFlags := 18, nameIndex := 15, descriptorIndex := 16, attributes := #[] }, { accessFlags := 18, nameIndex := 19, descriptorIndex := 20, attributes := #[] }, { accessFlags := 18, nameIndex := 23, descriptorIndex := 24, attributes := #[] }])
  fields := #[{ name := "source", type := (.object "com/example/gridtally/gridtally/core/CsvFile"), accessFlags := 18, slot := 0, constantValue := 0 }, { name := "line", type := .long, accessFlags := 18, slot := 1, constantValue := 0 }, { name := "bytes", type := (.array .byte), accessFlags := 18, slot := 2, constantValue := 0 }, { name := "ends", type := (.array .int), accessFlags := 18, slot := 3, constantValue := 0 }]
  methods := #[k2m0]
  instanceTypes := #[(.object "com/example/gridtally/gridtally/core/CsvFile"), .long, (.array .byte), (.array .int)]
  staticTypes := #[]
  resolved := Array.replicate 227 none
  statics := none }

def pool3 : Array CpInfo := pool [(8, .class_ 10), (1, u "java/lang/Iterable"), (24, .class_ 36), (0, u "java/lang/Object")] 25

/-- java/lang/Iterable -/
def k3 : Class := { plain "java/lang/Iterable" (some 0) with
  accessFlags := 1537
  interfaces := #[]
  cf := some (fileOf pool3 8 #[] #[] 1537 35 #[] #[])
  fields := #[]
  methods := #[]
  instanceTypes := #[]
  staticTypes := #[]
  resolved := Array.replicate 62 none
  statics := none }

def pool4 : Array CpInfo := pool [(10, .class_ 12), (1, u "java/util/Collection"), (47, .class_ 61), (0, u "java/lang/Object"), (0, .class_ 63), (0, u "java/lang/Iterable")] 51

/-- java/util/Collection -/
def k4 : Class := { plain "java/util/Collection" (some 0) with
  accessFlags := 1537
  interfaces := #[3]
  cf := some (fileOf pool4 10 #[] #[] 1537 60 #[62] #[])
  fields := #[]
  methods := #[]
  instanceTypes := #[]
  staticTypes := #[]
  resolved := Array.replicate 115 none
  statics := none }

def pool5 : Array CpInfo := pool [(1, .methodref 2 3), (0, .class_ 4), (0, .nameAndType 5 6), (0, u "java/lang/Object"), (0, u "<init>"), (0, u "()V"), (1, .class_ 10), (1, u "java/util/AbstractCollection"), (66, .class_ 78), (0, u "java/util/Collection")] 81

def k5c0 : Code := { maxStack := 1, maxLocals := 1, code := jdk_22_method_1_code, exceptionTable := #[], attributes := #[] }
def k5m0 : Method := { name := "<init>", desc := "()V", sig := { parameters := [], returnType := none }, accessFlags := 4, code := some k5c0 }
/-- java/util/AbstractCollection -/
def k5 : Class := { plain "java/util/AbstractCollection" (some 0) with
  accessFlags := 1057
  interfaces := #[4]
  cf := some (fileOf pool5 8 #[] #[{ accessFlags := 4, nameIndex := 5, descriptorIndex := 6, attributes := #[] }] 1057 2 #[77] #[])
  fields := #[]
  methods := #[k5m0]
  instanceTypes := #[]
  staticTypes := #[]
  resolved := Array.replicate 160 none
  statics := none }

def pool6 : Array CpInfo := pool [(8, .class_ 10), (1, u "java/util/SequencedCollection"), (15, .class_ 27), (0, u "java/lang/Object"), (0, .class_ 29), (0, u "java/util/Collection")] 27

/-- java/util/SequencedCollection -/
def k6 : Class := { plain "java/util/SequencedCollection" (some 0) with
  accessFlags := 1537
  interfaces := #[4]
  cf := some (fileOf pool6 8 #[] #[] 1537 26 #[28] #[])
  fields := #[]
  methods := #[]
  instanceTypes := #[]
  staticTypes := #[]
  resolved := Array.replicate 57 none
  statics := none }

def pool7 : Array CpInfo := pool [(8, .class_ 10), (1, u "java/util/List"), (92, .class_ 104), (0, u "java/lang/Object"), (15, .class_ 121), (0, u "java/util/SequencedCollection"), (1, u "iterator"), (0, u "()Ljava/util/Iterator;")] 126

def k7m0 : Method := { name := "iterator", desc := "()Ljava/util/Iterator;", sig := { parameters := [], returnType := some (.object "java/util/Iterator") }, accessFlags := 1025, code := none }
/-- java/util/List -/
def k7 : Class := { plain "java/util/List" (some 0) with
  accessFlags := 1537
  interfaces := #[6]
  cf := some (fileOf pool7 8 #[] #[{ accessFlags := 1025, nameIndex := 123, descriptorIndex := 124, attributes := #[] }] 1537 103 #[120] #[])
  fields := #[]
  methods := #[k7m0]
  instanceTypes := #[]
  staticTypes := #[]
  resolved := Array.replicate 251 none
  statics := none }

def pool8 : Array CpInfo := pool [(1, .methodref 2 3), (0, .class_ 4), (0, .nameAndType 5 6), (0, u "java/util/AbstractCollection"), (0, u "<init>"), (0, u "()V"), (0, .fieldref 8 9), (0, .class_ 10), (0, .nameAndType 11 12), (0, u "java/util/AbstractList"), (0, u "modCount"), (0, u "I"), (64, .class_ 78), (0, u "java/util/AbstractList$Itr"), (3, .class_ 83), (0, u "java/util/AbstractList$ListItr"), (9, .class_ 94), (0, u "java/util/AbstractList$RandomAccessSubList"), (3, .class_ 99), (0, u "java/util/AbstractList$SubList"), (33, .class_ 134), (0, u "java/util/List"), (73, .class_ 209), (0, u "java/util/AbstractList$SubList$1"), (0, .class_ 211), (0, u "java/util/AbstractList$RandomAccessSpliterator")] 6

def k8c0 : Code := { maxStack := 2, maxLocals := 1, code := jdk_39_method_1_code, exceptionTable := #[], attributes := #[] }
def k8m0 : Method := { name := "<init>", desc := "()V", sig := { parameters := [], returnType := none }, accessFlags := 4, code := some k8c0 }
/-- java/util/AbstractList -/
def k8 : Class := { plain "java/util/AbstractList" (some 5) with
  accessFlags := 1057
  interfaces := #[7]
  cf := some (fileOf pool8 8 #[.nestMembers #[93, 98, 208, 210, 82, 77]] #[{ accessFlags := 4, nameIndex := 5, descriptorIndex := 6, attributes := #[] }] 1057 2 #[133] #[{ accessFlags := 132, nameIndex := 11, descriptorIndex := 12, attributes := #[] }])
  fields := #[{ name := "modCount", type := .int, accessFlags := 132, slot := 0, constantValue := 0 }]
  methods := #[k8m0]
  instanceTypes := #[.int]
  staticTypes := #[]
  resolved := Array.replicate 218 none
  statics := none }

def pool9 : Array CpInfo := pool [(1, .class_ 2), (0, u "java/util/RandomAccess"), (0, .class_ 4), (0, u "java/lang/Object")] 2

/-- java/util/RandomAccess -/
def k9 : Class := { plain "java/util/RandomAccess" (some 0) with
  accessFlags := 1537
  interfaces := #[]
  cf := some (fileOf pool9 1 #[] #[] 1537 3 #[] #[])
  fields := #[]
  methods := #[]
  instanceTypes := #[]
  staticTypes := #[]
  resolved := Array.replicate 7 none
  statics := none }

def pool10 : Array CpInfo := pool [(1, .class_ 2), (0, u "java/lang/Cloneable"), (0, .class_ 4), (0, u "java/lang/Object")] 2

/-- java/lang/Cloneable -/
def k10 : Class := { plain "java/lang/Cloneable" (some 0) with
  accessFlags := 1537
  interfaces := #[]
  cf := some (fileOf pool10 1 #[] #[] 1537 3 #[] #[])
  fields := #[]
  methods := #[]
  instanceTypes := #[]
  staticTypes := #[]
  resolved := Array.replicate 7 none
  statics := none }

def pool11 : Array CpInfo := pool [(1, .class_ 2), (0, u "java/io/Serializable"), (0, .class_ 4), (0, u "java/lang/Object")] 2

/-- java/io/Serializable -/
def k11 : Class := { plain "java/io/Serializable" (some 0) with
  accessFlags := 1537
  interfaces := #[]
  cf := some (fileOf pool11 1 #[] #[] 1537 3 #[] #[])
  fields := #[]
  methods := #[]
  instanceTypes := #[]
  staticTypes := #[]
  resolved := Array.replicate 7 none
  statics := none }

def pool12 : Array CpInfo := pool [(1, .methodref 2 3), (0, .class_ 4), (0, .nameAndType 5 6), (0, u "java/util/AbstractList"), (0, u "<init>"), (0, u "()V"), (0, .class_ 8), (0, u "java/lang/Object"), (0, .fieldref 10 11), (0, .class_ 12), (0, .nameAndType 13 14), (0, u "java/util/ArrayList"), (0, u "elementData"), (0, u "[Ljava/lang/Object;"), (2, u "EMPTY_ELEMENTDATA"), (21, .fieldref 10 40), (0, .nameAndType 41 14), (0, u "DEFAULTCAPACITY_EMPTY_ELEMENTDATA"), (5, u "()[Ljava/lang/Object;"), (0, .fieldref 10 49), (0, .nameAndType 50 51), (0, u "size"), (0, u "I"), (11, .fieldref 10 64), (0, .nameAndType 65 51), (0, u "modCount"), (3, .methodref 10 70), (0, .nameAndType 71 72), (0, u "grow"), (0, u "(I)[Ljava/lang/Object;"), (6, .methodref 80 81), (0, .class_ 82), (0, .nameAndType 83 84), (0, u "java/lang/Math"), (0, u "max"), (0, u "(II)I"), (11, u "(Ljava/lang/Object;)Z"), (32, .methodref 10 130), (0, .nameAndType 71 47), (0, .methodref 10 132), (0, .nameAndType 133 134), (0, u "add"), (0, u "(Ljava/lang/Object;[Ljava/lang/Object;I)V"), (13, .class_ 149), (0, u "java/util/List"), (16, u "iterator"), (0, u "()Ljava/util/Iterator;"), (18, u "()I"), (75, .class_ 263), (0, u "java/util/ArrayList$ListItr"), (3, .class_ 268), (0, u "java/util/ArrayList$Itr"), (0, .methodref 267 270), (0, .nameAndType 5 271), (0, u "(Ljava/util/ArrayList;)V"), (4, .class_ 277), (0, u "java/util/ArrayList$SubList"), (12, .class_ 291), (0, u "java/util/ArrayList$ArrayListSpliterator"), (37, .class_ 330), (0, u "java/util/RandomAccess"), (0, .class_ 332), (0, u "java/lang/Cloneable"), (0, .class_ 334), (0, u "java/io/Serializable"), (0, u "serialVersionUID"), (0, u "J"), (3, u "DEFAULT_CAPACITY"), (159, .class_ 501), (0, u "java/util/ArrayList$SubList$2"), (0, .class_ 503), (0, u "java/util/ArrayList$SubList$1")] 5

def k12c0 : Code := { maxStack := 2, maxLocals := 1, code := jdk_38_method_2_code, exceptionTable := #[], attributes := #[] }
def k12m0 : Method := { name := "<init>", desc := "()V", sig := { parameters := [], returnType := none }, accessFlags := 1, code := some k12c0 }
def k12c1 : Code := { maxStack := 4, maxLocals := 4, code := jdk_38_method_6_code, exceptionTable := #[], attributes := #[] }
def k12m1 : Method := { name := "grow", desc := "(I)[Ljava/lang/Object;", sig := { parameters := [.int], returnType := some (.array (.object "java/lang/Object")) }, accessFlags := 2, code := some k12c1 }
def k12c2 : Code := { maxStack := 3, maxLocals := 1, code := jdk_38_method_7_code, exceptionTable := #[], attributes := #[] }
def k12m2 : Method := { name := "grow", desc := "()[Ljava/lang/Object;", sig := { parameters := [], returnType := some (.array (.object "java/lang/Object")) }, accessFlags := 2, code := some k12c2 }
def k12c3 : Code := { maxStack := 1, maxLocals := 1, code := jdk_38_method_8_code, exceptionTable := #[], attributes := #[] }
def k12m3 : Method := { name := "size", desc := "()I", sig := { parameters := [], returnType := some .int }, accessFlags := 1, code := some k12c3 }
def k12c4 : Code := { maxStack := 3, maxLocals := 4, code := jdk_38_method_24_code, exceptionTable := #[], attributes := #[] }
def k12m4 : Method := { name := "add", desc := "(Ljava/lang/Object;[Ljava/lang/Object;I)V", sig := { parameters := [(.object "java/lang/Object"), (.array (.object "java/lang/Object")), .int], returnType := none }, accessFlags := 2, code := some k12c4 }
def k12c5 : Code := { maxStack := 4, maxLocals := 2, code := jdk_38_method_25_code, exceptionTable := #[], attributes := #[] }
def k12m5 : Method := { name := "add", desc := "(Ljava/lang/Object;)Z", sig := { parameters := [(.object "java/lang/Object")], returnType := some .boolean }, accessFlags := 1, code := some k12c5 }
def k12c6 : Code := { maxStack := 3, maxLocals := 1, code := jdk_38_method_55_code, exceptionTable := #[], attributes := #[] }
def k12m6 : Method := { name := "iterator", desc := "()Ljava/util/Iterator;", sig := { parameters := [], returnType := some (.object "java/util/Iterator") }, accessFlags := 1, code := some k12c6 }
/-- java/util/ArrayList -/
def k12 : Class := { plain "java/util/ArrayList" (some 8) with
  accessFlags := 33
  interfaces := #[7, 9, 10, 11]
  cf := some (fileOf pool12 10 #[.nestMembers #[290, 276, 500, 502, 262, 267]] #[{ accessFlags := 1, nameIndex := 5, descriptorIndex := 6, attributes := #[] }, { accessFlags := 2, nameIndex := 71, descriptorIndex := 72, attributes := #[] }, { accessFlags := 2, nameIndex := 71, descriptorIndex := 47, attributes := #[] }, { accessFlags := 1, nameIndex := 50, descriptorIndex := 186, attributes := #[] }, { accessFlags := 2, nameIndex := 133, descriptorIndex := 134, attributes := #[] }, { accessFlags := 1, nameIndex := 133, descriptorIndex := 96, attributes := #[] }, { accessFlags := 1, nameIndex := 166, descriptorIndex := 167, attributes := #[] }] 33 2 #[148, 329, 331, 333] #[{ accessFlags := 26, nameIndex := 335, descriptorIndex := 336, attributes := #[] }, { accessFlags := 26, nameIndex := 340, descriptorIndex := 51, attributes := #[] }, { accessFlags := 26, nameIndex := 17, descriptorIndex := 14, attributes := #[] }, { accessFlags := 26, nameIndex := 41, descriptorIndex := 14, attributes := #[] }, { accessFlags := 128, nameIndex := 13, descriptorIndex := 14, attributes := #[] }, { accessFlags := 2, nameIndex := 50, descriptorIndex := 51, attributes := #[] }])
  fields := #[{ name := "serialVersionUID", type := .long, accessFlags := 26, slot := 0, constantValue := 0 }, { name := "DEFAULT_CAPACITY", type := .int, accessFlags := 26, slot := 1, constantValue := 0 }, { name := "EMPTY_ELEMENTDATA", type := (.array (.object "java/lang/Object")), accessFlags := 26, slot := 2, constantValue := 0 }, { name := "DEFAULTCAPACITY_EMPTY_ELEMENTDATA", type := (.array (.object "java/lang/Object")), accessFlags := 26, slot := 3, constantValue := 0 }, { name := "elementData", type := (.array (.object "java/lang/Object")), accessFlags := 128, slot := 1, constantValue := 0 }, { name := "size", type := .int, accessFlags := 2, slot := 2, constantValue := 0 }]
  methods := #[k12m0, k12m1, k12m2, k12m3, k12m4, k12m5, k12m6]
  instanceTypes := #[.int, (.array (.object "java/lang/Object")), .int]
  staticTypes := #[.long, .int, (.array (.object "java/lang/Object")), (.array (.object "java/lang/Object"))]
  resolved := Array.replicate 509 none
  statics := some 0 }

def pool13 : Array CpInfo := pool [(1, .interfaceMethodref 2 3), (0, .class_ 4), (0, .nameAndType 5 6), (0, u "java/util/List"), (0, u "iterator"), (0, u "()Ljava/util/Iterator;"), (0, .invokeDynamic 0 8), (0, .nameAndType 9 10), (0, u "next"), (0, u "(Ljava/util/Iterator;)Lcom/example/gridtally/gridtally/core/RowSource;"), (0, .interfaceMethodref 12 13), (0, .class_ 14), (0, .nameAndType 15 16), (0, u "java/util/Iterator"), (0, u "hasNext"), (0, u "()Z"), (0, .interfaceMethodref 12 18), (0, .nameAndType 9 19), (0, u "()Ljava/lang/Object;"), (0, .class_ 21), (0, u "com/example/gridtally/gridtally/core/Row"), (0, .class_ 23), (0, u "com/example/gridtally/gridtally/core/RowSource"), (0, .class_ 25), (0, u "java/lang/Object"), (0, u "()Lcom/example/gridtally/gridtally/core/Row;"), (3, u "of"), (0, u "(Ljava/util/List;)Lcom/example/gridtally/gridtally/core/RowSource;"), (4, u "lambda$of$0"), (0, u "(Ljava/util/Iterator;)Lcom/example/gridtally/gridtally/core/Row;"), (6, .methodType 26), (0, .methodHandle 6 46), (0, .interfaceMethodref 22 47), (0, .nameAndType 36 37), (0, .methodHandle 6 49), (0, .methodref 50 51), (0, .class_ 52), (0, .nameAndType 53 54), (0, u "java/lang/invoke/LambdaMetafactory"), (0, u "metafactory"), (0, u "(Ljava/lang/invoke/MethodHandles$Lookup;Ljava/lang/String;Ljava/lang/invoke/MethodType;Ljava/lang/invoke/MethodType;Ljava/lang/invoke/MethodHandle;Ljava/lang/invoke/MethodType;)Ljava/lang/invoke/CallSite;")] 6

def k13m0 : Method := { name := "next", desc := "()Lcom/example/gridtally/gridtally/core/Row;", sig := { parameters := [], returnType := some (.object "com/example/gridtally/gridtally/core/Row") }, accessFlags := 1025, code := none }
def k13c1 : Code := { maxStack := 1, maxLocals := 2, code := prog_48_method_2_code, exceptionTable := #[], attributes := #[] }
def k13m1 : Method := { name := "of", desc := "(Ljava/util/List;)Lcom/example/gridtally/gridtally/core/RowSource;", sig := { parameters := [(.object "java/util/List")], returnType := some (.object "com/example/gridtally/gridtally/core/RowSource") }, accessFlags := 9, code := some k13c1 }
def k13c2 : Code := { maxStack := 1, maxLocals := 1, code := prog_48_method_3_code, exceptionTable := #[], attributes := #[] }
def k13m2 : Method := { name := "lambda$of$0", desc := "(Ljava/util/Iterator;)Lcom/example/gridtally/gridtally/core/Row;", sig := { parameters := [(.object "java/util/Iterator")], returnType := some (.object "com/example/gridtally/gridtally/core/Row") }, accessFlags := 4106, code := some k13c2 }
/-- com/example/gridtally/gridtally/core/RowSource -/
def k13 : Class := { plain "com/example/gridtally/gridtally/core/RowSource" (some 0) with
  accessFlags := 1537
  interfaces := #[]
  cf := some (fileOf pool13 22 #[.bootstrapMethods #[⟨48, #[44, 45, 44]⟩]] #[{ accessFlags := 1025, nameIndex := 9, descriptorIndex := 26, attributes := #[] }, { accessFlags := 9, nameIndex := 30, descriptorIndex := 31, attributes := #[] }, { accessFlags := 4106, nameIndex := 36, descriptorIndex := 37, attributes := #[] }] 1537 24 #[] #[])
  fields := #[]
  methods := #[k13m0, k13m1, k13m2]
  instanceTypes := #[]
  staticTypes := #[]
  resolved := Array.replicate 61 none
  callSites := [(1, 8, .makes 22)]
  statics := none }

def pool14 : Array CpInfo := pool [(16, .class_ 18), (1, u "java/util/Iterator"), (0, u "hasNext"), (0, u "()Z"), (2, u "next"), (0, u "()Ljava/lang/Object;"), (6, .class_ 32), (0, u "java/lang/Object")] 20

def k14m0 : Method := { name := "hasNext", desc := "()Z", sig := { parameters := [], returnType := some .boolean }, accessFlags := 1025, code := none }
def k14m1 : Method := { name := "next", desc := "()Ljava/lang/Object;", sig := { parameters := [], returnType := some (.object "java/lang/Object") }, accessFlags := 1025, code := none }
/-- java/util/Iterator -/
def k14 : Class := { plain "java/util/Iterator" (some 0) with
  accessFlags := 1537
  interfaces := #[]
  cf := some (fileOf pool14 16 #[] #[{ accessFlags := 1025, nameIndex := 19, descriptorIndex := 20, attributes := #[] }, { accessFlags := 1025, nameIndex := 23, descriptorIndex := 24, attributes := #[] }] 1537 31 #[] #[])
  fields := #[]
  methods := #[k14m0, k14m1]
  instanceTypes := #[]
  staticTypes := #[]
  resolved := Array.replicate 53 none
  statics := none }

def pool15 : Array CpInfo := pool [(1, .fieldref 2 3), (0, .class_ 4), (0, .nameAndType 5 6), (0, u "java/util/ArrayList$Itr"), (0, u "this$0"), (0, u "Ljava/util/ArrayList;"), (0, .methodref 8 9), (0, .class_ 10), (0, .nameAndType 11 12), (0, u "java/lang/Object"), (0, u "<init>"), (0, u "()V"), (0, .fieldref 2 14), (0, .nameAndType 15 16), (0, u "lastRet"), (0, u "I"), (0, .fieldref 18 19), (0, .class_ 20), (0, .nameAndType 21 16), (0, u "java/util/ArrayList"), (0, u "modCount"), (0, .fieldref 2 23), (0, .nameAndType 24 16), (0, u "expectedModCount"), (0, .fieldref 2 26), (0, .nameAndType 27 16), (0, u "cursor"), (0, .fieldref 18 29), (0, .nameAndType 30 16), (0, u "size"), (0, .methodref 2 32), (0, .nameAndType 33 12), (0, u "checkForComodification"), (3, .fieldref 18 38), (0, .nameAndType 39 40), (0, u "elementData"), (0, u "[Ljava/lang/Object;"), (28, .class_ 70), (0, u "java/util/Iterator"), (0, u "(Ljava/util/ArrayList;)V"), (8, u "hasNext"), (0, u "()Z"), (1, u "next"), (0, u "()Ljava/lang/Object;")] 19

def k15c0 : Code := { maxStack := 2, maxLocals := 2, code := jdk_49_method_1_code, exceptionTable := #[], attributes := #[] }
def k15m0 : Method := { name := "<init>", desc := "(Ljava/util/ArrayList;)V", sig := { parameters := [(.object "java/util/ArrayList")], returnType := none }, accessFlags := 0, code := some k15c0 }
def k15c1 : Code := { maxStack := 2, maxLocals := 1, code := jdk_49_method_2_code, exceptionTable := #[], attributes := #[] }
def k15m1 : Method := { name := "hasNext", desc := "()Z", sig := { parameters := [], returnType := some .boolean }, accessFlags := 1, code := some k15c1 }
def k15c2 : Code := { maxStack := 4, maxLocals := 3, code := jdk_49_method_3_code, exceptionTable := #[], attributes := #[] }
def k15m2 : Method := { name := "next", desc := "()Ljava/lang/Object;", sig := { parameters := [], returnType := some (.object "java/lang/Object") }, accessFlags := 1, code := some k15c2 }
def k15c3 : Code := { maxStack := 2, maxLocals := 1, code := jdk_49_method_6_code, exceptionTable := #[], attributes := #[] }
def k15m3 : Method := { name := "checkForComodification", desc := "()V", sig := { parameters := [], returnType := none }, accessFlags := 16, code := some k15c3 }
/-- java/util/ArrayList$Itr -/
def k15 : Class := { plain "java/util/ArrayList$Itr" (some 0) with
  accessFlags := 32
  interfaces := #[14]
  cf := some (fileOf pool15 2 #[.nestHost 18] #[{ accessFlags := 0, nameIndex := 11, descriptorIndex := 71, attributes := #[] }, { accessFlags := 1, nameIndex := 80, descriptorIndex := 81, attributes := #[] }, { accessFlags := 1, nameIndex := 83, descriptorIndex := 84, attributes := #[] }, { accessFlags := 16, nameIndex := 33, descriptorIndex := 12, attributes := #[] }] 32 8 #[69] #[{ accessFlags := 0, nameIndex := 27, descriptorIndex := 16, attributes := #[] }, { accessFlags := 0, nameIndex := 15, descriptorIndex := 16, attributes := #[] }, { accessFlags := 0, nameIndex := 24, descriptorIndex := 16, attributes := #[] }, { accessFlags := 4112, nameIndex := 5, descriptorIndex := 6, attributes := #[] }])
  fields := #[{ name := "cursor", type := .int, accessFlags := 0, slot := 0, constantValue := 0 }, { name := "lastRet", type := .int, accessFlags := 0, slot := 1, constantValue := 0 }, { name := "expectedModCount", type := .int, accessFlags := 0, slot := 2, constantValue := 0 }, { name := "this$0", type := (.object "java/util/ArrayList"), accessFlags := 4112, slot := 3, constantValue := 0 }]
  methods := #[k15m0, k15m1, k15m2, k15m3]
  instanceTypes := #[.int, .int, .int, (.object "java/util/ArrayList")]
  staticTypes := #[]
  resolved := Array.replicate 104 none
  statics := none }

def pool16 : Array CpInfo := pool [(1, .class_ 2), (0, u "java/lang/Math"), (1, .class_ 6), (1, u "java/lang/Object"), (0, u "<init>"), (0, u "()V"), (89, .class_ 100), (1, u "java/lang/Math$RandomNumberGeneratorHolder"), (71, u "negativeZeroFloatBits"), (0, u "J"), (2, u "negativeZeroDoubleBits"), (21, u "max"), (46, u "$assertionsDisabled"), (0, u "Z"), (88, u "(II)I"), (2, u "twoToTheDoubleScaleDown"), (0, u "D"), (4, u "twoToTheDoubleScaleUp"), (9, u "E"), (3, u "PI"), (2, u "TAU"), (2, u "DEGREES_TO_RADIANS"), (0, u "RADIANS_TO_DEGREES")] 94

def k16m0 : Method := { name := "<init>", desc := "()V", sig := { parameters := [], returnType := none }, accessFlags := 2, code := none }
def k16c1 : Code := { maxStack := 2, maxLocals := 2, code := jdk_29_method_65_code, exceptionTable := #[], attributes := #[] }
def k16m1 : Method := { name := "max", desc := "(II)I", sig := { parameters := [.int, .int], returnType := some .int }, accessFlags := 9, code := some k16c1 }
/-- java/lang/Math -/
def k16 : Class := { plain "java/lang/Math" (some 0) with
  accessFlags := 49
  interfaces := #[]
  cf := some (fileOf pool16 1 #[.nestMembers #[98]] #[{ accessFlags := 2, nameIndex := 7, descriptorIndex := 8, attributes := #[] }, { accessFlags := 9, nameIndex := 198, descriptorIndex := 335, attributes := #[] }] 49 4 #[] #[{ accessFlags := 25, nameIndex := 354, descriptorIndex := 339, attributes := #[] }, { accessFlags := 25, nameIndex := 358, descriptorIndex := 339, attributes := #[] }, { accessFlags := 25, nameIndex := 361, descriptorIndex := 339, attributes := #[] }, { accessFlags := 26, nameIndex := 364, descriptorIndex := 339, attributes := #[] }, { accessFlags := 26, nameIndex := 365, descriptorIndex := 339, attributes := #[] }, { accessFlags := 26, nameIndex := 172, descriptorIndex := 173, attributes := #[] }, { accessFlags := 26, nameIndex := 176, descriptorIndex := 173, attributes := #[] }, { accessFlags := 8, nameIndex := 344, descriptorIndex := 339, attributes := #[] }, { accessFlags := 8, nameIndex := 338, descriptorIndex := 339, attributes := #[] }, { accessFlags := 4120, nameIndex := 245, descriptorIndex := 246, attributes := #[] }])
  fields := #[{ name := "E", type := .double, accessFlags := 25, slot := 0, constantValue := 0 }, { name := "PI", type := .double, accessFlags := 25, slot := 1, constantValue := 0 }, { name := "TAU", type := .double, accessFlags := 25, slot := 2, constantValue := 0 }, { name := "DEGREES_TO_RADIANS", type := .double, accessFlags := 26, slot := 3, constantValue := 0 }, { name := "RADIANS_TO_DEGREES", type := .double, accessFlags := 26, slot := 4, constantValue := 0 }, { name := "negativeZeroFloatBits", type := .long, accessFlags := 26, slot := 5, constantValue := 0 }, { name := "negativeZeroDoubleBits", type := .long, accessFlags := 26, slot := 6, constantValue := 0 }, { name := "twoToTheDoubleScaleUp", type := .double, accessFlags := 8, slot := 7, constantValue := 0 }, { name := "twoToTheDoubleScaleDown", type := .double, accessFlags := 8, slot := 8, constantValue := 0 }, { name := "$assertionsDisabled", type := .boolean, accessFlags := 4120, slot := 9, constantValue := 0 }]
  methods := #[k16m0, k16m1]
  instanceTypes := #[]
  staticTypes := #[.double, .double, .double, .double, .double, .long, .long, .double, .double, .boolean]
  resolved := Array.replicate 460 none
  statics := none }

/-- the primitive byte -/
def k17 : Class := { plain "byte" none with kind := .primitive 'B', accessFlags := 0x411 }
/-- [B -/
def k18 : Class := { plain "[B" (some 0) with kind := .array 17 .byte, interfaces := #[10, 11], accessFlags := 1041 }

/-- the primitive int -/
def k19 : Class := { plain "int" none with kind := .primitive 'I', accessFlags := 0x411 }
/-- [I -/
def k20 : Class := { plain "[I" (some 0) with kind := .array 19 .int, interfaces := #[10, 11], accessFlags := 1041 }

/-- [Ljava/lang/Object; -/
def k21 : Class := { plain "[Ljava/lang/Object;" (some 0) with kind := .array 0 (.object "java/lang/Object"), interfaces := #[10, 11], accessFlags := 1041 }

def classes0 : Array Class := #[k0, k1, k2, k3, k4, k5, k6, k7, k8, k9, k10, k11, k12, k13, k14, k15, k16, k17, k18, k19, k20, k21]
/-- the class that the rule has made for the site at 8 of com/example/gridtally/gridtally/core/RowSource.of -/
def k22 : Class := Jvm.LamKit.madeRec { classes := classes0 } "com/example/gridtally/gridtally/core/RowSource" (Jvm.Lambda.Shape.mk "com/example/gridtally/gridtally/core/RowSource" "next" (Jvm.ClassFile.MethodDescriptor.mk ([] : List Jvm.ClassFile.FieldType) (Option.some (Jvm.ClassFile.FieldType.object "com/example/gridtally/gridtally/core/Row"))) ([(Jvm.ClassFile.FieldType.object "java/util/Iterator")] : List Jvm.ClassFile.FieldType) (6 : Nat) "com/example/gridtally/gridtally/core/RowSource" "lambda$of$0" (Jvm.ClassFile.MethodDescriptor.mk ([(Jvm.ClassFile.FieldType.object "java/util/Iterator")] : List Jvm.ClassFile.FieldType) (Option.some (Jvm.ClassFile.FieldType.object "com/example/gridtally/gridtally/core/Row"))) true (Jvm.ClassFile.MethodDescriptor.mk ([] : List Jvm.ClassFile.FieldType) (Option.some (Jvm.ClassFile.FieldType.object "com/example/gridtally/gridtally/core/Row")))) 22

def heap : Heap := #[{ cls := 12, slots := #[.long 0, .int 0, .ref 1, .ref 2], vm := .statics 12 },
  { cls := 21, slots := #[], vm := .none },
  { cls := 21, slots := #[], vm := .none }]
def classes : Array Class := #[k0, k1, k2, k3, k4, k5, k6, k7, k8, k9, k10, k11, k12, k13, k14, k15, k16, k17, k18, k19, k20, k21, k22]
def interned : List (Array UInt16 × Addr) := []
def slotsUsed : Nat := 4
def theMethod : MethodId := ⟨1, 1⟩
def args0 : Array Value := #[.int 3, .long 1, .long 2, .long 3]
def aboutOver (below : List Frame) : State where
  vm := { classes := classes, interned := interned.toArray }
  heap := heap
  slotsUsed := slotsUsed
  threads := #[{ frames := .invoking theMethod args0 :: below }]
def below0 : List Frame := [.native { method := ⟨0, 0⟩, args := #[] }]
def about1 : State := aboutOver below0
def p0 : Program := .bare "" "" ""
def e0 : Env := launch0.env 0 0 0
theorem w_frames : about1.frames = Frame.invoking theMethod args0 :: below0 := rfl
set_option maxRecDepth 65536 in
theorem w_args : argsFit about1.vm theMethod args0 = true := by decide +kernel
set_option maxRecDepth 65536 in
theorem w_heap : heapFits about1 = true := by decide +kernel
set_option maxRecDepth 65536 in
theorem w_runnable : about1.curStatus? = some .runnable := by decide +kernel
set_option maxRecDepth 65536 in
theorem w_alone : about1.alone = true := by decide +kernel
set_option maxRecDepth 65536 in
theorem w_named : about1.methodNamed? x = some theMethod := by decide +kernel
set_option maxRecDepth 65536 in
theorem w_hears : about1.hears theMethod below0 = true := by decide +kernel
set_option maxRecDepth 65536 in
theorem w_ripe : about1.ripe theMethod args0 below0 = true := by decide +kernel
theorem w_running : about1.status = .running := rfl
set_option maxRecDepth 65536 in
theorem w_room : about1.hasRoom e0.platform room_1 = true :=
  launch0.hasRoom_least _ room_1 (by decide +kernel) (by decide +kernel) (by decide +kernel) (by decide +kernel) (by decide +kernel) (by decide +kernel)
theorem allAtoms_all (ts : List Jvm.Cond) (a : Array Jvm.Value) (st : Jvm.State) : (allAtoms ts).before a st = ts.all (fun c => c.before a st) := by
  induction ts with
  | nil => rfl
  | cons c t ih =>
    show (Jvm.Cond.and c (allAtoms t)).before a st = _
    rw [Jvm.Cond.before_and, ih, List.all_cons]
def words1 : List Jvm.Cond := Jvm.Cond.code x code maxLocals ret :: tables_1
/-- a 'code' word, met by the world's own term for the bytes: nothing is compared byte by byte -/
theorem code_word {y : MethodName} {bytes : ByteArray} {mx : Nat} {rt : Option FieldType} {a : Array Value} {s : State} {m : MethodId} {meth : Method} {c : Code} (h1 : s.methodNamed? y = some m) (h2 : s.vm.method? m = some meth) (h3 : meth.code = some c) (h4 : c.code = bytes)
    (h5 : (c.maxLocals == mx && c.exceptionTable.isEmpty && decide (c.maxStack ≤ mostOperands) && decide (meth.sig.returnType = rt) && !meth.locks && decide (parseMethodDescriptor y.desc = some meth.sig)) = true) : (Jvm.Cond.code y bytes mx rt).before a s = true := by
  simp only [Bool.and_eq_true, beq_iff_eq, Bool.not_eq_true', decide_eq_true_eq] at h5
  obtain ⟨⟨⟨⟨⟨g1, g2⟩, g3⟩, g4⟩, g5⟩, g6⟩ := h5
  simp [Cond.before, Cond.holds, Cond.value, h1, h2, h3, h4, g1, g2, g3, g4, g5, g6]
def isCode : Jvm.Cond → Bool
  | .code _ _ _ _ => true
  | _ => false
theorem all_split {L : List Jvm.Cond} {P : Jvm.Cond → Bool} (h1 : L.all (fun c => isCode c || P c) = true) (h2 : ∀ c ∈ L.filter isCode, P c = true) : L.all P = true := by
  refine List.all_eq_true.mpr fun c hc => ?_
  have h := List.all_eq_true.mp h1 c hc
  rcases Bool.eq_false_or_eq_true (isCode c) with hi | hi
  · exact h2 c (List.mem_filter.mpr ⟨hc, hi⟩)
  · simpa [hi] using h
set_option maxRecDepth 65536 in
theorem w_c0 : (Jvm.Cond.code x code maxLocals ret).before args0 about1 = true := code_word (m := ⟨1, 1⟩) (meth := k1m1) (c := k1c1) (by decide +kernel) rfl rfl rfl (by decide +kernel)
set_option maxRecDepth 65536 in
theorem w_c1 : (Jvm.Cond.code ({ cls := "com/example/gridtally/gridtally/core/Row", name := "<init>", desc := "(Lcom/example/gridtally/gridtally/core/CsvFile;J[B[I)V" } : Jvm.MethodName) prog_47_method_1_code (6 : Nat) (Option.none : Option Jvm.ClassFile.FieldType)).before args0 about1 = true := code_word (m := ⟨2, 0⟩) (meth := k2m0) (c := k2c0) (by decide +kernel) rfl rfl rfl (by decide +kernel)
set_option maxRecDepth 65536 in
theorem w_c2 : (Jvm.Cond.code ({ cls := "java/lang/Object", name := "<init>", desc := "()V" } : Jvm.MethodName) object_method_1_code (1 : Nat) (Option.none : Option Jvm.ClassFile.FieldType)).before args0 about1 = true := code_word (m := ⟨0, 0⟩) (meth := k0m0) (c := k0c0) (by decide +kernel) rfl rfl rfl (by decide +kernel)
set_option maxRecDepth 65536 in
theorem w_c3 : (Jvm.Cond.code ({ cls := "java/util/ArrayList", name := "<init>", desc := "()V" } : Jvm.MethodName) jdk_38_method_2_code (1 : Nat) (Option.none : Option Jvm.ClassFile.FieldType)).before args0 about1 = true := code_word (m := ⟨12, 0⟩) (meth := k12m0) (c := k12c0) (by decide +kernel) rfl rfl rfl (by decide +kernel)
set_option maxRecDepth 65536 in
theorem w_c4 : (Jvm.Cond.code ({ cls := "java/util/AbstractList", name := "<init>", desc := "()V" } : Jvm.MethodName) jdk_39_method_1_code (1 : Nat) (Option.none : Option Jvm.ClassFile.FieldType)).before args0 about1 = true := code_word (m := ⟨8, 0⟩) (meth := k8m0) (c := k8c0) (by decide +kernel) rfl rfl rfl (by decide +kernel)
set_option maxRecDepth 65536 in
theorem w_c5 : (Jvm.Cond.code ({ cls := "java/util/AbstractCollection", name := "<init>", desc := "()V" } : Jvm.MethodName) jdk_22_method_1_code (1 : Nat) (Option.none : Option Jvm.ClassFile.FieldType)).before args0 about1 = true := code_word (m := ⟨5, 0⟩) (meth := k5m0) (c := k5c0) (by decide +kernel) rfl rfl rfl (by decide +kernel)
set_option maxRecDepth 65536 in
theorem w_c6 : (Jvm.Cond.code ({ cls := "com/example/gridtally/gridtally/core/RowSource", name := "of", desc := "(Ljava/util/List;)Lcom/example/gridtally/gridtally/core/RowSource;" } : Jvm.MethodName) prog_48_method_2_code (2 : Nat) (Option.some (Jvm.ClassFile.FieldType.object "com/example/gridtally/gridtally/core/RowSource"))).before args0 about1 = true := code_word (m := ⟨13, 1⟩) (meth := k13m1) (c := k13c1) (by decide +kernel) rfl rfl rfl (by decide +kernel)
set_option maxRecDepth 65536 in
theorem w_c7 : (Jvm.Cond.code ({ cls := "java/util/ArrayList", name := "iterator", desc := "()Ljava/util/Iterator;" } : Jvm.MethodName) jdk_38_method_55_code (1 : Nat) (Option.some (Jvm.ClassFile.FieldType.object "java/util/Iterator"))).before args0 about1 = true := code_word (m := ⟨12, 6⟩) (meth := k12m6) (c := k12c6) (by decide +kernel) rfl rfl rfl (by decide +kernel)
set_option maxRecDepth 65536 in
theorem w_c8 : (Jvm.Cond.code ({ cls := "java/util/ArrayList$Itr", name := "<init>", desc := "(Ljava/util/ArrayList;)V" } : Jvm.MethodName) jdk_49_method_1_code (2 : Nat) (Option.none : Option Jvm.ClassFile.FieldType)).before args0 about1 = true := code_word (m := ⟨15, 0⟩) (meth := k15m0) (c := k15c0) (by decide +kernel) rfl rfl rfl (by decide +kernel)
set_option maxRecDepth 65536 in
theorem w_c9 : (Jvm.Cond.code ({ cls := "com/example/gridtally/gridtally/core/RowSource", name := "lambda$of$0", desc := "(Ljava/util/Iterator;)Lcom/example/gridtally/gridtally/core/Row;" } : Jvm.MethodName) prog_48_method_3_code (1 : Nat) (Option.some (Jvm.ClassFile.FieldType.object "com/example/gridtally/gridtally/core/Row"))).before args0 about1 = true := code_word (m := ⟨13, 2⟩) (meth := k13m2) (c := k13c2) (by decide +kernel) rfl rfl rfl (by decide +kernel)
set_option maxRecDepth 65536 in
theorem w_c10 : (Jvm.Cond.code ({ cls := "java/util/ArrayList$Itr", name := "hasNext", desc := "()Z" } : Jvm.MethodName) jdk_49_method_2_code (1 : Nat) (Option.some Jvm.ClassFile.FieldType.boolean)).before args0 about1 = true := code_word (m := ⟨15, 1⟩) (meth := k15m1) (c := k15c1) (by decide +kernel) rfl rfl rfl (by decide +kernel)
set_option maxRecDepth 65536 in
theorem w_c11 : (Jvm.Cond.code ({ cls := "java/util/ArrayList", name := "size", desc := "()I" } : Jvm.MethodName) jdk_38_method_8_code (1 : Nat) (Option.some Jvm.ClassFile.FieldType.int)).before args0 about1 = true := code_word (m := ⟨12, 3⟩) (meth := k12m3) (c := k12c3) (by decide +kernel) rfl rfl rfl (by decide +kernel)
set_option maxRecDepth 65536 in
theorem w_c12 : (Jvm.Cond.code ({ cls := "java/util/ArrayList", name := "add", desc := "(Ljava/lang/Object;)Z" } : Jvm.MethodName) jdk_38_method_25_code (2 : Nat) (Option.some Jvm.ClassFile.FieldType.boolean)).before args0 about1 = true := code_word (m := ⟨12, 5⟩) (meth := k12m5) (c := k12c5) (by decide +kernel) rfl rfl rfl (by decide +kernel)
set_option maxRecDepth 65536 in
theorem w_c13 : (Jvm.Cond.code ({ cls := "java/util/ArrayList", name := "add", desc := "(Ljava/lang/Object;[Ljava/lang/Object;I)V" } : Jvm.MethodName) jdk_38_method_24_code (4 : Nat) (Option.none : Option Jvm.ClassFile.FieldType)).before args0 about1 = true := code_word (m := ⟨12, 4⟩) (meth := k12m4) (c := k12c4) (by decide +kernel) rfl rfl rfl (by decide +kernel)
set_option maxRecDepth 65536 in
theorem w_c14 : (Jvm.Cond.code ({ cls := "java/util/ArrayList", name := "grow", desc := "()[Ljava/lang/Object;" } : Jvm.MethodName) jdk_38_method_7_code (1 : Nat) (Option.some (Jvm.ClassFile.FieldType.array (Jvm.ClassFile.FieldType.object "java/lang/Object")))).before args0 about1 = true := code_word (m := ⟨12, 2⟩) (meth := k12m2) (c := k12c2) (by decide +kernel) rfl rfl rfl (by decide +kernel)
set_option maxRecDepth 65536 in
theorem w_c15 : (Jvm.Cond.code ({ cls := "java/util/ArrayList", name := "grow", desc := "(I)[Ljava/lang/Object;" } : Jvm.MethodName) jdk_38_method_6_code (4 : Nat) (Option.some (Jvm.ClassFile.FieldType.array (Jvm.ClassFile.FieldType.object "java/lang/Object")))).before args0 about1 = true := code_word (m := ⟨12, 1⟩) (meth := k12m1) (c := k12c1) (by decide +kernel) rfl rfl rfl (by decide +kernel)
set_option maxRecDepth 65536 in
theorem w_c16 : (Jvm.Cond.code ({ cls := "java/lang/Math", name := "max", desc := "(II)I" } : Jvm.MethodName) jdk_29_method_65_code (2 : Nat) (Option.some Jvm.ClassFile.FieldType.int)).before args0 about1 = true := code_word (m := ⟨16, 1⟩) (meth := k16m1) (c := k16c1) (by decide +kernel) rfl rfl rfl (by decide +kernel)
set_option maxRecDepth 65536 in
theorem w_c17 : (Jvm.Cond.code ({ cls := "java/util/ArrayList$Itr", name := "next", desc := "()Ljava/lang/Object;" } : Jvm.MethodName) jdk_49_method_3_code (3 : Nat) (Option.some (Jvm.ClassFile.FieldType.object "java/lang/Object"))).before args0 about1 = true := code_word (m := ⟨15, 2⟩) (meth := k15m2) (c := k15c2) (by decide +kernel) rfl rfl rfl (by decide +kernel)
set_option maxRecDepth 65536 in
theorem w_c18 : (Jvm.Cond.code ({ cls := "java/util/ArrayList$Itr", name := "checkForComodification", desc := "()V" } : Jvm.MethodName) jdk_49_method_6_code (1 : Nat) (Option.none : Option Jvm.ClassFile.FieldType)).before args0 about1 = true := code_word (m := ⟨15, 3⟩) (meth := k15m3) (c := k15c3) (by decide +kernel) rfl rfl rfl (by decide +kernel)
def codes1 : List Jvm.Cond := [Jvm.Cond.code x code maxLocals ret, Jvm.Cond.code ({ cls := "com/example/gridtally/gridtally/core/Row", name := "<init>", desc := "(Lcom/example/gridtally/gridtally/core/CsvFile;J[B[I)V" } : Jvm.MethodName) prog_47_method_1_code (6 : Nat) (Option.none : Option Jvm.ClassFile.FieldType), Jvm.Cond.code ({ cls := "java/lang/Object", name := "<init>", desc := "()V" } : Jvm.MethodName) object_method_1_code (1 : Nat) (Option.none : Option Jvm.ClassFile.FieldType), Jvm.Cond.code ({ cls := "java/util/ArrayList", name := "<init>", desc := "()V" } : Jvm.MethodName) jdk_38_method_2_code (1 : Nat) (Option.none : Option Jvm.ClassFile.FieldType), Jvm.Cond.code ({ cls := "java/util/AbstractList", name := "<init>", desc := "()V" } : Jvm.MethodName) jdk_39_method_1_code (1 : Nat) (Option.none : Option Jvm.ClassFile.FieldType), Jvm.Cond.code ({ cls := "java/util/AbstractCollection", name := "<init>", desc := "()V" } : Jvm.MethodName) jdk_22_method_1_code (1 : Nat) (Option.none : Option Jvm.ClassFile.FieldType), Jvm.Cond.code ({ cls := "com/example/gridtally/gridtally/core/RowSource", name := "of", desc := "(Ljava/util/List;)Lcom/example/gridtally/gridtally/core/RowSource;" } : Jvm.MethodName) prog_48_method_2_code (2 : Nat) (Option.some (Jvm.ClassFile.FieldType.object "com/example/gridtally/gridtally/core/RowSource")), Jvm.Cond.code ({ cls := "java/util/ArrayList", name := "iterator", desc := "()Ljava/util/Iterator;" } : Jvm.MethodName) jdk_38_method_55_code (1 : Nat) (Option.some (Jvm.ClassFile.FieldType.object "java/util/Iterator")), Jvm.Cond.code ({ cls := "java/util/ArrayList$Itr", name := "<init>", desc := "(Ljava/util/ArrayList;)V" } : Jvm.MethodName) jdk_49_method_1_code (2 : Nat) (Option.none : Option Jvm.ClassFile.FieldType), Jvm.Cond.code ({ cls := "com/example/gridtally/gridtally/core/RowSource", name := "lambda$of$0", desc := "(Ljava/util/Iterator;)Lcom/example/gridtally/gridtally/core/Row;" } : Jvm.MethodName) prog_48_method_3_code (1 : Nat) (Option.some (Jvm.ClassFile.FieldType.object "com/example/gridtally/gridtally/core/Row")), Jvm.Cond.code ({ cls := "java/util/ArrayList$Itr", name := "hasNext", desc := "()Z" } : Jvm.MethodName) jdk_49_method_2_code (1 : Nat) (Option.some Jvm.ClassFile.FieldType.boolean), Jvm.Cond.code ({ cls := "java/util/ArrayList", name := "size", desc := "()I" } : Jvm.MethodName) jdk_38_method_8_code (1 : Nat) (Option.some Jvm.ClassFile.FieldType.int), Jvm.Cond.code ({ cls := "java/util/ArrayList", name := "add", desc := "(Ljava/lang/Object;)Z" } : Jvm.MethodName) jdk_38_method_25_code (2 : Nat) (Option.some Jvm.ClassFile.FieldType.boolean), Jvm.Cond.code ({ cls := "java/util/ArrayList", name := "add", desc := "(Ljava/lang/Object;[Ljava/lang/Object;I)V" } : Jvm.MethodName) jdk_38_method_24_code (4 : Nat) (Option.none : Option Jvm.ClassFile.FieldType), Jvm.Cond.code ({ cls := "java/util/ArrayList", name := "grow", desc := "()[Ljava/lang/Object;" } : Jvm.MethodName) jdk_38_method_7_code (1 : Nat) (Option.some (Jvm.ClassFile.FieldType.array (Jvm.ClassFile.FieldType.object "java/lang/Object"))), Jvm.Cond.code ({ cls := "java/util/ArrayList", name := "grow", desc := "(I)[Ljava/lang/Object;" } : Jvm.MethodName) jdk_38_method_6_code (4 : Nat) (Option.some (Jvm.ClassFile.FieldType.array (Jvm.ClassFile.FieldType.object "java/lang/Object"))), Jvm.Cond.code ({ cls := "java/lang/Math", name := "max", desc := "(II)I" } : Jvm.MethodName) jdk_29_method_65_code (2 : Nat) (Option.some Jvm.ClassFile.FieldType.int), Jvm.Cond.code ({ cls := "java/util/ArrayList$Itr", name := "next", desc := "()Ljava/lang/Object;" } : Jvm.MethodName) jdk_49_method_3_code (3 : Nat) (Option.some (Jvm.ClassFile.FieldType.object "java/lang/Object")), Jvm.Cond.code ({ cls := "java/util/ArrayList$Itr", name := "checkForComodification", desc := "()V" } : Jvm.MethodName) jdk_49_method_6_code (1 : Nat) (Option.none : Option Jvm.ClassFile.FieldType)]
set_option maxRecDepth 65536 in
theorem codes_eq : words1.filter isCode = codes1 := rfl
theorem w_codes : ∀ c ∈ words1.filter isCode, c.before args0 about1 = true := by
  rw [codes_eq]
  intro c hc
  simp only [codes1, List.mem_cons, List.not_mem_nil, or_false] at hc
  rcases hc with rfl | rfl | rfl | rfl | rfl | rfl | rfl | rfl | rfl | rfl | rfl | rfl | rfl | rfl | rfl | rfl | rfl | rfl | rfl
  · exact w_c0
  · exact w_c1
  · exact w_c2
  · exact w_c3
  · exact w_c4
  · exact w_c5
  · exact w_c6
  · exact w_c7
  · exact w_c8
  · exact w_c9
  · exact w_c10
  · exact w_c11
  · exact w_c12
  · exact w_c13
  · exact w_c14
  · exact w_c15
  · exact w_c16
  · exact w_c17
  · exact w_c18
set_option maxRecDepth 65536 in
theorem w_t1 : (words1.take 24).all (fun c => isCode c || c.before args0 about1) = true := by decide +kernel
set_option maxRecDepth 65536 in
theorem w_t2 : ((words1.drop 24).take 24).all (fun c => isCode c || c.before args0 about1) = true := by decide +kernel
set_option maxRecDepth 65536 in
theorem w_t3 : (((words1.drop 24).drop 24).take 24).all (fun c => isCode c || c.before args0 about1) = true := by decide +kernel
set_option maxRecDepth 65536 in
theorem w_t4 : ((((words1.drop 24).drop 24).drop 24).take 24).all (fun c => isCode c || c.before args0 about1) = true := by decide +kernel
set_option maxRecDepth 65536 in
theorem w_t5 : (((((words1.drop 24).drop 24).drop 24).drop 24).take 24).all (fun c => isCode c || c.before args0 about1) = true := by decide +kernel
set_option maxRecDepth 65536 in
theorem w_t6 : (((((words1.drop 24).drop 24).drop 24).drop 24).drop 24).all (fun c => isCode c || c.before args0 about1) = true := by decide +kernel
theorem w_tables : (allAtoms (Jvm.Cond.code x code maxLocals ret :: tables_1)).before args0 about1 = true := by
  rw [allAtoms_all]
  show words1.all (fun c => c.before args0 about1) = true
  refine all_split ?_ w_codes
  rw [← List.take_append_drop 24 words1, List.all_append, w_t1, ← List.take_append_drop 24 (words1.drop 24), List.all_append, w_t2, ← List.take_append_drop 24 ((words1.drop 24).drop 24), List.all_append, w_t3, ← List.take_append_drop 24 (((words1.drop 24).drop 24).drop 24), List.all_append, w_t4, ← List.take_append_drop 24 ((((words1.drop 24).drop 24).drop 24).drop 24), List.all_append, w_t5, w_t6]
  rfl
set_option maxRecDepth 65536 in
theorem w_rest : rest_1_c.before args0 about1 = true := by decide +kernel
set_option maxRecDepth 65536 in
theorem w_case : (Jvm.Cond.and given_1 narrow_1).before args0 about1 = true := by decide +kernel
theorem w_applies : (headSpec (Jvm.Cond.code x code maxLocals ret :: tables_1) room_1).applies x e0.platform about1 = true :=
  (Spec.applies_iff w_frames).mpr ⟨w_running, w_runnable, w_alone, w_named, w_hears, w_ripe, w_room, w_tables⟩
theorem atStart : AtStart classFile x code maxLocals ret World_1 tables_1 room_1 Calls_1 rest_1 Pre_1 launch0 p0 e0 about1 theMethod args0 below0 :=
  ⟨lists_1, trivial, launch0.admits_env _ _ _, launch0.least_env, fairChoices_fair.cas, fairChoices_fair.clock, w_frames, w_args, w_heap, w_applies, trivial, w_rest, w_case⟩
end start1
theorem witness_1 : WitnessClaimed_1 := ⟨start1.p0, start1.e0, start1.about1, start1.theMethod, start1.args0, start1.below0, start1.atStart⟩
end Jvm.Pilot.@@N@@
