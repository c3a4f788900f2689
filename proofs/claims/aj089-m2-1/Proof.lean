import JvmDerived
import JvmDerived.Pilot.@@N@@Statement
import JvmDerived.Pilot.@@N@@Code
set_option linter.unusedVariables false
set_option linter.unusedSimpArgs false
namespace Jvm.Pilot.@@N@@
open Jvm Jvm.ClassFile Sem Op Lib Jvm.Free Jvm.Stand Jvm.LawKit Jvm.RoadKit Bundle Jvm.Pilot.@@N@@.Jvm.D
section Own
variable {p : Program} {l : Launch} {e : Env} {R : Room} {s : State} {m : MethodId} {args : Array Value} {below : List Frame} {meth : Method} {c : Code} {T : State} {locs : List Loc} {cells slots : Nat} {Z : State} {a0 : Array Value} {K : State → Outcome → Prop} {pc pc' : Nat} {Ls : Array Slot} {st : List Value} {h : Heap}
/-- from here the run ends, and what is left is as K says -/
def own_Go (p : Program) (e : Env) (below : List Frame) (K : State → Outcome → Prop) (T : State) (f : JFrame) : Prop :=
  ∃ s₂ o, Steps p.tables e below (T.setTop f) s₂ ∧ s₂.status = .running ∧ Ended s₂ below o ∧ K s₂ o
def own_K (Q : Option Value → Heap → List Loc → Prop) (s : State) (cs ss : Nat) : State → Outcome → Prop := fun u o => ∃ v L, o = .returned v ∧ Q v u.heap L ∧ FrameEnd s o u L cs ss
theorem own_go {T' : State} {f f' : JFrame} (h : ∀ t, Steps p.tables e below (T'.setTop f') t → Steps p.tables e below (T.setTop f) t) (k : own_Go p e below K T' f') : own_Go p e below K T f := by
  obtain ⟨a, b, c, d⟩ := k
  exact ⟨a, b, h _ c, d⟩
theorem own_w {tb : List Jvm.Cond} (hw : ∀ d ∈ tb, d.before a0 Z = true) {d : Jvm.Cond} (k : Nat) (h : tb[k]? = some d) : d.before a0 Z = true := hw _ (List.mem_of_getElem? h)
/-- a method's contract: called with these arguments over this heap it returns, and Q says what it leaves -/
abbrev own_Met (l : Launch) (Z : State) (y : MethodName) (bytes : ByteArray) (mx : Nat) (rt : Option FieldType) (ws : List Jvm.Cond) (rm : Room) (as : Array Value) (h0 : Heap) (Q : Option Value → Heap → List Loc → Prop) : Prop :=
  MetFree l y (head1 (Jvm.Cond.code y bytes mx rt :: ws) rm) (fun a U => a = as ∧ Z.Warmed39 U.vm ∧ U.heap = h0) (fun _ _ _ _ _ => True) (fun _ U o U' => ∃ v L, o = .returned v ∧ Q v U'.heap L ∧ FrameEnd U o U' L rm.cells rm.slots)
theorem own_body {y : MethodName} {bytes : ByteArray} {mx : Nat} {rt : Option FieldType} {ws : List Jvm.Cond} {rm : Room} {as : Array Value} {h0 : Heap} {Q : Option Value → Heap → List Loc → Prop} (hp : plainFor y = true)
    (body : ∀ (p : Program) (e : Env) (s : State) (m : MethodId) (below : List Frame) (meth : Method) (c : Code) (T : State), Stand p l e rm s m as below meth c T [] 0 0 → p.tables.exec = Jvm.exec → c.code = bytes → c.maxLocals = mx → meth.sig.returnType = rt → meth.locks = false → Z.Warmed39 s.vm → s.vm.findClass y.cls = some m.cls → meth.name = y.name → T.heap = h0 →
      own_Go p e below (own_K Q s rm.cells rm.slots) T (entryFrame m as mx)) : own_Met l Z y bytes mx rt ws rm as h0 Q := by
  refine MetFree.of_bodySF hp hisR ?_
  intro p e s m args below meth c s₁ Bd hml0 hP hK
  obtain ⟨rfl, hZ, hh⟩ := hP
  exact body p e s m below meth c s₁ (Stand.of_body Bd) Bd.exec Bd.bytes hml0 Bd.returns Bd.notSynchronized hZ (findClass_of_methodNamed Bd.named) (name_of_methodNamed Bd.named Bd.method).1 (by rw [← hh, Bd.state]; rfl)
theorem own_ret (X : Stand p l e R s m args below meth c T locs cells slots) (hx : p.tables.exec = Jvm.exec) {Q : Option Value → Heap → List Loc → Prop} {cs ss : Nat} {w : Value} {t : FieldType} {i : Instr} {rest : List Value} (hlk : meth.locks = false) (hret : meth.sig.returnType = some t) (hd : decode c.code pc = .ok (i, 1)) (hn : narrow t w = w)
    (hi : (i = .ireturn ∧ (t = .int ∨ t = .boolean ∨ t = .byte ∨ t = .char ∨ t = .short) ∧ ∃ z, w = .int z) ∨ (i = .lreturn ∧ t = .long ∧ ∃ z, w = .long z) ∨ (i = .dreturn ∧ t = .double ∧ ∃ z, w = .double z) ∨ (i = .freturn ∧ t = .float ∧ ∃ z, w = .float z) ∨ (i = .areturn ∧ t.isReference = true ∧ w.isRef = true))
    (hc : cells ≤ cs) (hs : slots ≤ ss) (hq : Q (some w) T.heap locs) : own_Go p e below (own_K Q s cs ss) T (mkF m pc Ls (w :: rest)) := by
  obtain ⟨fs, hr, hrun, hended, hW, hsame⟩ := X.leave (v := some w) (fun h => by rw [hret] at h; cases h) hlk
  exact ⟨_, _, retOut X hx hret hn hi hd hr, hrun, hended, _, _, rfl, hq, ⟨_, rfl⟩, hW, hsame.mono hc hs⟩
theorem own_retI (X : Stand p l e R s m args below meth c T locs cells slots) (hx : p.tables.exec = Jvm.exec) {Q : Option Value → Heap → List Loc → Prop} {cs ss : Nat} {z : Int32} {rest : List Value} (hlk : meth.locks = false) (hret : meth.sig.returnType = some .int) (hd : decode c.code pc = .ok (.ireturn, 1)) (hc : cells ≤ cs) (hs : slots ≤ ss) (hq : Q (some (.int z)) T.heap locs) : own_Go p e below (own_K Q s cs ss) T (mkF m pc Ls (.int z :: rest)) :=
  own_ret X hx hlk hret hd rfl (Or.inl ⟨rfl, Or.inl rfl, z, rfl⟩) hc hs hq
theorem own_retZ (X : Stand p l e R s m args below meth c T locs cells slots) (hx : p.tables.exec = Jvm.exec) {Q : Option Value → Heap → List Loc → Prop} {cs ss : Nat} {z : Int32} {rest : List Value} (hlk : meth.locks = false) (hret : meth.sig.returnType = some .boolean) (hd : decode c.code pc = .ok (.ireturn, 1)) (hn : z = 0 ∨ z = 1) (hc : cells ≤ cs) (hs : slots ≤ ss) (hq : Q (some (.int z)) T.heap locs) : own_Go p e below (own_K Q s cs ss) T (mkF m pc Ls (.int z :: rest)) :=
  own_ret X hx hlk hret hd (by rcases hn with rfl | rfl <;> rfl) (Or.inl ⟨rfl, Or.inr (Or.inl rfl), z, rfl⟩) hc hs hq
theorem own_retJ (X : Stand p l e R s m args below meth c T locs cells slots) (hx : p.tables.exec = Jvm.exec) {Q : Option Value → Heap → List Loc → Prop} {cs ss : Nat} {z : Int64} {rest : List Value} (hlk : meth.locks = false) (hret : meth.sig.returnType = some .long) (hd : decode c.code pc = .ok (.lreturn, 1)) (hc : cells ≤ cs) (hs : slots ≤ ss) (hq : Q (some (.long z)) T.heap locs) : own_Go p e below (own_K Q s cs ss) T (mkF m pc Ls (.long z :: rest)) :=
  own_ret X hx hlk hret hd rfl (Or.inr (Or.inl ⟨rfl, rfl, z, rfl⟩)) hc hs hq
theorem own_retA (X : Stand p l e R s m args below meth c T locs cells slots) (hx : p.tables.exec = Jvm.exec) {Q : Option Value → Heap → List Loc → Prop} {cs ss : Nat} {w : Value} {t : FieldType} {rest : List Value} (hlk : meth.locks = false) (hret : meth.sig.returnType = some t) (hd : decode c.code pc = .ok (.areturn, 1)) (ht : t.isReference = true) (hv : w.isRef = true) (hc : cells ≤ cs) (hs : slots ≤ ss) (hq : Q (some w) T.heap locs) : own_Go p e below (own_K Q s cs ss) T (mkF m pc Ls (w :: rest)) :=
  own_ret X hx hlk hret hd (by rcases ref_cases hv with rfl | ⟨a, rfl⟩ <;> cases t <;> first | rfl | cases ht) (Or.inr (Or.inr (Or.inr (Or.inr ⟨rfl, ht, hv⟩)))) hc hs hq
theorem own_retV (X : Stand p l e R s m args below meth c T locs cells slots) (hx : p.tables.exec = Jvm.exec) {Q : Option Value → Heap → List Loc → Prop} {cs ss : Nat} (hlk : meth.locks = false) (hret : meth.sig.returnType = none) (hd : decode c.code pc = .ok (.return_, 1)) (hc : cells ≤ cs) (hs : slots ≤ ss) (hq : Q none T.heap locs) : own_Go p e below (own_K Q s cs ss) T (mkF m pc Ls []) := by
  obtain ⟨fs, hr, hrun, hended, hW, hsame⟩ := X.leave (v := none) (fun _ => rfl) hlk
  exact ⟨_, _, X.returnOut hx hret hd hr, hrun, hended, _, _, rfl, hq, ⟨_, rfl⟩, hW, hsame.mono hc hs⟩
/-- the two roads of a conditional branch -/
theorem own_if (X : Stand p l e R s m args below meth c T locs cells slots) (hx : p.tables.exec = Jvm.exec) {cd : ClassFile.Cond} {o : Int} {z : Int32} {rest : List Value} (hd : decode c.code pc = .ok (.ifCond cd o, 3)) (ho : 0 ≤ (pc : Int) + o) (hp : ((pc : Int) + o).toNat = pc') {pc1 : Nat} (hp1 : pc + 3 = pc1) (P : Prop) (h1 : P → ifCond.holds cd z = true) (h2 : ¬ P → ifCond.holds cd z = false)
    (kt : P → own_Go p e below K T (mkF m pc' Ls rest)) (kf : ¬ P → own_Go p e below K T (mkF m pc1 Ls rest)) : own_Go p e below K T (mkF m pc Ls (.int z :: rest)) := by
  subst hp1
  by_cases q : P
  · exact own_go (fun t k => XS.ifYes X.here hx (g := mkF m pc Ls (.int z :: rest)) rfl (pc0 := pc) (pc' := pc') rfl hd rfl (h1 q) ho hp k) (kt q)
  · exact own_go (fun t k => XS.ifNo X.here hx (g := mkF m pc Ls (.int z :: rest)) rfl hd rfl (h2 q) k) (kf q)
theorem own_icmp (X : Stand p l e R s m args below meth c T locs cells slots) (hx : p.tables.exec = Jvm.exec) {cd : ClassFile.Cond} {o : Int} {y z : Int32} {rest : List Value} (hd : decode c.code pc = .ok (.if_icmp cd o, 3)) (ho : 0 ≤ (pc : Int) + o) (hp : ((pc : Int) + o).toNat = pc') {pc1 : Nat} (hp1 : pc + 3 = pc1) (P : Prop) (h1 : P → if_icmp.holds cd y z = true) (h2 : ¬ P → if_icmp.holds cd y z = false)
    (kt : P → own_Go p e below K T (mkF m pc' Ls rest)) (kf : ¬ P → own_Go p e below K T (mkF m pc1 Ls rest)) : own_Go p e below K T (mkF m pc Ls (.int z :: .int y :: rest)) := by
  subst hp1
  by_cases q : P
  · exact own_go (fun t k => XS.icmpYes X.here hx (g := mkF m pc Ls (.int z :: .int y :: rest)) rfl (pc0 := pc) (pc' := pc') rfl hd rfl (h1 q) ho hp k) (kt q)
  · exact own_go (fun t k => XS.icmpNo X.here hx (g := mkF m pc Ls (.int z :: .int y :: rest)) rfl hd rfl (h2 q) k) (kf q)
theorem own_callS (X : Stand p l e R s m args below meth c T locs cells slots) (hx : p.tables.exec = Jvm.exec) (hZ : Z.Warmed39 s.vm) {own : String} {index : Nat} {y : MethodName} {bytes : ByteArray} {mx : Nat} {rt : Option FieldType} {rm : Room} {argsL rest : List Value} {Q : Option Value → Heap → List Loc → Prop}
    (hown : s.vm.findClass own = some m.cls) (w1 : (Jvm.Cond.methodLink own index y).before a0 Z = true) (w2 : (Jvm.Cond.static y).before a0 Z = true) (w3 : (Jvm.Cond.initialized y.cls).before a0 Z = true) (w4 : (Jvm.Cond.code y bytes mx rt).before a0 Z = true) (hy : y.cls ≠ "java/lang/invoke/MethodHandle" ∧ y.cls ≠ "java/lang/invoke/VarHandle")
    (eT : T.heap = h) (hM : own_Met l Z y bytes mx rt [] rm argsL.toArray h Q) (W : Nat) (hf : rm.frames + 1 ≤ R.frames) (hl : W + (mx + 11) + rm.locals ≤ R.locals) (hcl : cells + rm.cells ≤ R.cells) (hsl : slots + rm.slots ≤ R.slots) (hsz : Ls.size = c.maxLocals) (hlen : ∀ sig, parseMethodDescriptor y.desc = some sig → argsL.length = sig.parameters.length)
    (hst : st = argsL.reverse ++ rest) (hW : (rest.map fun v => v.category).sum ≤ W) (hd : decode c.code pc = .ok (.invokestatic index, 3)) :
    ∃ v T' L, Stand p l e R s m args below meth c T' (locs ++ L) (cells + rm.cells) (slots + rm.slots) ∧ Q v T'.heap L ∧ ∀ t, Steps p.tables e below (T'.setTop (mkF m (pc + 3) Ls (v.toList ++ rest))) t → Steps p.tables e below (T.setTop (mkF m pc Ls st)) t := by
  obtain ⟨v, vm1, ⟨T', L', k', n'⟩, -, X', ⟨L, hQ, l1, l2, l3⟩, stp⟩ := Jvm.LawKit.callS X hx (y := y) hown (mvT hZ w1) (mvT hZ w2) (mvT hZ w3) (mvT hZ w4) hy (backOf (W := W) hM hZ w4 w3 hf hl) (g := mkF m pc Ls st) rfl hsz (argsL := argsL) (rest := rest) hlen hst (by show 2 * 0 + _ ≤ _; omega) hd (fun _ _ => ⟨rfl, eT, hcl, hsl⟩)
  dsimp only [Pt.U, Pt.locs, Pt.cells, Pt.slots] at X' l1 l2 l3 stp hQ
  subst l1 l2 l3
  exact ⟨v, T', L, X', hQ, stp⟩
theorem own_callV (X : Stand p l e R s m args below meth c T locs cells slots) (hx : p.tables.exec = Jvm.exec) (hZ : Z.Warmed39 s.vm) {own C : String} {index : Nat} {y z : MethodName} {bytes : ByteArray} {mx : Nat} {rt : Option FieldType} {rm : Room} {b : Addr} {argsL rest : List Value} {Q : Option Value → Heap → List Loc → Prop}
    (hown : s.vm.findClass own = some m.cls) (w1 : (Jvm.Cond.methodLink own index y).before a0 Z = true) (w2 : (Jvm.Cond.declares y).before a0 Z = true) (w3 : (Jvm.Cond.selects C y z).before a0 Z = true) (hnf : NotFace s y) (w4 : (Jvm.Cond.instanceMethod z).before a0 Z = true) (w5 : (Jvm.Cond.code z bytes mx rt).before a0 Z = true) (w6 : (Jvm.Cond.initialized z.cls).before a0 Z = true) (hy : y.cls ≠ "java/lang/invoke/MethodHandle" ∧ y.cls ≠ "java/lang/invoke/VarHandle")
    (eT : T.heap = h) (E : Exa Z h b C) (hM : own_Met l Z z bytes mx rt [] rm (.ref b :: argsL).toArray h Q) (W : Nat) (hf : rm.frames + 1 ≤ R.frames) (hl : W + (mx + 11) + rm.locals ≤ R.locals) (hcl : cells + rm.cells ≤ R.cells) (hsl : slots + rm.slots ≤ R.slots) (hsz : Ls.size = c.maxLocals) (hlen : ∀ sig, parseMethodDescriptor y.desc = some sig → argsL.length = sig.parameters.length)
    (hst : st = argsL.reverse ++ .ref b :: rest) (hW : (rest.map fun v => v.category).sum ≤ W) (hd : decode c.code pc = .ok (.invokevirtual index, 3)) :
    ∃ v T' L, Stand p l e R s m args below meth c T' (locs ++ L) (cells + rm.cells) (slots + rm.slots) ∧ Q v T'.heap L ∧ ∀ t, Steps p.tables e below (T'.setTop (mkF m (pc + 3) Ls (v.toList ++ rest))) t → Steps p.tables e below (T.setTop (mkF m pc Ls st)) t := by
  obtain ⟨cq, kq, q1, q2, q3⟩ := isOf hZ eT E
  obtain ⟨v, vm1, ⟨T', L', k', n'⟩, -, X', ⟨L, hQ, l1, l2, l3⟩, stp⟩ := X.virtualBack hx (y := y) (z := z) hown (mvT hZ w1) (mvT hZ w2) hnf (mvT hZ w3) (mvT hZ w4) hy (backOf (W := W) hM hZ w5 w6 hf hl) q1 q3 (g := mkF m pc Ls st) rfl hsz (Steps.refl _) (argsL := argsL) (rest := rest) hlen hst (by show 2 * 0 + _ ≤ _; omega) hd (fun _ _ => ⟨rfl, eT, hcl, hsl⟩)
  dsimp only [Pt.U, Pt.locs, Pt.cells, Pt.slots] at X' l1 l2 l3 stp hQ
  subst l1 l2 l3
  exact ⟨v, T', L, X', hQ, fun t k => stp.trans k⟩
theorem own_callU (X : Stand p l e R s m args below meth c T locs cells slots) (hx : p.tables.exec = Jvm.exec) (hZ : Z.Warmed39 s.vm) {own C owner : String} {index : Nat} {y z : MethodName} {bytes : ByteArray} {mx : Nat} {rt : Option FieldType} {rm : Room} {b : Addr} {argsL rest : List Value} {Q : Option Value → Heap → List Loc → Prop}
    (hown : s.vm.findClass own = some m.cls) (w1 : (Jvm.Cond.methodLink own index y).before a0 Z = true) (w2 : (Jvm.Cond.sameMethod y.cls owner y.name y.desc).before a0 Z = true) (w2' : (Jvm.Cond.declares ⟨owner, y.name, y.desc⟩).before a0 Z = true) (w3 : (Jvm.Cond.selects C y z).before a0 Z = true) (w4 : (Jvm.Cond.instanceMethod z).before a0 Z = true) (w5 : (Jvm.Cond.code z bytes mx rt).before a0 Z = true) (w6 : (Jvm.Cond.initialized z.cls).before a0 Z = true) (hy : owner ≠ "java/lang/invoke/MethodHandle" ∧ owner ≠ "java/lang/invoke/VarHandle")
    (eT : T.heap = h) (E : Exa Z h b C) (hM : own_Met l Z z bytes mx rt [] rm (.ref b :: argsL).toArray h Q) (W : Nat) (hf : rm.frames + 1 ≤ R.frames) (hl : W + (mx + 11) + rm.locals ≤ R.locals) (hcl : cells + rm.cells ≤ R.cells) (hsl : slots + rm.slots ≤ R.slots) (hsz : Ls.size = c.maxLocals) (hlen : ∀ sig, parseMethodDescriptor y.desc = some sig → argsL.length = sig.parameters.length)
    (hst : st = argsL.reverse ++ .ref b :: rest) (hW : (rest.map fun v => v.category).sum ≤ W) (hd : decode c.code pc = .ok (.invokevirtual index, 3)) :
    ∃ v T' L, Stand p l e R s m args below meth c T' (locs ++ L) (cells + rm.cells) (slots + rm.slots) ∧ Q v T'.heap L ∧ ∀ t, Steps p.tables e below (T'.setTop (mkF m (pc + 3) Ls (v.toList ++ rest))) t → Steps p.tables e below (T.setTop (mkF m pc Ls st)) t := by
  obtain ⟨cq, kq, q1, q2, q3⟩ := isOf hZ eT E
  obtain ⟨v, vm1, ⟨T', L', k', n'⟩, -, X', ⟨L, hQ, l1, l2, l3⟩, stp⟩ := X.virtualBackUp hx (x := y) (y := z) hown (mvT hZ w1) (mvT hZ w2) (mvT hZ w2') hy (mvT hZ w3) (mvT hZ w4) (backOf (W := W) hM hZ w5 w6 hf hl) q1 q3 (g := mkF m pc Ls st) rfl hsz (Steps.refl _) (argsL := argsL) (rest := rest) hlen hst (by show 2 * 0 + _ ≤ _; omega) hd (fun _ _ => ⟨rfl, eT, hcl, hsl⟩)
  dsimp only [Pt.U, Pt.locs, Pt.cells, Pt.slots] at X' l1 l2 l3 stp hQ
  subst l1 l2 l3
  exact ⟨v, T', L, X', hQ, fun t k => stp.trans k⟩
theorem own_callC (X : Stand p l e R s m args below meth c T locs cells slots) (hx : p.tables.exec = Jvm.exec) (hZ : Z.Warmed39 s.vm) {own : String} {index : Nat} {y : MethodName} {bytes : ByteArray} {mx : Nat} {rm : Room} {b : Addr} {argsL rest : List Value} {Q : Option Value → Heap → List Loc → Prop}
    (hy1 : y.name = "<init>") (hown : s.vm.findClass own = some m.cls) (w1 : (Jvm.Cond.methodLink own index y).before a0 Z = true) (w4 : (Jvm.Cond.instanceMethod y).before a0 Z = true) (w5 : (Jvm.Cond.code y bytes mx none).before a0 Z = true) (w6 : (Jvm.Cond.initialized y.cls).before a0 Z = true) (hy : y.cls ≠ "java/lang/invoke/MethodHandle" ∧ y.cls ≠ "java/lang/invoke/VarHandle")
    (eT : T.heap = h) (hM : own_Met l Z y bytes mx none [] rm (.ref b :: argsL).toArray h Q) (W : Nat) (hf : rm.frames + 1 ≤ R.frames) (hl : W + (mx + 11) + rm.locals ≤ R.locals) (hcl : cells + rm.cells ≤ R.cells) (hsl : slots + rm.slots ≤ R.slots) (hsz : Ls.size = c.maxLocals) (hlen : ∀ sig, parseMethodDescriptor y.desc = some sig → argsL.length = sig.parameters.length)
    (hst : st = argsL.reverse ++ .ref b :: rest) (hW : (rest.map fun v => v.category).sum ≤ W) (hd : decode c.code pc = .ok (.invokespecial index, 3)) :
    ∃ v T' L, Stand p l e R s m args below meth c T' (locs ++ L) (cells + rm.cells) (slots + rm.slots) ∧ Q v T'.heap L ∧ ∀ t, Steps p.tables e below (T'.setTop (mkF m (pc + 3) Ls (v.toList ++ rest))) t → Steps p.tables e below (T.setTop (mkF m pc Ls st)) t := by
  obtain ⟨v, vm1, ⟨T', L', k', n'⟩, -, X', ⟨L, hQ, l1, l2, l3⟩, stp⟩ := X.specialBack hx (y := y) hy1 hown (mvT hZ w1) (mvT hZ w4) (mvT hZ w5) hy (backOf (W := W) hM hZ w5 w6 hf hl) (g := mkF m pc Ls st) rfl hsz (Steps.refl _) (a := b) (argsL := argsL) (rest := rest) hlen hst (by show 2 * 0 + _ ≤ _; omega) hd (fun _ _ => ⟨rfl, eT, hcl, hsl⟩)
  dsimp only [Pt.U, Pt.locs, Pt.cells, Pt.slots] at X' l1 l2 l3 stp hQ
  subst l1 l2 l3
  exact ⟨v, T', L, X', hQ, fun t k => stp.trans k⟩
end Own
section OwnStart
variable {Z : State} {args : Array Value} {t u : Term} {a : Addr} {C n d : String}
theorem own_eqI {k : Int32} (h : (Jvm.Cond.eq t (.int k)).value args Z none Z [] = some true) : t.eval args Z none [] Z = some (.int k) := by
  simp only [Cond.value, Term.eval] at h
  cases ht : t.eval args Z none [] Z with
  | none => simp [ht] at h
  | some x => cases x <;> simp [ht] at h ⊢; exact h
theorem own_eqJ {k : Int64} (h : (Jvm.Cond.eq t (.long k)).value args Z none Z [] = some true) : t.eval args Z none [] Z = some (.long k) := by
  simp only [Cond.value, Term.eval] at h
  cases ht : t.eval args Z none [] Z with
  | none => simp [ht] at h
  | some x => cases x <;> simp [ht] at h ⊢; exact h
theorem own_fld {v : Value} (ev : t.eval args Z none [] Z = some (.ref a)) (h : (Term.field t C n d).eval args Z none [] Z = some v) : Fld Z Z.heap a C n d v := Fld.start ((fld_at ev).symm.trans h)
theorem own_eqR {b : Addr} (ha : t.eval args Z none [] Z = some (.ref b)) (h : (Jvm.Cond.eq u t).value args Z none Z [] = some true) : u.eval args Z none [] Z = some (.ref b) := by
  cases hu : u.eval args Z none [] Z with
  | none => simp [Cond.value, hu] at h
  | some x => cases x <;> simp [Cond.value, hu, ha] at h ⊢; exact h
theorem own_lenOf {cl : Cell} {ty : FieldType} {k : Int32} (ev : t.eval args Z none [] Z = some (.ref a)) (A : Arr Z Z.heap a cl ty) (h : (Term.length t).eval args Z none [] Z = some (.int k)) : cl.slots.size < 2 ^ 31 ∧ cl.slots.size.toInt32 = k := by
  have q := A.fin (Vm.Alike.refl _)
  by_cases hl : cl.slots.size < 2 ^ 31
  · rw [len_f ev q hl] at h
    exact ⟨hl, by cases h; rfl⟩
  · simp [Term.eval, ev, q, hl] at h
end OwnStart
section OwnArr
variable {p : Program} {l : Launch} {e : Env} {R : Room} {s : State} {m : MethodId} {args : Array Value} {below : List Frame} {meth : Method} {c : Code} {T : State} {locs : List Loc} {cells slots : Nat} {Z : State} {a0 : Array Value} {K : State → Outcome → Prop} {pc pc' : Nat} {Ls : Array Slot} {rest : List Value} {h : Heap}
theorem own_oldge {n0 : Nat} (O : Old Z n0 h) : n0 ≤ h.size := O.1 ▸ O.2.1
theorem own_newR (X : Stand p l e R s m args below meth c T locs cells slots) (hx : p.tables.exec = Jvm.exec) (hZ : Z.Warmed39 s.vm) {own C : String} {index : Nat} (hown : s.vm.findClass own = some m.cls) (w1 : (Jvm.Cond.classLink own index C).before a0 Z = true) (w2 : (Jvm.Cond.arrayOver (.object C)).before a0 Z = true) (eT : T.heap = h)
    (hd : decode c.code pc = .ok (.anewarray index, 3)) {n : Int32} (hn : ¬ n < 0) (cap : Nat) (hcap : n.toNatClampNeg ≤ cap) (hb : cap * 8 ≤ 536870912) (hc : cells + 1 ≤ R.cells) (hl : slots + cap ≤ R.slots) :
    ∃ T' h' b kA, Stand p l e R s m args below meth c T' locs (cells + 1) (slots + cap) ∧ T'.heap = h' ∧ Ext h h' ∧ b = h.size ∧ Arv Z h' b kA (.object C) n (List.replicate cap .null) .null ∧ Ovr Z kA C ∧ ∀ t, Steps p.tables e below (T'.setTop (mkF m (pc + 3) Ls (.ref b :: rest))) t → Steps p.tables e below (T.setTop (mkF m pc Ls (.int n :: rest))) t := by
  obtain ⟨T', h', kA, X', e', E', A', O', st'⟩ := newR X hx hZ hown w1 w2 eT (g := mkF m pc Ls (.int n :: rest)) rfl hd rfl hn hcap hb hc hl
  exact ⟨T', h', h.size, kA, X', e', E', rfl, (Arv.new A' hn).pad (pad_rep [] _ cap), O', st'⟩
theorem own_stR (X : Stand p l e R s m args below meth c T locs cells slots) (hx : p.tables.exec = Jvm.exec) (hZ : Z.Warmed39 s.vm) (eT : T.heap = h) {b y : Addr} {kA : ClassId} {C : String} {n j : Int32} {vs vs' : List Value} (V : Arv Z h b kA (.object C) n vs .null) (O : Ovr Z kA C) (I : Ins Z h y C true) (hj : ¬ j < 0 ∧ j < n) (i : Nat) (hi : j.toNatClampNeg = i) (hil : i < vs.length) (hvs : vs.set i (.ref y) = vs') {n0 : Nat} (N : Fr n0 locs) (g : n0 ≤ b)
    (hd : decode c.code pc = .ok (.aastore, 1)) :
    ∃ T' h' L', Stand p l e R s m args below meth c T' L' cells slots ∧ Fr n0 L' ∧ T'.heap = h' ∧ Wr h h' b i (.ref y) ∧ Arv Z h' b kA (.object C) n vs' .null ∧ ∀ t, Steps p.tables e below (T'.setTop (mkF m (pc + 1) Ls rest)) t → Steps p.tables e below (T.setTop (mkF m pc Ls (.ref y :: .int j :: .ref b :: rest))) t := by
  obtain ⟨cl, A, q, S, Nn, H, G⟩ := V
  subst hvs
  obtain ⟨T', h', X', e', W', st'⟩ := stR X hx hZ eT A (j := j) (inb_of S hj) rfl (Sto.ofV A q O I) (g := mkF m pc Ls (.ref y :: .int j :: .ref b :: rest)) rfl rfl hd
  refine ⟨T', h', _, X', Fr.snoc X' N g, e', hi ▸ W', Arv.set A q S Nn H G rfl W' i hi hil, st'⟩
theorem own_ldR (X : Stand p l e R s m args below meth c T locs cells slots) (hx : p.tables.exec = Jvm.exec) (hZ : Z.Warmed39 s.vm) (eT : T.heap = h) {b : Addr} {kA : ClassId} {ty : FieldType} {n j : Int32} {vs : List Value} {dv v : Value} (V : Arv Z h b kA ty n vs dv) (hty : ty.isReference = true) (hj : ¬ j < 0 ∧ j < n) (hv : vs.getD j.toNatClampNeg dv = v) (hd : decode c.code pc = .ok (.aaload, 1)) :
    ∀ t, Steps p.tables e below (T.setTop (mkF m (pc + 1) Ls (v :: rest))) t → Steps p.tables e below (T.setTop (mkF m pc Ls (.int j :: .ref b :: rest))) t := by
  obtain ⟨cl, A, q, S, Nn, H, G⟩ := V
  intro t k
  exact X.aaload hx (j := j) (v := v) (by rw [eT]; exact A.1) (State.isArrayOf_alike hZ.alike A.2.1) hty A.2.2 (inb_of S hj) (H.at (inb_of S hj) hv) (g := mkF m pc Ls (.int j :: .ref b :: rest)) rfl rfl hd t k
theorem own_len (X : Stand p l e R s m args below meth c T locs cells slots) (hx : p.tables.exec = Jvm.exec) (hZ : Z.Warmed39 s.vm) (eT : T.heap = h) {b : Addr} {kA : ClassId} {ty : FieldType} {n : Int32} {vs : List Value} {dv : Value} (V : Arv Z h b kA ty n vs dv) (hd : decode c.code pc = .ok (.arraylength, 1)) :
    ∀ t, Steps p.tables e below (T.setTop (mkF m (pc + 1) Ls (.int n :: rest))) t → Steps p.tables e below (T.setTop (mkF m pc Ls (.ref b :: rest))) t := by
  obtain ⟨cl, A, q, S, Nn, H, G⟩ := V
  intro t k
  refine X.arraylength hx (by rw [eT]; exact A.1) (State.isArrayOf_alike hZ.alike A.2.1) (g := mkF m pc Ls (.ref b :: rest)) rfl rfl hd t ?_
  rw [len_of S Nn]
  exact k
end OwnArr
theorem own_maskInt (x : Int32) : 0 ≤ (x &&& (2147483647 : Int32)).toInt := by
  have h : (x &&& (2147483647 : Int32)).toBitVec.msb = false := by
    show (x.toBitVec &&& 2147483647#32).msb = false
    rw [BitVec.msb_and]
    have : (2147483647#32).msb = false := by decide
    rw [this, Bool.and_false]
  have h2 : (x &&& (2147483647 : Int32)).toInt = (x &&& (2147483647 : Int32)).toBitVec.toInt := rfl
  rw [h2, BitVec.toInt_eq_toNat_of_msb h]
  omega
theorem own_rem (x n : Int32) (hn : 0 < n.toInt) : ¬ (x &&& (2147483647 : Int32)) % n < 0 ∧ (x &&& (2147483647 : Int32)) % n < n := by
  have h0 := own_maskInt x
  have e0 : (0 : Int32).toInt = 0 := rfl
  rw [Int32.lt_iff_toInt_lt, Int32.lt_iff_toInt_lt, Int32.toInt_mod, e0]
  have h1 := Int.tmod_nonneg n.toInt h0
  have h2 := Int.tmod_lt_of_pos (x &&& (2147483647 : Int32)).toInt hn
  omega
section OwnObj
variable {p : Program} {l : Launch} {e : Env} {R : Room} {s : State} {m : MethodId} {args : Array Value} {below : List Frame} {meth : Method} {c : Code} {T : State} {locs : List Loc} {cells slots : Nat} {Z : State} {a0 : Array Value} {pc : Nat} {Ls : Array Slot} {st rest : List Value} {h : Heap}
theorem own_newO (X : Stand p l e R s m args below meth c T locs cells slots) (hx : p.tables.exec = Jvm.exec) (hZ : Z.Warmed39 s.vm) {own C : String} {index n : Nat} (hown : s.vm.findClass own = some m.cls) (w : (Jvm.Cond.classLink own index C).before a0 Z = true) (wi : (Jvm.Cond.instantiable C n).before a0 Z = true) (wz : (Jvm.Cond.initialized C).before a0 Z = true) (eT : T.heap = h)
    (hd : decode c.code pc = .ok (.new index, 3)) (hc : cells + 1 ≤ R.cells) (hl : slots + n ≤ R.slots) :
    ∃ T' h' b, Stand p l e R s m args below meth c T' locs (cells + 1) (slots + n) ∧ T'.heap = h' ∧ Ext h h' ∧ b = h.size ∧ Exa Z h' b C ∧ (∀ {O nm d : String} {ty : FieldType}, Laid Z a0 C O nm d → parseFieldDescriptor d = some ty → Fld Z h' b O nm d (defaultValue ty)) ∧
      ∀ t, Steps p.tables e below (T'.setTop (mkF m (pc + 3) Ls (.ref b :: st))) t → Steps p.tables e below (T.setTop (mkF m pc Ls st)) t := by
  obtain ⟨T', h', X', e', E', A', D', -, st'⟩ := newO X hx hZ hown w wi wz eT (g := mkF m pc Ls st) rfl hd hc hl
  exact ⟨T', h', h.size, X', e', E', rfl, A', D', st'⟩
theorem own_refNar {t : FieldType} {v : Value} (ht : t.isReference = true) (hv : v.isRef = true) : narrow t v = v := by
  rcases ref_cases hv with rfl | ⟨a, rfl⟩ <;> cases t <;> first | rfl | cases ht
theorem own_refFit {t : FieldType} {v : Value} (ht : t.isReference = true) (hv : v.isRef = true) : fits t v = true := by
  rcases ref_cases hv with rfl | ⟨a, rfl⟩ <;> cases t <;> first | rfl | cases ht
theorem own_putF (X : Stand p l e R s m args below meth c T locs cells slots) (hx : p.tables.exec = Jvm.exec) (hZ : Z.Warmed39 s.vm) {own R0 O n d host C : String} {index kk : Nat} (hown : s.vm.findClass own = some m.cls) (w : (Jvm.Cond.fieldLink own index R0 n d).before a0 Z = true ∨ (Jvm.Cond.fieldLinkNest own index R0 n d host).before a0 Z = true) (via : Via Z R0 O n d)
    (eT : T.heap = h) {a : Addr} {v old : Value} (F : Fld Z h a O n d old) (E : Exa Z h a C) (L : (Jvm.Cond.lays C O n d).before a0 Z = true ∨ ((Jvm.Cond.laysFinal C O n d).before a0 Z = true ∧ own = O ∧ meth.name = "<init>")) (wi : (Jvm.Cond.instantiable C kk).before a0 Z = true)
    (ty : FieldType) (hty : parseFieldDescriptor d = some ty) (hn : narrow ty v = v) (hf : fits ty v = true) {n0 : Nat} (N : Fr n0 locs) (g : n0 ≤ a) (hd : decode c.code pc = .ok (.putfield index, 3)) :
    ∃ T' h' L', Stand p l e R s m args below meth c T' L' cells slots ∧ Fr n0 L' ∧ T'.heap = h' ∧ Wr h h' a (Jvm.RoadKit.slotOf Z O n d) v ∧ Fld Z h' a O n d v ∧ ∀ t, Steps p.tables e below (T'.setTop (mkF m (pc + 3) Ls rest)) t → Steps p.tables e below (T.setTop (mkF m pc Ls (v :: .ref a :: rest))) t := by
  obtain ⟨T', h', X', e', W', st'⟩ := putF X hx hZ hown w via eT F E L wi (ty := ty) hty hn hf (g := mkF m pc Ls (v :: .ref a :: rest)) rfl rfl hd
  exact ⟨T', h', _, X', Fr.snoc X' N g, e', W', F.same W', st'⟩
end OwnObj
theorem own_size {n : Nat} (h1 : n < 2 ^ 31) (h2 : n.toInt32 = 256) : n = 256 := by
  have h3 := len_toInt h1
  rw [h2] at h3
  have : (256 : Int32).toInt = 256 := rfl
  omega
theorem own_cidx (q : Int64) (h1 : ¬ q < (-128 : Int64)) (h2 : ¬ (127 : Int64) < q) {n : Nat} (hn : n = 256) : ¬ (q.toInt32 + (128 : Int32) < 0 ∨ n ≤ (q.toInt32 + (128 : Int32)).toNatClampNeg) := by
  subst hn
  rw [Int64.lt_iff_toInt_lt] at h1 h2
  have e1 : (-128 : Int64).toInt = -128 := rfl
  have e2 : (127 : Int64).toInt = 127 := rfl
  have e3 : q.toInt32.toInt = q.toInt := by rw [Int64.toInt_toInt32]; exact Int.bmod_eq_of_le (by omega) (by omega)
  have e4 : (q.toInt32 + (128 : Int32)).toInt = q.toInt + 128 := by
    have e5 : (128 : Int32).toInt = 128 := rfl
    rw [Int32.toInt_add, e3, e5]; exact Int.bmod_eq_of_le (by omega) (by omega)
  have e0 : (0 : Int32).toInt = 0 := rfl
  rw [Int32.lt_iff_toInt_lt, e4, e0]
  simp only [Int32.toNatClampNeg, e4]
  omega
theorem own_sub0 {x y : Int32} : x.toInt64 - y.toInt64 = (0 : Int64) ↔ y = x := by
  have hx1 := x.le_toInt
  have hx2 := x.toInt_lt
  have hy1 := y.le_toInt
  have hy2 := y.toInt_lt
  have e0 : (0 : Int64).toInt = 0 := rfl
  rw [← Int64.toInt_inj, Int64.toInt_sub, Int32.toInt_toInt64, Int32.toInt_toInt64, e0, ← Int32.toInt_inj, Int.bmod_eq_of_le (by omega) (by omega)]
  omega
theorem pn_java_lang_Record : plainName "java/lang/Record" = true := by first | (simp [plainName, overriddenIn]; done) | decide +kernel
theorem ef_2 (m : MethodId) (x0 : Addr) : entryFrame m #[(.ref x0)] 1 = mkF m 0 #[.val (.ref x0)] [] := by first | (simp [entryFrame, mkF, argsToLocals, Value.category]; done) | rfl
theorem d2_0 : decode jdk_30_method_1_code 0 = .ok (.aload_n 0, 1) := by decide +kernel
theorem d2_1 : decode jdk_30_method_1_code 1 = .ok (.invokespecial 1, 3) := by decide +kernel
theorem d2_4 : decode jdk_30_method_1_code 4 = .ok (.return_, 1) := by decide +kernel
theorem pn_java_lang_Number : plainName "java/lang/Number" = true := by first | (simp [plainName, overriddenIn]; done) | decide +kernel
theorem ef_7 (m : MethodId) (x0 : Addr) : entryFrame m #[(.ref x0)] 1 = mkF m 0 #[.val (.ref x0)] [] := by first | (simp [entryFrame, mkF, argsToLocals, Value.category]; done) | rfl
theorem d7_0 : decode jdk_18_method_1_code 0 = .ok (.aload_n 0, 1) := by decide +kernel
theorem d7_1 : decode jdk_18_method_1_code 1 = .ok (.invokespecial 1, 3) := by decide +kernel
theorem d7_4 : decode jdk_18_method_1_code 4 = .ok (.return_, 1) := by decide +kernel
theorem pn_java_lang_Long : plainName "java/lang/Long" = true := by first | (simp [plainName, overriddenIn]; done) | decide +kernel
theorem ef_6 (m : MethodId) (x0 : Addr) (x1 : Int64) : entryFrame m #[(.ref x0), (.long x1)] 3 = mkF m 0 #[.val (.ref x0), .val (.long x1), .second] [] := by first | (simp [entryFrame, mkF, argsToLocals, Value.category]; done) | rfl
theorem d6_0 : decode jdk_35_method_26_code 0 = .ok (.aload_n 0, 1) := by decide +kernel
theorem d6_1 : decode jdk_35_method_26_code 1 = .ok (.invokespecial 270, 3) := by decide +kernel
theorem pd_0 : parseMethodDescriptor "()V" = some ⟨[], none⟩ := by decide +kernel
theorem d6_4 : decode jdk_35_method_26_code 4 = .ok (.aload_n 0, 1) := by decide +kernel
theorem d6_5 : decode jdk_35_method_26_code 5 = .ok (.lload_n 1, 1) := by decide +kernel
theorem d6_6 : decode jdk_35_method_26_code 6 = .ok (.putfield 273, 3) := by decide +kernel
theorem d6_9 : decode jdk_35_method_26_code 9 = .ok (.return_, 1) := by decide +kernel
theorem pn_com_example_lease_lease_service_BenchFigures : plainName "com/example/lease/lease/service/BenchFigures" = true := by first | (simp [plainName, overriddenIn]; done) | decide +kernel
theorem ef_1 (m : MethodId) (x0 : Addr) (x1 : Int32) (x2 : Int32) (x3 : Value) (x4 : Value) (x5 : Value) (x6 : Value) (hv3 : x3.isRef = true) (hv4 : x4.isRef = true) (hv5 : x5.isRef = true) (hv6 : x6.isRef = true) : entryFrame m #[(.ref x0), (.int x1), (.int x2), x3, x4, x5, x6] 7 = mkF m 0 #[.val (.ref x0), .val (.int x1), .val (.int x2), .val x3, .val x4, .val x5, .val x6] [] := by
  rcases ref_cases hv3 with rfl | ⟨z3, rfl⟩ <;>
  rcases ref_cases hv4 with rfl | ⟨z4, rfl⟩ <;>
  rcases ref_cases hv5 with rfl | ⟨z5, rfl⟩ <;>
  rcases ref_cases hv6 with rfl | ⟨z6, rfl⟩ <;>
  first | (simp [entryFrame, mkF, argsToLocals, Value.category]; done) | rfl
theorem d1_0 : decode prog_28_method_1_code 0 = .ok (.aload_n 0, 1) := by decide +kernel
theorem d1_1 : decode prog_28_method_1_code 1 = .ok (.invokespecial 1, 3) := by decide +kernel
theorem d1_4 : decode prog_28_method_1_code 4 = .ok (.aload_n 0, 1) := by decide +kernel
theorem d1_5 : decode prog_28_method_1_code 5 = .ok (.iload_n 1, 1) := by decide +kernel
theorem d1_6 : decode prog_28_method_1_code 6 = .ok (.putfield 7, 3) := by decide +kernel
theorem d1_9 : decode prog_28_method_1_code 9 = .ok (.aload_n 0, 1) := by decide +kernel
theorem d1_10 : decode prog_28_method_1_code 10 = .ok (.iload_n 2, 1) := by decide +kernel
theorem d1_11 : decode prog_28_method_1_code 11 = .ok (.putfield 13, 3) := by decide +kernel
theorem d1_14 : decode prog_28_method_1_code 14 = .ok (.aload_n 0, 1) := by decide +kernel
theorem d1_15 : decode prog_28_method_1_code 15 = .ok (.aload_n 3, 1) := by decide +kernel
theorem d1_16 : decode prog_28_method_1_code 16 = .ok (.putfield 16, 3) := by decide +kernel
theorem d1_19 : decode prog_28_method_1_code 19 = .ok (.aload_n 0, 1) := by decide +kernel
theorem d1_20 : decode prog_28_method_1_code 20 = .ok (.aload 4, 2) := by decide +kernel
theorem d1_22 : decode prog_28_method_1_code 22 = .ok (.putfield 20, 3) := by decide +kernel
theorem d1_25 : decode prog_28_method_1_code 25 = .ok (.aload_n 0, 1) := by decide +kernel
theorem d1_26 : decode prog_28_method_1_code 26 = .ok (.aload 5, 2) := by decide +kernel
theorem d1_28 : decode prog_28_method_1_code 28 = .ok (.putfield 23, 3) := by decide +kernel
theorem d1_31 : decode prog_28_method_1_code 31 = .ok (.aload_n 0, 1) := by decide +kernel
theorem d1_32 : decode prog_28_method_1_code 32 = .ok (.aload 6, 2) := by decide +kernel
theorem d1_34 : decode prog_28_method_1_code 34 = .ok (.putfield 26, 3) := by decide +kernel
theorem d1_37 : decode prog_28_method_1_code 37 = .ok (.return_, 1) := by decide +kernel
theorem ef_4 (m : MethodId) (x0 : Addr) : entryFrame m #[(.ref x0)] 1 = mkF m 0 #[.val (.ref x0)] [] := by first | (simp [entryFrame, mkF, argsToLocals, Value.category]; done) | rfl
theorem d4_0 : decode prog_28_method_3_code 0 = .ok (.aload_n 0, 1) := by decide +kernel
theorem d4_1 : decode prog_28_method_3_code 1 = .ok (.getfield 13, 3) := by decide +kernel
theorem d4_4 : decode prog_28_method_3_code 4 = .ok (.aload_n 0, 1) := by decide +kernel
theorem d4_5 : decode prog_28_method_3_code 5 = .ok (.getfield 7, 3) := by decide +kernel
theorem d4_8 : decode prog_28_method_3_code 8 = .ok (.if_icmp .ne 7, 3) := by decide +kernel
theorem d4_11 : decode prog_28_method_3_code 11 = .ok (.iconst 1, 1) := by decide +kernel
theorem d4_12 : decode prog_28_method_3_code 12 = .ok (.goto 4, 3) := by decide +kernel
theorem d4_16 : decode prog_28_method_3_code 16 = .ok (.ireturn, 1) := by decide +kernel
theorem d4_15 : decode prog_28_method_3_code 15 = .ok (.iconst 0, 1) := by decide +kernel
theorem ef_5 (m : MethodId) (x0 : Int64) : entryFrame m #[(.long x0)] 3 = mkF m 0 #[.val (.long x0), .second, .unset] [] := by first | (simp [entryFrame, mkF, argsToLocals, Value.category]; done) | rfl
theorem d5_0 : decode jdk_35_method_24_code 0 = .ok (.sipush 128, 3) := by decide +kernel
theorem d5_3 : decode jdk_35_method_24_code 3 = .ok (.istore_n 2, 1) := by decide +kernel
theorem d5_4 : decode jdk_35_method_24_code 4 = .ok (.lload_n 0, 1) := by decide +kernel
theorem d5_5 : decode jdk_35_method_24_code 5 = .ok (.ldc2_w 230, 3) := by decide +kernel
theorem d5_8 : decode jdk_35_method_24_code 8 = .ok (.lcmp, 1) := by decide +kernel
theorem d5_9 : decode jdk_35_method_24_code 9 = .ok (.ifCond .lt 22, 3) := by decide +kernel
theorem d5_31 : decode jdk_35_method_24_code 31 = .ok (.new 1, 3) := by decide +kernel
theorem d5_34 : decode jdk_35_method_24_code 34 = .ok (.dup, 1) := by decide +kernel
theorem d5_35 : decode jdk_35_method_24_code 35 = .ok (.lload_n 0, 1) := by decide +kernel
theorem d5_36 : decode jdk_35_method_24_code 36 = .ok (.invokespecial 240, 3) := by decide +kernel
theorem pd_5 : parseMethodDescriptor "(J)V" = some ⟨[.long], none⟩ := by decide +kernel
theorem d5_39 : decode jdk_35_method_24_code 39 = .ok (.areturn, 1) := by decide +kernel
theorem d5_12 : decode jdk_35_method_24_code 12 = .ok (.lload_n 0, 1) := by decide +kernel
theorem d5_13 : decode jdk_35_method_24_code 13 = .ok (.ldc2_w 232, 3) := by decide +kernel
theorem d5_16 : decode jdk_35_method_24_code 16 = .ok (.lcmp, 1) := by decide +kernel
theorem d5_17 : decode jdk_35_method_24_code 17 = .ok (.ifCond .gt 14, 3) := by decide +kernel
theorem d5_20 : decode jdk_35_method_24_code 20 = .ok (.getstatic 234, 3) := by decide +kernel
theorem d5_23 : decode jdk_35_method_24_code 23 = .ok (.lload_n 0, 1) := by decide +kernel
theorem d5_24 : decode jdk_35_method_24_code 24 = .ok (.l2i, 1) := by decide +kernel
theorem d5_25 : decode jdk_35_method_24_code 25 = .ok (.sipush 128, 3) := by decide +kernel
theorem d5_28 : decode jdk_35_method_24_code 28 = .ok (.iadd, 1) := by decide +kernel
theorem d5_29 : decode jdk_35_method_24_code 29 = .ok (.aaload, 1) := by decide +kernel
theorem d5_30 : decode jdk_35_method_24_code 30 = .ok (.areturn, 1) := by decide +kernel
theorem pn_com_example_lease_lease_service_BenchFiguresAllSucceededPinLaw : plainName "com/example/lease/lease/service/BenchFiguresAllSucceededPinLaw" = true := by first | (simp [plainName, overriddenIn]; done) | decide +kernel
theorem ef_0 (m : MethodId) (x0 : Int32) (x1 : Int32) (x2 : Int32) (x3 : Int64) (x4 : Int64) : entryFrame m #[(.int x0), (.int x1), (.int x2), (.long x3), (.long x4)] maxLocals = mkF m 0 #[.val (.int x0), .val (.int x1), .val (.int x2), .val (.long x3), .second, .val (.long x4), .second, .unset, .unset, .unset, .unset, .unset, .unset, .unset, .unset] [] := by first | (simp [entryFrame, mkF, argsToLocals, Value.category, maxLocals]; done) | rfl
theorem pd_3 : parseMethodDescriptor "(IILjava/lang/Long;Ljava/lang/Long;Ljava/lang/Long;Ljava/lang/Long;)V" = some ⟨[.int, .int, (.object "java/lang/Long"), (.object "java/lang/Long"), (.object "java/lang/Long"), (.object "java/lang/Long")], none⟩ := by decide +kernel
theorem pd_1 : parseMethodDescriptor "()Z" = some ⟨[], some .boolean⟩ := by decide +kernel
theorem pd_4 : parseMethodDescriptor "(J)Ljava/lang/Long;" = some ⟨[.long], some (.object "java/lang/Long")⟩ := by decide +kernel
set_option maxRecDepth 65536 in
set_option maxHeartbeats 40000000 in
theorem rmRecord (l : Launch) (Z : State) (a0 : Array Value) (hw : ∀ d ∈ tables_1, d.before a0 Z = true) (ws : List Jvm.Cond) (a1 : Addr) (h0 : Heap) (n0 : Nat) (Z0 : n0 ≤ h0.size) :
    own_Met l Z (⟨"java/lang/Record", "<init>", "()V"⟩ : MethodName) jdk_30_method_1_code 1 none ws ({ frames := 1, cells := 0, slots := 0, locals := 12 } : Room) #[(.ref a1)] h0 (fun v h L => v = none ∧ Fr n0 L ∧ h = h0) := by
  refine own_body (by first | exact plainFor_of_name pn_java_lang_Record | decide +kernel) ?_
  intro p e s m below meth c T0 X0 hx hby hml hret hlk hZ hown hnm e0
  have hown : s.vm.findClass "java/lang/Record" = some m.cls := hown
  have hnm : meth.name = "<init>" := hnm
  have N0 := Fr.nil n0
  rw [ef_2 m a1]
  show own_Go p e below _ T0 (mkF m 0 #[.val (.ref a1)] [])
  refine own_go (fun t k => XS.aloadN X0.here hx rfl (hb hby d2_0) rfl rfl k) ?_
  show own_Go p e below _ T0 (mkF m 1 #[.val (.ref a1)] [(.ref a1)])
  obtain ⟨T1, X1, e1, st1⟩ := initO X0 hx hZ hown (own_w hw 11 rfl) (own_w hw 12 rfl) (own_w hw 13 rfl) e0 (g := (mkF m 1 #[.val (.ref a1)] [(.ref a1)])) rfl (by rw [hml]; rfl) rfl (hb hby d2_1) (by decide) (W := 0) (by show 2 * 0 + _ ≤ _; exact Nat.le_of_eq rfl) (by decide)
  refine own_go st1 ?_
  show own_Go p e below _ T1 (mkF m 4 #[.val (.ref a1)] [])
  refine own_retV X1 hx hlk hret (hb hby d2_4) (by decide) (by decide) ?_
  exact ⟨rfl, N0, e1⟩
set_option maxRecDepth 65536 in
set_option maxHeartbeats 40000000 in
theorem rmNumber (l : Launch) (Z : State) (a0 : Array Value) (hw : ∀ d ∈ tables_1, d.before a0 Z = true) (ws : List Jvm.Cond) (a1 : Addr) (h0 : Heap) (n0 : Nat) (Z0 : n0 ≤ h0.size) :
    own_Met l Z (⟨"java/lang/Number", "<init>", "()V"⟩ : MethodName) jdk_18_method_1_code 1 none ws ({ frames := 1, cells := 0, slots := 0, locals := 12 } : Room) #[(.ref a1)] h0 (fun v h L => v = none ∧ Fr n0 L ∧ h = h0) := by
  refine own_body (by first | exact plainFor_of_name pn_java_lang_Number | decide +kernel) ?_
  intro p e s m below meth c T0 X0 hx hby hml hret hlk hZ hown hnm e0
  have hown : s.vm.findClass "java/lang/Number" = some m.cls := hown
  have hnm : meth.name = "<init>" := hnm
  have N0 := Fr.nil n0
  rw [ef_7 m a1]
  show own_Go p e below _ T0 (mkF m 0 #[.val (.ref a1)] [])
  refine own_go (fun t k => XS.aloadN X0.here hx rfl (hb hby d7_0) rfl rfl k) ?_
  show own_Go p e below _ T0 (mkF m 1 #[.val (.ref a1)] [(.ref a1)])
  obtain ⟨T1, X1, e1, st1⟩ := initO X0 hx hZ hown (own_w hw 48 rfl) (own_w hw 12 rfl) (own_w hw 13 rfl) e0 (g := (mkF m 1 #[.val (.ref a1)] [(.ref a1)])) rfl (by rw [hml]; rfl) rfl (hb hby d7_1) (by decide) (W := 0) (by show 2 * 0 + _ ≤ _; exact Nat.le_of_eq rfl) (by decide)
  refine own_go st1 ?_
  show own_Go p e below _ T1 (mkF m 4 #[.val (.ref a1)] [])
  refine own_retV X1 hx hlk hret (hb hby d7_4) (by decide) (by decide) ?_
  exact ⟨rfl, N0, e1⟩
set_option maxRecDepth 65536 in
set_option maxHeartbeats 40000000 in
theorem rmLI (l : Launch) (Z : State) (a0 : Array Value) (hw : ∀ d ∈ tables_1, d.before a0 Z = true) (ws : List Jvm.Cond) (a1 : Addr) (q1 : Int64) (h0 : Heap) (n0 : Nat) (Z0 : n0 ≤ h0.size) (E1 : Exa Z h0 a1 "java/lang/Long") (F_value : Fld Z h0 a1 "java/lang/Long" "value" "J" (.long (0 : Int64))) (g1 : n0 ≤ a1) :
    own_Met l Z (⟨"java/lang/Long", "<init>", "(J)V"⟩ : MethodName) jdk_35_method_26_code 3 none ws ({ frames := 2, cells := 0, slots := 0, locals := 24 } : Room) #[(.ref a1), (.long q1)] h0 (fun v h L => v = none ∧ Fr n0 L ∧ Keep h0 h [a1]) := by
  refine own_body (by first | exact plainFor_of_name pn_java_lang_Long | decide +kernel) ?_
  intro p e s m below meth c T0 X0 hx hby hml hret hlk hZ hown hnm e0
  have hown : s.vm.findClass "java/lang/Long" = some m.cls := hown
  have hnm : meth.name = "<init>" := hnm
  have N0 := Fr.nil n0
  rw [ef_6 m a1 q1]
  show own_Go p e below _ T0 (mkF m 0 #[.val (.ref a1), .val (.long q1), .second] [])
  refine own_go (fun t k => XS.aloadN X0.here hx rfl (hb hby d6_0) rfl rfl k) ?_
  show own_Go p e below _ T0 (mkF m 1 #[.val (.ref a1), .val (.long q1), .second] [(.ref a1)])
  obtain ⟨_, T1, L1, X1, ⟨rfl, N1, e1⟩, st1⟩ := own_callC X0 hx hZ (y := (⟨"java/lang/Number", "<init>", "()V"⟩ : MethodName)) (b := a1) (argsL := []) (rest := []) (Ls := #[.val (.ref a1), .val (.long q1), .second]) rfl hown (own_w hw 42 rfl) (own_w hw 43 rfl) (own_w hw 47 rfl) (own_w hw 46 rfl) (by decide) e0 (rmNumber l Z a0 hw [] a1 h0 n0 Z0) 0 (by decide) (by decide) (by decide) (by decide) (by rw [hml]; rfl) (lenOf pd_0 rfl) rfl (Nat.le_of_eq rfl) (hb hby d6_1)
  have M1 := Fr.app N0 N1
  refine own_go st1 ?_
  show own_Go p e below _ T1 (mkF m 4 #[.val (.ref a1), .val (.long q1), .second] [])
  refine own_go (fun t k => XS.aloadN X1.here hx rfl (hb hby d6_4) rfl rfl k) ?_
  show own_Go p e below _ T1 (mkF m 5 #[.val (.ref a1), .val (.long q1), .second] [(.ref a1)])
  refine own_go (fun t k => XS.lloadN X1.here hx rfl (hb hby d6_5) rfl k) ?_
  show own_Go p e below _ T1 (mkF m 6 #[.val (.ref a1), .val (.long q1), .second] [(.long q1), (.ref a1)])
  obtain ⟨T2, h2, L2, X2, N2, e2, W2, G2, st2⟩ := own_putF X1 hx hZ hown (v := (.long q1)) (host := "") (Or.inl (own_w hw 49 rfl)) Via.refl e1 F_value E1 (Or.inr ⟨(own_w hw 50 rfl), rfl, hnm⟩) (own_w hw 37 rfl) .long (by decide) rfl rfl M1 g1 (Ls := #[.val (.ref a1), .val (.long q1), .second]) (rest := []) (hb hby d6_6)
  have kp2 := (Keep.refl h0 [a1]).wr W2 (Or.inl (List.mem_of_getElem? (i := 0) rfl))
  refine own_go st2 ?_
  show own_Go p e below _ T2 (mkF m 9 #[.val (.ref a1), .val (.long q1), .second] [])
  refine own_retV X2 hx hlk hret (hb hby d6_9) (by decide) (by decide) ?_
  exact ⟨rfl, N2, by rw [e2]; exact kp2⟩
set_option maxRecDepth 65536 in
set_option maxHeartbeats 40000000 in
theorem rmBF (l : Launch) (Z : State) (a0 : Array Value) (hw : ∀ d ∈ tables_1, d.before a0 Z = true) (ws : List Jvm.Cond) (a1 : Addr) (p1 p2 : Int32) (v3 v4 v5 v6 : Value) (hv3 : v3.isRef = true) (hv4 : v4.isRef = true) (hv5 : v5.isRef = true) (hv6 : v6.isRef = true) (h0 : Heap) (n0 : Nat) (Z0 : n0 ≤ h0.size) (E1 : Exa Z h0 a1 "com/example/lease/lease/service/BenchFigures") (F_runs : Fld Z h0 a1 "com/example/lease/lease/service/BenchFigures" "runs" "I" (.int (0 : Int32))) (F_succeeded : Fld Z h0 a1 "com/example/lease/lease/service/BenchFigures" "succeeded" "I" (.int (0 : Int32))) (F_latenessP50 : Fld Z h0 a1 "com/example/lease/lease/service/BenchFigures" "latenessP50" "Ljava/lang/Long;" .null) (F_latenessP99 : Fld Z h0 a1 "com/example/lease/lease/service/BenchFigures" "latenessP99" "Ljava/lang/Long;" .null) (F_latenessMax : Fld Z h0 a1 "com/example/lease/lease/service/BenchFigures" "latenessMax" "Ljava/lang/Long;" .null) (F_executionsPerSecond : Fld Z h0 a1 "com/example/lease/lease/service/BenchFigures" "executionsPerSecond" "Ljava/lang/Long;" .null) (g1 : n0 ≤ a1) :
    own_Met l Z (⟨"com/example/lease/lease/service/BenchFigures", "<init>", "(IILjava/lang/Long;Ljava/lang/Long;Ljava/lang/Long;Ljava/lang/Long;)V"⟩ : MethodName) prog_28_method_1_code 7 none ws ({ frames := 2, cells := 0, slots := 0, locals := 24 } : Room) #[(.ref a1), (.int p1), (.int p2), v3, v4, v5, v6] h0 (fun v h L => v = none ∧ Fr n0 L ∧ Keep h0 h [a1] ∧ Fld Z h a1 "com/example/lease/lease/service/BenchFigures" "runs" "I" (.int p1) ∧ Fld Z h a1 "com/example/lease/lease/service/BenchFigures" "succeeded" "I" (.int p2)) := by
  refine own_body (by first | exact plainFor_of_name pn_com_example_lease_lease_service_BenchFigures | decide +kernel) ?_
  intro p e s m below meth c T0 X0 hx hby hml hret hlk hZ hown hnm e0
  have hown : s.vm.findClass "com/example/lease/lease/service/BenchFigures" = some m.cls := hown
  have hnm : meth.name = "<init>" := hnm
  have N0 := Fr.nil n0
  rw [ef_1 m a1 p1 p2 v3 v4 v5 v6 hv3 hv4 hv5 hv6]
  show own_Go p e below _ T0 (mkF m 0 #[.val (.ref a1), .val (.int p1), .val (.int p2), .val v3, .val v4, .val v5, .val v6] [])
  refine own_go (fun t k => XS.aloadN X0.here hx rfl (hb hby d1_0) rfl rfl k) ?_
  show own_Go p e below _ T0 (mkF m 1 #[.val (.ref a1), .val (.int p1), .val (.int p2), .val v3, .val v4, .val v5, .val v6] [(.ref a1)])
  obtain ⟨_, T1, L1, X1, ⟨rfl, N1, e1⟩, st1⟩ := own_callC X0 hx hZ (y := (⟨"java/lang/Record", "<init>", "()V"⟩ : MethodName)) (b := a1) (argsL := []) (rest := []) (Ls := #[.val (.ref a1), .val (.int p1), .val (.int p2), .val v3, .val v4, .val v5, .val v6]) rfl hown (own_w hw 6 rfl) (own_w hw 7 rfl) (own_w hw 10 rfl) (own_w hw 9 rfl) (by decide) e0 (rmRecord l Z a0 hw [] a1 h0 n0 Z0) 0 (by decide) (by decide) (by decide) (by decide) (by rw [hml]; rfl) (lenOf pd_0 rfl) rfl (Nat.le_of_eq rfl) (hb hby d1_1)
  have M1 := Fr.app N0 N1
  refine own_go st1 ?_
  show own_Go p e below _ T1 (mkF m 4 #[.val (.ref a1), .val (.int p1), .val (.int p2), .val v3, .val v4, .val v5, .val v6] [])
  refine own_go (fun t k => XS.aloadN X1.here hx rfl (hb hby d1_4) rfl rfl k) ?_
  show own_Go p e below _ T1 (mkF m 5 #[.val (.ref a1), .val (.int p1), .val (.int p2), .val v3, .val v4, .val v5, .val v6] [(.ref a1)])
  refine own_go (fun t k => XS.iloadN X1.here hx rfl (hb hby d1_5) rfl k) ?_
  show own_Go p e below _ T1 (mkF m 6 #[.val (.ref a1), .val (.int p1), .val (.int p2), .val v3, .val v4, .val v5, .val v6] [(.int p1), (.ref a1)])
  obtain ⟨T2, h2, L2, X2, N2, e2, W2, G2, st2⟩ := own_putF X1 hx hZ hown (v := (.int p1)) (host := "") (Or.inl (own_w hw 14 rfl)) Via.refl e1 F_runs E1 (Or.inr ⟨(own_w hw 15 rfl), rfl, hnm⟩) (own_w hw 1 rfl) .int (by decide) rfl rfl M1 g1 (Ls := #[.val (.ref a1), .val (.int p1), .val (.int p2), .val v3, .val v4, .val v5, .val v6]) (rest := []) (hb hby d1_6)
  have H2_succeeded := F_succeeded.other W2 (Or.inr (slot_ne (Or.inr (own_w hw 17 rfl)) (Or.inr (own_w hw 15 rfl)) (by decide) (t := .int) (t' := .int) (by decide) (by decide)))
  have H2_latenessP50 := F_latenessP50.other W2 (Or.inr (slot_ne (Or.inr (own_w hw 19 rfl)) (Or.inr (own_w hw 15 rfl)) (by decide) (t := (.object "java/lang/Long")) (t' := .int) (by decide) (by decide)))
  have H2_latenessP99 := F_latenessP99.other W2 (Or.inr (slot_ne (Or.inr (own_w hw 21 rfl)) (Or.inr (own_w hw 15 rfl)) (by decide) (t := (.object "java/lang/Long")) (t' := .int) (by decide) (by decide)))
  have H2_latenessMax := F_latenessMax.other W2 (Or.inr (slot_ne (Or.inr (own_w hw 23 rfl)) (Or.inr (own_w hw 15 rfl)) (by decide) (t := (.object "java/lang/Long")) (t' := .int) (by decide) (by decide)))
  have H2_executionsPerSecond := F_executionsPerSecond.other W2 (Or.inr (slot_ne (Or.inr (own_w hw 25 rfl)) (Or.inr (own_w hw 15 rfl)) (by decide) (t := (.object "java/lang/Long")) (t' := .int) (by decide) (by decide)))
  have kp2 := (Keep.refl h0 [a1]).wr W2 (Or.inl (List.mem_of_getElem? (i := 0) rfl))
  refine own_go st2 ?_
  show own_Go p e below _ T2 (mkF m 9 #[.val (.ref a1), .val (.int p1), .val (.int p2), .val v3, .val v4, .val v5, .val v6] [])
  refine own_go (fun t k => XS.aloadN X2.here hx rfl (hb hby d1_9) rfl rfl k) ?_
  show own_Go p e below _ T2 (mkF m 10 #[.val (.ref a1), .val (.int p1), .val (.int p2), .val v3, .val v4, .val v5, .val v6] [(.ref a1)])
  refine own_go (fun t k => XS.iloadN X2.here hx rfl (hb hby d1_10) rfl k) ?_
  show own_Go p e below _ T2 (mkF m 11 #[.val (.ref a1), .val (.int p1), .val (.int p2), .val v3, .val v4, .val v5, .val v6] [(.int p2), (.ref a1)])
  obtain ⟨T3, h3, L3, X3, N3, e3, W3, G3, st3⟩ := own_putF X2 hx hZ hown (v := (.int p2)) (host := "") (Or.inl (own_w hw 16 rfl)) Via.refl e2 H2_succeeded (E1.wr W2) (Or.inr ⟨(own_w hw 17 rfl), rfl, hnm⟩) (own_w hw 1 rfl) .int (by decide) rfl rfl N2 g1 (Ls := #[.val (.ref a1), .val (.int p1), .val (.int p2), .val v3, .val v4, .val v5, .val v6]) (rest := []) (hb hby d1_11)
  have H3_runs := G2.other W3 (Or.inr (slot_ne (Or.inr (own_w hw 15 rfl)) (Or.inr (own_w hw 17 rfl)) (by decide) (t := .int) (t' := .int) (by decide) (by decide)))
  have H3_latenessP50 := H2_latenessP50.other W3 (Or.inr (slot_ne (Or.inr (own_w hw 19 rfl)) (Or.inr (own_w hw 17 rfl)) (by decide) (t := (.object "java/lang/Long")) (t' := .int) (by decide) (by decide)))
  have H3_latenessP99 := H2_latenessP99.other W3 (Or.inr (slot_ne (Or.inr (own_w hw 21 rfl)) (Or.inr (own_w hw 17 rfl)) (by decide) (t := (.object "java/lang/Long")) (t' := .int) (by decide) (by decide)))
  have H3_latenessMax := H2_latenessMax.other W3 (Or.inr (slot_ne (Or.inr (own_w hw 23 rfl)) (Or.inr (own_w hw 17 rfl)) (by decide) (t := (.object "java/lang/Long")) (t' := .int) (by decide) (by decide)))
  have H3_executionsPerSecond := H2_executionsPerSecond.other W3 (Or.inr (slot_ne (Or.inr (own_w hw 25 rfl)) (Or.inr (own_w hw 17 rfl)) (by decide) (t := (.object "java/lang/Long")) (t' := .int) (by decide) (by decide)))
  have kp3 := kp2.wr W3 (Or.inl (List.mem_of_getElem? (i := 0) rfl))
  refine own_go st3 ?_
  show own_Go p e below _ T3 (mkF m 14 #[.val (.ref a1), .val (.int p1), .val (.int p2), .val v3, .val v4, .val v5, .val v6] [])
  refine own_go (fun t k => XS.aloadN X3.here hx rfl (hb hby d1_14) rfl rfl k) ?_
  show own_Go p e below _ T3 (mkF m 15 #[.val (.ref a1), .val (.int p1), .val (.int p2), .val v3, .val v4, .val v5, .val v6] [(.ref a1)])
  refine own_go (fun t k => XS.aloadN X3.here hx rfl (hb hby d1_15) rfl hv3 k) ?_
  show own_Go p e below _ T3 (mkF m 16 #[.val (.ref a1), .val (.int p1), .val (.int p2), .val v3, .val v4, .val v5, .val v6] [v3, (.ref a1)])
  obtain ⟨T4, h4, L4, X4, N4, e4, W4, G4, st4⟩ := own_putF X3 hx hZ hown (v := v3) (host := "") (Or.inl (own_w hw 18 rfl)) Via.refl e3 H3_latenessP50 ((E1.wr W2).wr W3) (Or.inr ⟨(own_w hw 19 rfl), rfl, hnm⟩) (own_w hw 1 rfl) (.object "java/lang/Long") (by decide) (own_refNar rfl hv3) (own_refFit rfl hv3) N3 g1 (Ls := #[.val (.ref a1), .val (.int p1), .val (.int p2), .val v3, .val v4, .val v5, .val v6]) (rest := []) (hb hby d1_16)
  have H4_runs := H3_runs.other W4 (Or.inr (slot_ne (Or.inr (own_w hw 15 rfl)) (Or.inr (own_w hw 19 rfl)) (by decide) (t := .int) (t' := (.object "java/lang/Long")) (by decide) (by decide)))
  have H4_succeeded := G3.other W4 (Or.inr (slot_ne (Or.inr (own_w hw 17 rfl)) (Or.inr (own_w hw 19 rfl)) (by decide) (t := .int) (t' := (.object "java/lang/Long")) (by decide) (by decide)))
  have H4_latenessP99 := H3_latenessP99.other W4 (Or.inr (slot_ne (Or.inr (own_w hw 21 rfl)) (Or.inr (own_w hw 19 rfl)) (by decide) (t := (.object "java/lang/Long")) (t' := (.object "java/lang/Long")) (by decide) (by decide)))
  have H4_latenessMax := H3_latenessMax.other W4 (Or.inr (slot_ne (Or.inr (own_w hw 23 rfl)) (Or.inr (own_w hw 19 rfl)) (by decide) (t := (.object "java/lang/Long")) (t' := (.object "java/lang/Long")) (by decide) (by decide)))
  have H4_executionsPerSecond := H3_executionsPerSecond.other W4 (Or.inr (slot_ne (Or.inr (own_w hw 25 rfl)) (Or.inr (own_w hw 19 rfl)) (by decide) (t := (.object "java/lang/Long")) (t' := (.object "java/lang/Long")) (by decide) (by decide)))
  have kp4 := kp3.wr W4 (Or.inl (List.mem_of_getElem? (i := 0) rfl))
  refine own_go st4 ?_
  show own_Go p e below _ T4 (mkF m 19 #[.val (.ref a1), .val (.int p1), .val (.int p2), .val v3, .val v4, .val v5, .val v6] [])
  refine own_go (fun t k => XS.aloadN X4.here hx rfl (hb hby d1_19) rfl rfl k) ?_
  show own_Go p e below _ T4 (mkF m 20 #[.val (.ref a1), .val (.int p1), .val (.int p2), .val v3, .val v4, .val v5, .val v6] [(.ref a1)])
  refine own_go (fun t k => XS.aload X4.here hx rfl (hb hby d1_20) rfl hv4 k) ?_
  show own_Go p e below _ T4 (mkF m 22 #[.val (.ref a1), .val (.int p1), .val (.int p2), .val v3, .val v4, .val v5, .val v6] [v4, (.ref a1)])
  obtain ⟨T5, h5, L5, X5, N5, e5, W5, G5, st5⟩ := own_putF X4 hx hZ hown (v := v4) (host := "") (Or.inl (own_w hw 20 rfl)) Via.refl e4 H4_latenessP99 (((E1.wr W2).wr W3).wr W4) (Or.inr ⟨(own_w hw 21 rfl), rfl, hnm⟩) (own_w hw 1 rfl) (.object "java/lang/Long") (by decide) (own_refNar rfl hv4) (own_refFit rfl hv4) N4 g1 (Ls := #[.val (.ref a1), .val (.int p1), .val (.int p2), .val v3, .val v4, .val v5, .val v6]) (rest := []) (hb hby d1_22)
  have H5_runs := H4_runs.other W5 (Or.inr (slot_ne (Or.inr (own_w hw 15 rfl)) (Or.inr (own_w hw 21 rfl)) (by decide) (t := .int) (t' := (.object "java/lang/Long")) (by decide) (by decide)))
  have H5_succeeded := H4_succeeded.other W5 (Or.inr (slot_ne (Or.inr (own_w hw 17 rfl)) (Or.inr (own_w hw 21 rfl)) (by decide) (t := .int) (t' := (.object "java/lang/Long")) (by decide) (by decide)))
  have H5_latenessP50 := G4.other W5 (Or.inr (slot_ne (Or.inr (own_w hw 19 rfl)) (Or.inr (own_w hw 21 rfl)) (by decide) (t := (.object "java/lang/Long")) (t' := (.object "java/lang/Long")) (by decide) (by decide)))
  have H5_latenessMax := H4_latenessMax.other W5 (Or.inr (slot_ne (Or.inr (own_w hw 23 rfl)) (Or.inr (own_w hw 21 rfl)) (by decide) (t := (.object "java/lang/Long")) (t' := (.object "java/lang/Long")) (by decide) (by decide)))
  have H5_executionsPerSecond := H4_executionsPerSecond.other W5 (Or.inr (slot_ne (Or.inr (own_w hw 25 rfl)) (Or.inr (own_w hw 21 rfl)) (by decide) (t := (.object "java/lang/Long")) (t' := (.object "java/lang/Long")) (by decide) (by decide)))
  have kp5 := kp4.wr W5 (Or.inl (List.mem_of_getElem? (i := 0) rfl))
  refine own_go st5 ?_
  show own_Go p e below _ T5 (mkF m 25 #[.val (.ref a1), .val (.int p1), .val (.int p2), .val v3, .val v4, .val v5, .val v6] [])
  refine own_go (fun t k => XS.aloadN X5.here hx rfl (hb hby d1_25) rfl rfl k) ?_
  show own_Go p e below _ T5 (mkF m 26 #[.val (.ref a1), .val (.int p1), .val (.int p2), .val v3, .val v4, .val v5, .val v6] [(.ref a1)])
  refine own_go (fun t k => XS.aload X5.here hx rfl (hb hby d1_26) rfl hv5 k) ?_
  show own_Go p e below _ T5 (mkF m 28 #[.val (.ref a1), .val (.int p1), .val (.int p2), .val v3, .val v4, .val v5, .val v6] [v5, (.ref a1)])
  obtain ⟨T6, h6, L6, X6, N6, e6, W6, G6, st6⟩ := own_putF X5 hx hZ hown (v := v5) (host := "") (Or.inl (own_w hw 22 rfl)) Via.refl e5 H5_latenessMax ((((E1.wr W2).wr W3).wr W4).wr W5) (Or.inr ⟨(own_w hw 23 rfl), rfl, hnm⟩) (own_w hw 1 rfl) (.object "java/lang/Long") (by decide) (own_refNar rfl hv5) (own_refFit rfl hv5) N5 g1 (Ls := #[.val (.ref a1), .val (.int p1), .val (.int p2), .val v3, .val v4, .val v5, .val v6]) (rest := []) (hb hby d1_28)
  have H6_runs := H5_runs.other W6 (Or.inr (slot_ne (Or.inr (own_w hw 15 rfl)) (Or.inr (own_w hw 23 rfl)) (by decide) (t := .int) (t' := (.object "java/lang/Long")) (by decide) (by decide)))
  have H6_succeeded := H5_succeeded.other W6 (Or.inr (slot_ne (Or.inr (own_w hw 17 rfl)) (Or.inr (own_w hw 23 rfl)) (by decide) (t := .int) (t' := (.object "java/lang/Long")) (by decide) (by decide)))
  have H6_latenessP50 := H5_latenessP50.other W6 (Or.inr (slot_ne (Or.inr (own_w hw 19 rfl)) (Or.inr (own_w hw 23 rfl)) (by decide) (t := (.object "java/lang/Long")) (t' := (.object "java/lang/Long")) (by decide) (by decide)))
  have H6_latenessP99 := G5.other W6 (Or.inr (slot_ne (Or.inr (own_w hw 21 rfl)) (Or.inr (own_w hw 23 rfl)) (by decide) (t := (.object "java/lang/Long")) (t' := (.object "java/lang/Long")) (by decide) (by decide)))
  have H6_executionsPerSecond := H5_executionsPerSecond.other W6 (Or.inr (slot_ne (Or.inr (own_w hw 25 rfl)) (Or.inr (own_w hw 23 rfl)) (by decide) (t := (.object "java/lang/Long")) (t' := (.object "java/lang/Long")) (by decide) (by decide)))
  have kp6 := kp5.wr W6 (Or.inl (List.mem_of_getElem? (i := 0) rfl))
  refine own_go st6 ?_
  show own_Go p e below _ T6 (mkF m 31 #[.val (.ref a1), .val (.int p1), .val (.int p2), .val v3, .val v4, .val v5, .val v6] [])
  refine own_go (fun t k => XS.aloadN X6.here hx rfl (hb hby d1_31) rfl rfl k) ?_
  show own_Go p e below _ T6 (mkF m 32 #[.val (.ref a1), .val (.int p1), .val (.int p2), .val v3, .val v4, .val v5, .val v6] [(.ref a1)])
  refine own_go (fun t k => XS.aload X6.here hx rfl (hb hby d1_32) rfl hv6 k) ?_
  show own_Go p e below _ T6 (mkF m 34 #[.val (.ref a1), .val (.int p1), .val (.int p2), .val v3, .val v4, .val v5, .val v6] [v6, (.ref a1)])
  obtain ⟨T7, h7, L7, X7, N7, e7, W7, G7, st7⟩ := own_putF X6 hx hZ hown (v := v6) (host := "") (Or.inl (own_w hw 24 rfl)) Via.refl e6 H6_executionsPerSecond (((((E1.wr W2).wr W3).wr W4).wr W5).wr W6) (Or.inr ⟨(own_w hw 25 rfl), rfl, hnm⟩) (own_w hw 1 rfl) (.object "java/lang/Long") (by decide) (own_refNar rfl hv6) (own_refFit rfl hv6) N6 g1 (Ls := #[.val (.ref a1), .val (.int p1), .val (.int p2), .val v3, .val v4, .val v5, .val v6]) (rest := []) (hb hby d1_34)
  have H7_runs := H6_runs.other W7 (Or.inr (slot_ne (Or.inr (own_w hw 15 rfl)) (Or.inr (own_w hw 25 rfl)) (by decide) (t := .int) (t' := (.object "java/lang/Long")) (by decide) (by decide)))
  have H7_succeeded := H6_succeeded.other W7 (Or.inr (slot_ne (Or.inr (own_w hw 17 rfl)) (Or.inr (own_w hw 25 rfl)) (by decide) (t := .int) (t' := (.object "java/lang/Long")) (by decide) (by decide)))
  have H7_latenessP50 := H6_latenessP50.other W7 (Or.inr (slot_ne (Or.inr (own_w hw 19 rfl)) (Or.inr (own_w hw 25 rfl)) (by decide) (t := (.object "java/lang/Long")) (t' := (.object "java/lang/Long")) (by decide) (by decide)))
  have H7_latenessP99 := H6_latenessP99.other W7 (Or.inr (slot_ne (Or.inr (own_w hw 21 rfl)) (Or.inr (own_w hw 25 rfl)) (by decide) (t := (.object "java/lang/Long")) (t' := (.object "java/lang/Long")) (by decide) (by decide)))
  have H7_latenessMax := G6.other W7 (Or.inr (slot_ne (Or.inr (own_w hw 23 rfl)) (Or.inr (own_w hw 25 rfl)) (by decide) (t := (.object "java/lang/Long")) (t' := (.object "java/lang/Long")) (by decide) (by decide)))
  have kp7 := kp6.wr W7 (Or.inl (List.mem_of_getElem? (i := 0) rfl))
  refine own_go st7 ?_
  show own_Go p e below _ T7 (mkF m 37 #[.val (.ref a1), .val (.int p1), .val (.int p2), .val v3, .val v4, .val v5, .val v6] [])
  refine own_retV X7 hx hlk hret (hb hby d1_37) (by decide) (by decide) ?_
  exact ⟨rfl, N7, by rw [e7]; exact ⟨kp7, H7_runs, H7_succeeded⟩⟩
set_option maxRecDepth 65536 in
set_option maxHeartbeats 40000000 in
theorem rmA (l : Launch) (Z : State) (a0 : Array Value) (hw : ∀ d ∈ tables_1, d.before a0 Z = true) (ws : List Jvm.Cond) (a1 : Addr) (k1 k2 : Int32) (h0 : Heap) (n0 : Nat) (Z0 : n0 ≤ h0.size) (F1 : Fld Z h0 a1 "com/example/lease/lease/service/BenchFigures" "runs" "I" (.int k1)) (F2 : Fld Z h0 a1 "com/example/lease/lease/service/BenchFigures" "succeeded" "I" (.int k2)) :
    own_Met l Z (⟨"com/example/lease/lease/service/BenchFigures", "allSucceeded", "()Z"⟩ : MethodName) prog_28_method_3_code 1 (some .boolean) ws ({ frames := 0, cells := 0, slots := 0, locals := 0 } : Room) #[(.ref a1)] h0 (fun v h L => v = some (.int (if k2 = k1 then 1 else 0)) ∧ Fr n0 L ∧ h = h0) := by
  refine own_body (by first | exact plainFor_of_name pn_com_example_lease_lease_service_BenchFigures | decide +kernel) ?_
  intro p e s m below meth c T0 X0 hx hby hml hret hlk hZ hown hnm e0
  have hown : s.vm.findClass "com/example/lease/lease/service/BenchFigures" = some m.cls := hown
  have hnm : meth.name = "allSucceeded" := hnm
  have N0 := Fr.nil n0
  rw [ef_4 m a1]
  show own_Go p e below _ T0 (mkF m 0 #[.val (.ref a1)] [])
  refine own_go (fun t k => XS.aloadN X0.here hx rfl (hb hby d4_0) rfl rfl k) ?_
  show own_Go p e below _ T0 (mkF m 1 #[.val (.ref a1)] [(.ref a1)])
  obtain ⟨T1, X1, e1, st1⟩ := getF X0 hx hZ hown (host := "") (Or.inl (own_w hw 16 rfl)) Via.refl e0 F2 (g := (mkF m 1 #[.val (.ref a1)] [(.ref a1)])) rfl rfl (hb hby d4_1)
  refine own_go st1 ?_
  show own_Go p e below _ T1 (mkF m 4 #[.val (.ref a1)] [(.int k2)])
  refine own_go (fun t k => XS.aloadN X1.here hx rfl (hb hby d4_4) rfl rfl k) ?_
  show own_Go p e below _ T1 (mkF m 5 #[.val (.ref a1)] [(.ref a1), (.int k2)])
  obtain ⟨T2, X2, e2, st2⟩ := getF X1 hx hZ hown (host := "") (Or.inl (own_w hw 14 rfl)) Via.refl e1 F1 (g := (mkF m 5 #[.val (.ref a1)] [(.ref a1), (.int k2)])) rfl rfl (hb hby d4_5)
  refine own_go st2 ?_
  show own_Go p e below _ T2 (mkF m 8 #[.val (.ref a1)] [(.int k1), (.int k2)])
  by_cases hc8 : k2 = k1
  · show own_Go p e below _ T2 (mkF m 8 #[.val (.ref a1)] [(.int k1), (.int k2)])
    refine own_go (fun t k => XS.icmpNo X2.here hx rfl (hb hby d4_8) rfl (XT.ii_ne_f hc8) k) ?_
    show own_Go p e below _ T2 (mkF m 11 #[.val (.ref a1)] [])
    refine own_go (fun t k => XS.iconst X2.here hx rfl (hb hby d4_11) k) ?_
    show own_Go p e below _ T2 (mkF m 12 #[.val (.ref a1)] [(.int (1 : Int32))])
    refine own_go (fun t k => XS.goto X2.here hx rfl (pc0 := 12) (pc' := 16) rfl (hb hby d4_12) (by decide) (by decide) k) ?_
    show own_Go p e below _ T2 (mkF m 16 #[.val (.ref a1)] [(.int (1 : Int32))])
    refine own_retZ X2 hx hlk hret (hb hby d4_16) (Or.inr rfl) (by decide) (by decide) ?_
    exact ⟨by rw [if_pos hc8], N0, e2⟩
  · show own_Go p e below _ T2 (mkF m 8 #[.val (.ref a1)] [(.int k1), (.int k2)])
    refine own_go (fun t k => XS.icmpYes X2.here hx rfl (pc0 := 8) (pc' := 15) rfl (hb hby d4_8) rfl (XT.ii_ne_t hc8) (by decide) (by decide) k) ?_
    show own_Go p e below _ T2 (mkF m 15 #[.val (.ref a1)] [])
    refine own_go (fun t k => XS.iconst X2.here hx rfl (hb hby d4_15) k) ?_
    show own_Go p e below _ T2 (mkF m 16 #[.val (.ref a1)] [(.int (0 : Int32))])
    refine own_retZ X2 hx hlk hret (hb hby d4_16) (Or.inl rfl) (by decide) (by decide) ?_
    exact ⟨by rw [if_neg hc8], N0, e2⟩
set_option maxRecDepth 65536 in
set_option maxHeartbeats 40000000 in
theorem rmL (l : Launch) (Z : State) (a0 : Array Value) (hw : ∀ d ∈ tables_1, d.before a0 Z = true) (ws : List Jvm.Cond) (q1 : Int64) (ac : Addr) (cc : Cell) (h0 : Heap) (n0 : Nat) (Z0 : n0 ≤ h0.size) (O0 : Old Z n0 h0) (S_C : Sta Z Z.heap "java/lang/Long$LongCache" "cache" "[Ljava/lang/Long;" (.ref ac)) (A_C : Arr Z Z.heap ac cc (.object "java/lang/Long")) (hs_C : cc.slots.size = 256) (he_C : ∀ j : Int32, ¬ (j < 0 ∨ cc.slots.size ≤ j.toNatClampNeg) → ∃ u : Value, cc.slots[j.toNatClampNeg]? = some u ∧ u.isRef = true) :
    own_Met l Z (⟨"java/lang/Long", "valueOf", "(J)Ljava/lang/Long;"⟩ : MethodName) jdk_35_method_24_code 3 (some (.object "java/lang/Long")) ws ({ frames := 3, cells := 1, slots := 1, locals := 39 } : Room) #[(.long q1)] h0 (fun v h L => (∃ u : Value, v = some u ∧ u.isRef = true) ∧ Old Z n0 h ∧ Fr n0 L) := by
  refine own_body (by first | exact plainFor_of_name pn_java_lang_Long | decide +kernel) ?_
  intro p e s m below meth c T0 X0 hx hby hml hret hlk hZ hown hnm e0
  have hown : s.vm.findClass "java/lang/Long" = some m.cls := hown
  have hnm : meth.name = "valueOf" := hnm
  have N0 := Fr.nil n0
  rw [ef_5 m q1]
  show own_Go p e below _ T0 (mkF m 0 #[.val (.long q1), .second, .unset] [])
  refine own_go (fun t k => XS.sipush X0.here hx rfl (hb hby d5_0) k) ?_
  show own_Go p e below _ T0 (mkF m 3 #[.val (.long q1), .second, .unset] [(.int (128 : Int32))])
  refine own_go (fun t k => XS.istoreN X0.here hx rfl (hb hby d5_3) rfl (l' := #[.val (.long q1), .second, .val (.int (128 : Int32))]) rfl k) ?_
  show own_Go p e below _ T0 (mkF m 4 #[.val (.long q1), .second, .val (.int (128 : Int32))] [])
  refine own_go (fun t k => XS.lloadN X0.here hx rfl (hb hby d5_4) rfl k) ?_
  show own_Go p e below _ T0 (mkF m 5 #[.val (.long q1), .second, .val (.int (128 : Int32))] [(.long q1)])
  refine own_go (fun t k => X0.ldc2Long hx hown (mvT hZ (own_w hw 35 rfl)) (g := (mkF m 5 #[.val (.long q1), .second, .val (.int (128 : Int32))] [(.long q1)])) rfl (hb hby d5_5) t k) ?_
  show own_Go p e below _ T0 (mkF m 8 #[.val (.long q1), .second, .val (.int (128 : Int32))] [(.long (-128 : Int64)), (.long q1)])
  refine own_go (fun t k => XT.lcmp X0.here hx rfl (hb hby d5_8) rfl k) ?_
  show own_Go p e below _ T0 (mkF m 9 #[.val (.long q1), .second, .val (.int (128 : Int32))] [(.int (XT.cmpL q1 (-128 : Int64)))])
  by_cases hc9 : q1 < (-128 : Int64)
  · show own_Go p e below _ T0 (mkF m 9 #[.val (.long q1), .second, .val (.int (128 : Int32))] [(.int (XT.cmpL q1 (-128 : Int64)))])
    refine own_go (fun t k => XS.ifYes X0.here hx rfl (pc0 := 9) (pc' := 31) rfl (hb hby d5_9) rfl (XT.ll_lt_t hc9) (by decide) (by decide) k) ?_
    show own_Go p e below _ T0 (mkF m 31 #[.val (.long q1), .second, .val (.int (128 : Int32))] [])
    obtain ⟨T1, h1, b1, X1, e1, E1, g1, A1, D1, st1⟩ := own_newO X0 hx hZ hown (own_w hw 36 rfl) (own_w hw 37 rfl) (own_w hw 33 rfl) e0 (Ls := #[.val (.long q1), .second, .val (.int (128 : Int32))]) (st := []) (hb hby d5_31) (by decide) (by decide)
    have ge_b1 : n0 ≤ b1 := g1 ▸ own_oldge O0
    have old1 := O0.ext E1
    have F1_value : Fld Z h1 b1 "java/lang/Long" "value" "J" (.long (0 : Int64)) := D1 (Or.inr (own_w hw 50 rfl)) (ty := .long) (by decide)
    refine own_go st1 ?_
    show own_Go p e below _ T1 (mkF m 34 #[.val (.long q1), .second, .val (.int (128 : Int32))] [(.ref b1)])
    refine own_go (fun t k => XS.dup X1.here hx rfl (hb hby d5_34) rfl rfl k) ?_
    show own_Go p e below _ T1 (mkF m 35 #[.val (.long q1), .second, .val (.int (128 : Int32))] [(.ref b1), (.ref b1)])
    refine own_go (fun t k => XS.lloadN X1.here hx rfl (hb hby d5_35) rfl k) ?_
    show own_Go p e below _ T1 (mkF m 36 #[.val (.long q1), .second, .val (.int (128 : Int32))] [(.long q1), (.ref b1), (.ref b1)])
    obtain ⟨_, T2, L2, X2, ⟨rfl, N2, K2⟩, st2⟩ := own_callC X1 hx hZ (y := (⟨"java/lang/Long", "<init>", "(J)V"⟩ : MethodName)) (b := b1) (argsL := [(.long q1)]) (rest := [(.ref b1)]) (Ls := #[.val (.long q1), .second, .val (.int (128 : Int32))]) rfl hown (own_w hw 38 rfl) (own_w hw 39 rfl) (own_w hw 41 rfl) (own_w hw 33 rfl) (by decide) e1 (rmLI l Z a0 hw [] b1 q1 h1 n0 (own_oldge old1) A1 F1_value ge_b1) 1 (by decide) (by decide) (by decide) (by decide) (by rw [hml]; rfl) (lenOf pd_5 rfl) rfl (Nat.le_of_eq rfl) (hb hby d5_36)
    have M2 := Fr.app N0 N2
    have old2 := old1.keep K2 (allS ge_b1 all0)
    refine own_go st2 ?_
    show own_Go p e below _ T2 (mkF m 39 #[.val (.long q1), .second, .val (.int (128 : Int32))] [(.ref b1)])
    refine own_retA X2 hx hlk hret (hb hby d5_39) rfl rfl (by decide) (by decide) ?_
    exact ⟨⟨_, rfl, rfl⟩, old2, M2⟩
  · show own_Go p e below _ T0 (mkF m 9 #[.val (.long q1), .second, .val (.int (128 : Int32))] [(.int (XT.cmpL q1 (-128 : Int64)))])
    refine own_go (fun t k => XS.ifNo X0.here hx rfl (hb hby d5_9) rfl (XT.ll_lt_f hc9) k) ?_
    show own_Go p e below _ T0 (mkF m 12 #[.val (.long q1), .second, .val (.int (128 : Int32))] [])
    refine own_go (fun t k => XS.lloadN X0.here hx rfl (hb hby d5_12) rfl k) ?_
    show own_Go p e below _ T0 (mkF m 13 #[.val (.long q1), .second, .val (.int (128 : Int32))] [(.long q1)])
    refine own_go (fun t k => X0.ldc2Long hx hown (mvT hZ (own_w hw 51 rfl)) (g := (mkF m 13 #[.val (.long q1), .second, .val (.int (128 : Int32))] [(.long q1)])) rfl (hb hby d5_13) t k) ?_
    show own_Go p e below _ T0 (mkF m 16 #[.val (.long q1), .second, .val (.int (128 : Int32))] [(.long (127 : Int64)), (.long q1)])
    refine own_go (fun t k => XT.lcmp X0.here hx rfl (hb hby d5_16) rfl k) ?_
    show own_Go p e below _ T0 (mkF m 17 #[.val (.long q1), .second, .val (.int (128 : Int32))] [(.int (XT.cmpL q1 (127 : Int64)))])
    by_cases hc17 : (127 : Int64) < q1
    · show own_Go p e below _ T0 (mkF m 17 #[.val (.long q1), .second, .val (.int (128 : Int32))] [(.int (XT.cmpL q1 (127 : Int64)))])
      refine own_go (fun t k => XS.ifYes X0.here hx rfl (pc0 := 17) (pc' := 31) rfl (hb hby d5_17) rfl (XT.ll_gt_t hc17) (by decide) (by decide) k) ?_
      show own_Go p e below _ T0 (mkF m 31 #[.val (.long q1), .second, .val (.int (128 : Int32))] [])
      obtain ⟨T3, h3, b3, X3, e3, E3, g3, A3, D3, st3⟩ := own_newO X0 hx hZ hown (own_w hw 36 rfl) (own_w hw 37 rfl) (own_w hw 33 rfl) e0 (Ls := #[.val (.long q1), .second, .val (.int (128 : Int32))]) (st := []) (hb hby d5_31) (by decide) (by decide)
      have ge_b3 : n0 ≤ b3 := g3 ▸ own_oldge O0
      have old3 := O0.ext E3
      have F3_value : Fld Z h3 b3 "java/lang/Long" "value" "J" (.long (0 : Int64)) := D3 (Or.inr (own_w hw 50 rfl)) (ty := .long) (by decide)
      refine own_go st3 ?_
      show own_Go p e below _ T3 (mkF m 34 #[.val (.long q1), .second, .val (.int (128 : Int32))] [(.ref b3)])
      refine own_go (fun t k => XS.dup X3.here hx rfl (hb hby d5_34) rfl rfl k) ?_
      show own_Go p e below _ T3 (mkF m 35 #[.val (.long q1), .second, .val (.int (128 : Int32))] [(.ref b3), (.ref b3)])
      refine own_go (fun t k => XS.lloadN X3.here hx rfl (hb hby d5_35) rfl k) ?_
      show own_Go p e below _ T3 (mkF m 36 #[.val (.long q1), .second, .val (.int (128 : Int32))] [(.long q1), (.ref b3), (.ref b3)])
      obtain ⟨_, T4, L4, X4, ⟨rfl, N4, K4⟩, st4⟩ := own_callC X3 hx hZ (y := (⟨"java/lang/Long", "<init>", "(J)V"⟩ : MethodName)) (b := b3) (argsL := [(.long q1)]) (rest := [(.ref b3)]) (Ls := #[.val (.long q1), .second, .val (.int (128 : Int32))]) rfl hown (own_w hw 38 rfl) (own_w hw 39 rfl) (own_w hw 41 rfl) (own_w hw 33 rfl) (by decide) e3 (rmLI l Z a0 hw [] b3 q1 h3 n0 (own_oldge old3) A3 F3_value ge_b3) 1 (by decide) (by decide) (by decide) (by decide) (by rw [hml]; rfl) (lenOf pd_5 rfl) rfl (Nat.le_of_eq rfl) (hb hby d5_36)
      have M4 := Fr.app N0 N4
      have old4 := old3.keep K4 (allS ge_b3 all0)
      refine own_go st4 ?_
      show own_Go p e below _ T4 (mkF m 39 #[.val (.long q1), .second, .val (.int (128 : Int32))] [(.ref b3)])
      refine own_retA X4 hx hlk hret (hb hby d5_39) rfl rfl (by decide) (by decide) ?_
      exact ⟨⟨_, rfl, rfl⟩, old4, M4⟩
    · show own_Go p e below _ T0 (mkF m 17 #[.val (.long q1), .second, .val (.int (128 : Int32))] [(.int (XT.cmpL q1 (127 : Int64)))])
      refine own_go (fun t k => XS.ifNo X0.here hx rfl (hb hby d5_17) rfl (XT.ll_gt_f hc17) k) ?_
      show own_Go p e below _ T0 (mkF m 20 #[.val (.long q1), .second, .val (.int (128 : Int32))] [])
      obtain ⟨T5, X5, e5, st5⟩ := getS2 X0 hx hZ hown (host := "") (Or.inl (own_w hw 52 rfl)) Via.refl e0 (S_C.ext O0.2) (g := (mkF m 20 #[.val (.long q1), .second, .val (.int (128 : Int32))] [])) rfl (hb hby d5_20)
      refine own_go st5 ?_
      show own_Go p e below _ T5 (mkF m 23 #[.val (.long q1), .second, .val (.int (128 : Int32))] [(.ref ac)])
      refine own_go (fun t k => XS.lloadN X5.here hx rfl (hb hby d5_23) rfl k) ?_
      show own_Go p e below _ T5 (mkF m 24 #[.val (.long q1), .second, .val (.int (128 : Int32))] [(.long q1), (.ref ac)])
      refine own_go (fun t k => XS.l2i X5.here hx rfl (hb hby d5_24) rfl k) ?_
      show own_Go p e below _ T5 (mkF m 25 #[.val (.long q1), .second, .val (.int (128 : Int32))] [(.int q1.toInt32), (.ref ac)])
      refine own_go (fun t k => XS.sipush X5.here hx rfl (hb hby d5_25) k) ?_
      show own_Go p e below _ T5 (mkF m 28 #[.val (.long q1), .second, .val (.int (128 : Int32))] [(.int (128 : Int32)), (.int q1.toInt32), (.ref ac)])
      refine own_go (fun t k => XS.iadd X5.here hx rfl (hb hby d5_28) rfl k) ?_
      show own_Go p e below _ T5 (mkF m 29 #[.val (.long q1), .second, .val (.int (128 : Int32))] [(.int (q1.toInt32 + (128 : Int32))), (.ref ac)])
      have hin := own_cidx q1 hc9 hc17 hs_C
      obtain ⟨u, hu, hur⟩ := he_C _ hin
      refine own_go (fun t k => X5.aaload hx (j := (q1.toInt32 + (128 : Int32))) (v := u) (by rw [e5]; exact (A_C.ext O0.2).1) (State.isArrayOf_alike hZ.alike A_C.2.1) rfl A_C.2.2 hin hu (g := (mkF m 29 #[.val (.long q1), .second, .val (.int (128 : Int32))] [(.int (q1.toInt32 + (128 : Int32))), (.ref ac)])) rfl rfl (hb hby d5_29) t k) ?_
      show own_Go p e below _ T5 (mkF m 30 #[.val (.long q1), .second, .val (.int (128 : Int32))] [u])
      refine own_retA X5 hx hlk hret (hb hby d5_30) rfl hur (by decide) (by decide) ?_
      exact ⟨⟨_, rfl, hur⟩, by rw [e5]; exact O0, N0⟩
set_option maxRecDepth 65536 in
set_option maxHeartbeats 40000000 in
theorem rm0 (l : Launch) (Z : State) (a0 : Array Value) (hw : ∀ d ∈ tables_1, d.before a0 Z = true) (ws : List Jvm.Cond) (p1 p2 p3 : Int32) (q4 q5 : Int64) (ac : Addr) (cc : Cell) (h0 : Heap) (n0 : Nat) (Z0 : n0 ≤ h0.size) (O0 : Old Z n0 h0) (S_C : Sta Z Z.heap "java/lang/Long$LongCache" "cache" "[Ljava/lang/Long;" (.ref ac)) (A_C : Arr Z Z.heap ac cc (.object "java/lang/Long")) (hs_C : cc.slots.size = 256) (he_C : ∀ j : Int32, ¬ (j < 0 ∨ cc.slots.size ≤ j.toNatClampNeg) → ∃ u : Value, cc.slots[j.toNatClampNeg]? = some u ∧ u.isRef = true) :
    own_Met l Z x code maxLocals ret ws room_1 #[(.int p1), (.int p2), (.int p3), (.long q4), (.long q5)] h0 (fun v h L => v = some (.int 1) ∧ Fr n0 L) := by
  refine own_body (by first | exact plainFor_of_name pn_com_example_lease_lease_service_BenchFiguresAllSucceededPinLaw | decide +kernel) ?_
  intro p e s m below meth c T0 X0 hx hby hml hret hlk hZ hown hnm e0
  have hown : s.vm.findClass "com/example/lease/lease/service/BenchFiguresAllSucceededPinLaw" = some m.cls := hown
  have hnm : meth.name = "law" := hnm
  have N0 := Fr.nil n0
  rw [ef_0 m p1 p2 p3 q4 q5]
  show own_Go p e below _ T0 (mkF m 0 #[.val (.int p1), .val (.int p2), .val (.int p3), .val (.long q4), .second, .val (.long q5), .second, .unset, .unset, .unset, .unset, .unset, .unset, .unset, .unset] [])
  refine own_go (fun t k => XS.iloadN X0.here hx rfl (hb hby at_0) rfl k) ?_
  show own_Go p e below _ T0 (mkF m 1 #[.val (.int p1), .val (.int p2), .val (.int p3), .val (.long q4), .second, .val (.long q5), .second, .unset, .unset, .unset, .unset, .unset, .unset, .unset, .unset] [(.int p3)])
  refine own_go (fun t k => XS.iconst X0.here hx rfl (hb hby at_1) k) ?_
  show own_Go p e below _ T0 (mkF m 2 #[.val (.int p1), .val (.int p2), .val (.int p3), .val (.long q4), .second, .val (.long q5), .second, .unset, .unset, .unset, .unset, .unset, .unset, .unset, .unset] [(.int (3 : Int32)), (.int p3)])
  refine own_go (fun t k => XS.iand X0.here hx rfl (hb hby at_2) rfl k) ?_
  show own_Go p e below _ T0 (mkF m 3 #[.val (.int p1), .val (.int p2), .val (.int p3), .val (.long q4), .second, .val (.long q5), .second, .unset, .unset, .unset, .unset, .unset, .unset, .unset, .unset] [(.int (p3 &&& (3 : Int32)))])
  refine own_go (fun t k => XS.istore X0.here hx rfl (hb hby at_3) rfl (l' := #[.val (.int p1), .val (.int p2), .val (.int p3), .val (.long q4), .second, .val (.long q5), .second, .val (.int (p3 &&& (3 : Int32))), .unset, .unset, .unset, .unset, .unset, .unset, .unset]) rfl k) ?_
  show own_Go p e below _ T0 (mkF m 5 #[.val (.int p1), .val (.int p2), .val (.int p3), .val (.long q4), .second, .val (.long q5), .second, .val (.int (p3 &&& (3 : Int32))), .unset, .unset, .unset, .unset, .unset, .unset, .unset] [])
  refine own_go (fun t k => XS.iload X0.here hx rfl (hb hby at_5) rfl k) ?_
  show own_Go p e below _ T0 (mkF m 7 #[.val (.int p1), .val (.int p2), .val (.int p3), .val (.long q4), .second, .val (.long q5), .second, .val (.int (p3 &&& (3 : Int32))), .unset, .unset, .unset, .unset, .unset, .unset, .unset] [(.int (p3 &&& (3 : Int32)))])
  have jn : ∀ sx : Int32, own_Go p e below (own_K (fun v h L => v = some (.int 1) ∧ Fr n0 L) s room_1.cells room_1.slots) T0 (mkF m 47 #[.val (.int p1), .val (.int p2), .val (.int p3), .val (.long q4), .second, .val (.long q5), .second, .val (.int (p3 &&& (3 : Int32))), .val (.int sx), .unset, .unset, .unset, .unset, .unset, .unset] []) := by
    intro sx
    refine own_go (fun t k => XS.aconstNull X0.here hx rfl (hb hby at_47) k) ?_
    show own_Go p e below _ T0 (mkF m 48 #[.val (.int p1), .val (.int p2), .val (.int p3), .val (.long q4), .second, .val (.long q5), .second, .val (.int (p3 &&& (3 : Int32))), .val (.int sx), .unset, .unset, .unset, .unset, .unset, .unset] [.null])
    refine own_go (fun t k => XS.astore X0.here hx rfl (hb hby at_48) rfl rfl (l' := #[.val (.int p1), .val (.int p2), .val (.int p3), .val (.long q4), .second, .val (.long q5), .second, .val (.int (p3 &&& (3 : Int32))), .val (.int sx), .val .null, .unset, .unset, .unset, .unset, .unset]) rfl k) ?_
    show own_Go p e below _ T0 (mkF m 50 #[.val (.int p1), .val (.int p2), .val (.int p3), .val (.long q4), .second, .val (.long q5), .second, .val (.int (p3 &&& (3 : Int32))), .val (.int sx), .val .null, .unset, .unset, .unset, .unset, .unset] [])
    refine own_go (fun t k => XS.aconstNull X0.here hx rfl (hb hby at_50) k) ?_
    show own_Go p e below _ T0 (mkF m 51 #[.val (.int p1), .val (.int p2), .val (.int p3), .val (.long q4), .second, .val (.long q5), .second, .val (.int (p3 &&& (3 : Int32))), .val (.int sx), .val .null, .unset, .unset, .unset, .unset, .unset] [.null])
    refine own_go (fun t k => XS.astore X0.here hx rfl (hb hby at_51) rfl rfl (l' := #[.val (.int p1), .val (.int p2), .val (.int p3), .val (.long q4), .second, .val (.long q5), .second, .val (.int (p3 &&& (3 : Int32))), .val (.int sx), .val .null, .val .null, .unset, .unset, .unset, .unset]) rfl k) ?_
    show own_Go p e below _ T0 (mkF m 53 #[.val (.int p1), .val (.int p2), .val (.int p3), .val (.long q4), .second, .val (.long q5), .second, .val (.int (p3 &&& (3 : Int32))), .val (.int sx), .val .null, .val .null, .unset, .unset, .unset, .unset] [])
    refine own_go (fun t k => XS.aconstNull X0.here hx rfl (hb hby at_53) k) ?_
    show own_Go p e below _ T0 (mkF m 54 #[.val (.int p1), .val (.int p2), .val (.int p3), .val (.long q4), .second, .val (.long q5), .second, .val (.int (p3 &&& (3 : Int32))), .val (.int sx), .val .null, .val .null, .unset, .unset, .unset, .unset] [.null])
    refine own_go (fun t k => XS.astore X0.here hx rfl (hb hby at_54) rfl rfl (l' := #[.val (.int p1), .val (.int p2), .val (.int p3), .val (.long q4), .second, .val (.long q5), .second, .val (.int (p3 &&& (3 : Int32))), .val (.int sx), .val .null, .val .null, .val .null, .unset, .unset, .unset]) rfl k) ?_
    show own_Go p e below _ T0 (mkF m 56 #[.val (.int p1), .val (.int p2), .val (.int p3), .val (.long q4), .second, .val (.long q5), .second, .val (.int (p3 &&& (3 : Int32))), .val (.int sx), .val .null, .val .null, .val .null, .unset, .unset, .unset] [])
    refine own_go (fun t k => XS.iloadN X0.here hx rfl (hb hby at_56) rfl k) ?_
    show own_Go p e below _ T0 (mkF m 57 #[.val (.int p1), .val (.int p2), .val (.int p3), .val (.long q4), .second, .val (.long q5), .second, .val (.int (p3 &&& (3 : Int32))), .val (.int sx), .val .null, .val .null, .val .null, .unset, .unset, .unset] [(.int p3)])
    refine own_go (fun t k => XS.iconst X0.here hx rfl (hb hby at_57) k) ?_
    show own_Go p e below _ T0 (mkF m 58 #[.val (.int p1), .val (.int p2), .val (.int p3), .val (.long q4), .second, .val (.long q5), .second, .val (.int (p3 &&& (3 : Int32))), .val (.int sx), .val .null, .val .null, .val .null, .unset, .unset, .unset] [(.int (4 : Int32)), (.int p3)])
    refine own_go (fun t k => XS.iand X0.here hx rfl (hb hby at_58) rfl k) ?_
    show own_Go p e below _ T0 (mkF m 59 #[.val (.int p1), .val (.int p2), .val (.int p3), .val (.long q4), .second, .val (.long q5), .second, .val (.int (p3 &&& (3 : Int32))), .val (.int sx), .val .null, .val .null, .val .null, .unset, .unset, .unset] [(.int (p3 &&& (4 : Int32)))])
    by_cases hc59 : (p3 &&& (4 : Int32)) = 0
    · show own_Go p e below _ T0 (mkF m 59 #[.val (.int p1), .val (.int p2), .val (.int p3), .val (.long q4), .second, .val (.long q5), .second, .val (.int (p3 &&& (3 : Int32))), .val (.int sx), .val .null, .val .null, .val .null, .unset, .unset, .unset] [(.int (p3 &&& (4 : Int32)))])
      refine own_go (fun t k => XS.ifYes X0.here hx rfl (pc0 := 59) (pc' := 83) rfl (hb hby at_59) rfl (XT.i0_eq_t hc59) (by decide) (by decide) k) ?_
      show own_Go p e below _ T0 (mkF m 83 #[.val (.int p1), .val (.int p2), .val (.int p3), .val (.long q4), .second, .val (.long q5), .second, .val (.int (p3 &&& (3 : Int32))), .val (.int sx), .val .null, .val .null, .val .null, .unset, .unset, .unset] [])
      refine own_go (fun t k => XS.aconstNull X0.here hx rfl (hb hby at_83) k) ?_
      show own_Go p e below _ T0 (mkF m 84 #[.val (.int p1), .val (.int p2), .val (.int p3), .val (.long q4), .second, .val (.long q5), .second, .val (.int (p3 &&& (3 : Int32))), .val (.int sx), .val .null, .val .null, .val .null, .unset, .unset, .unset] [.null])
      refine own_go (fun t k => XS.astore X0.here hx rfl (hb hby at_84) rfl rfl (l' := #[.val (.int p1), .val (.int p2), .val (.int p3), .val (.long q4), .second, .val (.long q5), .second, .val (.int (p3 &&& (3 : Int32))), .val (.int sx), .val .null, .val .null, .val .null, .val .null, .unset, .unset]) rfl k) ?_
      show own_Go p e below _ T0 (mkF m 86 #[.val (.int p1), .val (.int p2), .val (.int p3), .val (.long q4), .second, .val (.long q5), .second, .val (.int (p3 &&& (3 : Int32))), .val (.int sx), .val .null, .val .null, .val .null, .val .null, .unset, .unset] [])
      refine own_go (fun t k => XS.iloadN X0.here hx rfl (hb hby at_86) rfl k) ?_
      show own_Go p e below _ T0 (mkF m 87 #[.val (.int p1), .val (.int p2), .val (.int p3), .val (.long q4), .second, .val (.long q5), .second, .val (.int (p3 &&& (3 : Int32))), .val (.int sx), .val .null, .val .null, .val .null, .val .null, .unset, .unset] [(.int p3)])
      refine own_go (fun t k => XS.bipush X0.here hx rfl (hb hby at_87) k) ?_
      show own_Go p e below _ T0 (mkF m 89 #[.val (.int p1), .val (.int p2), .val (.int p3), .val (.long q4), .second, .val (.long q5), .second, .val (.int (p3 &&& (3 : Int32))), .val (.int sx), .val .null, .val .null, .val .null, .val .null, .unset, .unset] [(.int (8 : Int32)), (.int p3)])
      refine own_go (fun t k => XS.iand X0.here hx rfl (hb hby at_89) rfl k) ?_
      show own_Go p e below _ T0 (mkF m 90 #[.val (.int p1), .val (.int p2), .val (.int p3), .val (.long q4), .second, .val (.long q5), .second, .val (.int (p3 &&& (3 : Int32))), .val (.int sx), .val .null, .val .null, .val .null, .val .null, .unset, .unset] [(.int (p3 &&& (8 : Int32)))])
      by_cases hc90 : (p3 &&& (8 : Int32)) = 0
      · show own_Go p e below _ T0 (mkF m 90 #[.val (.int p1), .val (.int p2), .val (.int p3), .val (.long q4), .second, .val (.long q5), .second, .val (.int (p3 &&& (3 : Int32))), .val (.int sx), .val .null, .val .null, .val .null, .val .null, .unset, .unset] [(.int (p3 &&& (8 : Int32)))])
        refine own_go (fun t k => XS.ifYes X0.here hx rfl (pc0 := 90) (pc' := 100) rfl (hb hby at_90) rfl (XT.i0_eq_t hc90) (by decide) (by decide) k) ?_
        show own_Go p e below _ T0 (mkF m 100 #[.val (.int p1), .val (.int p2), .val (.int p3), .val (.long q4), .second, .val (.long q5), .second, .val (.int (p3 &&& (3 : Int32))), .val (.int sx), .val .null, .val .null, .val .null, .val .null, .unset, .unset] [])
        obtain ⟨T1, h1, b1, X1, e1, E1, g1, A1, D1, st1⟩ := own_newO X0 hx hZ hown (own_w hw 0 rfl) (own_w hw 1 rfl) (own_w hw 2 rfl) e0 (Ls := #[.val (.int p1), .val (.int p2), .val (.int p3), .val (.long q4), .second, .val (.long q5), .second, .val (.int (p3 &&& (3 : Int32))), .val (.int sx), .val .null, .val .null, .val .null, .val .null, .unset, .unset]) (st := []) (hb hby at_100) (by decide) (by decide)
        have ge_b1 : n0 ≤ b1 := g1 ▸ own_oldge O0
        have old1 := O0.ext E1
        have F1_runs : Fld Z h1 b1 "com/example/lease/lease/service/BenchFigures" "runs" "I" (.int (0 : Int32)) := D1 (Or.inr (own_w hw 15 rfl)) (ty := .int) (by decide)
        have F1_succeeded : Fld Z h1 b1 "com/example/lease/lease/service/BenchFigures" "succeeded" "I" (.int (0 : Int32)) := D1 (Or.inr (own_w hw 17 rfl)) (ty := .int) (by decide)
        have F1_latenessP50 : Fld Z h1 b1 "com/example/lease/lease/service/BenchFigures" "latenessP50" "Ljava/lang/Long;" .null := D1 (Or.inr (own_w hw 19 rfl)) (ty := (.object "java/lang/Long")) (by decide)
        have F1_latenessP99 : Fld Z h1 b1 "com/example/lease/lease/service/BenchFigures" "latenessP99" "Ljava/lang/Long;" .null := D1 (Or.inr (own_w hw 21 rfl)) (ty := (.object "java/lang/Long")) (by decide)
        have F1_latenessMax : Fld Z h1 b1 "com/example/lease/lease/service/BenchFigures" "latenessMax" "Ljava/lang/Long;" .null := D1 (Or.inr (own_w hw 23 rfl)) (ty := (.object "java/lang/Long")) (by decide)
        have F1_executionsPerSecond : Fld Z h1 b1 "com/example/lease/lease/service/BenchFigures" "executionsPerSecond" "Ljava/lang/Long;" .null := D1 (Or.inr (own_w hw 25 rfl)) (ty := (.object "java/lang/Long")) (by decide)
        refine own_go st1 ?_
        show own_Go p e below _ T1 (mkF m 103 #[.val (.int p1), .val (.int p2), .val (.int p3), .val (.long q4), .second, .val (.long q5), .second, .val (.int (p3 &&& (3 : Int32))), .val (.int sx), .val .null, .val .null, .val .null, .val .null, .unset, .unset] [(.ref b1)])
        refine own_go (fun t k => XS.dup X1.here hx rfl (hb hby at_103) rfl rfl k) ?_
        show own_Go p e below _ T1 (mkF m 104 #[.val (.int p1), .val (.int p2), .val (.int p3), .val (.long q4), .second, .val (.long q5), .second, .val (.int (p3 &&& (3 : Int32))), .val (.int sx), .val .null, .val .null, .val .null, .val .null, .unset, .unset] [(.ref b1), (.ref b1)])
        refine own_go (fun t k => XS.iloadN X1.here hx rfl (hb hby at_104) rfl k) ?_
        show own_Go p e below _ T1 (mkF m 105 #[.val (.int p1), .val (.int p2), .val (.int p3), .val (.long q4), .second, .val (.long q5), .second, .val (.int (p3 &&& (3 : Int32))), .val (.int sx), .val .null, .val .null, .val .null, .val .null, .unset, .unset] [(.int p1), (.ref b1), (.ref b1)])
        refine own_go (fun t k => XS.iload X1.here hx rfl (hb hby at_105) rfl k) ?_
        show own_Go p e below _ T1 (mkF m 107 #[.val (.int p1), .val (.int p2), .val (.int p3), .val (.long q4), .second, .val (.long q5), .second, .val (.int (p3 &&& (3 : Int32))), .val (.int sx), .val .null, .val .null, .val .null, .val .null, .unset, .unset] [(.int sx), (.int p1), (.ref b1), (.ref b1)])
        refine own_go (fun t k => XS.aload X1.here hx rfl (hb hby at_107) rfl rfl k) ?_
        show own_Go p e below _ T1 (mkF m 109 #[.val (.int p1), .val (.int p2), .val (.int p3), .val (.long q4), .second, .val (.long q5), .second, .val (.int (p3 &&& (3 : Int32))), .val (.int sx), .val .null, .val .null, .val .null, .val .null, .unset, .unset] [.null, (.int sx), (.int p1), (.ref b1), (.ref b1)])
        refine own_go (fun t k => XS.aload X1.here hx rfl (hb hby at_109) rfl rfl k) ?_
        show own_Go p e below _ T1 (mkF m 111 #[.val (.int p1), .val (.int p2), .val (.int p3), .val (.long q4), .second, .val (.long q5), .second, .val (.int (p3 &&& (3 : Int32))), .val (.int sx), .val .null, .val .null, .val .null, .val .null, .unset, .unset] [.null, .null, (.int sx), (.int p1), (.ref b1), (.ref b1)])
        refine own_go (fun t k => XS.aload X1.here hx rfl (hb hby at_111) rfl rfl k) ?_
        show own_Go p e below _ T1 (mkF m 113 #[.val (.int p1), .val (.int p2), .val (.int p3), .val (.long q4), .second, .val (.long q5), .second, .val (.int (p3 &&& (3 : Int32))), .val (.int sx), .val .null, .val .null, .val .null, .val .null, .unset, .unset] [.null, .null, .null, (.int sx), (.int p1), (.ref b1), (.ref b1)])
        refine own_go (fun t k => XS.aload X1.here hx rfl (hb hby at_113) rfl rfl k) ?_
        show own_Go p e below _ T1 (mkF m 115 #[.val (.int p1), .val (.int p2), .val (.int p3), .val (.long q4), .second, .val (.long q5), .second, .val (.int (p3 &&& (3 : Int32))), .val (.int sx), .val .null, .val .null, .val .null, .val .null, .unset, .unset] [.null, .null, .null, .null, (.int sx), (.int p1), (.ref b1), (.ref b1)])
        obtain ⟨_, T2, L2, X2, ⟨rfl, N2, K2, FR2, FS2⟩, st2⟩ := own_callC X1 hx hZ (y := (⟨"com/example/lease/lease/service/BenchFigures", "<init>", "(IILjava/lang/Long;Ljava/lang/Long;Ljava/lang/Long;Ljava/lang/Long;)V"⟩ : MethodName)) (b := b1) (argsL := [(.int p1), (.int sx), .null, .null, .null, .null]) (rest := [(.ref b1)]) (Ls := #[.val (.int p1), .val (.int p2), .val (.int p3), .val (.long q4), .second, .val (.long q5), .second, .val (.int (p3 &&& (3 : Int32))), .val (.int sx), .val .null, .val .null, .val .null, .val .null, .unset, .unset]) rfl hown (own_w hw 3 rfl) (own_w hw 4 rfl) (own_w hw 5 rfl) (own_w hw 2 rfl) (by decide) e1 (rmBF l Z a0 hw [] b1 p1 sx .null .null .null .null rfl rfl rfl rfl h1 n0 (own_oldge old1) A1 F1_runs F1_succeeded F1_latenessP50 F1_latenessP99 F1_latenessMax F1_executionsPerSecond ge_b1) 1 (by decide) (by decide) (by decide) (by decide) (by rw [hml]; rfl) (lenOf pd_3 rfl) rfl (Nat.le_of_eq rfl) (hb hby at_115)
        have M2 := Fr.app N0 N2
        have old2 := old1.keep K2 (allS ge_b1 all0)
        refine own_go st2 ?_
        show own_Go p e below _ T2 (mkF m 118 #[.val (.int p1), .val (.int p2), .val (.int p3), .val (.long q4), .second, .val (.long q5), .second, .val (.int (p3 &&& (3 : Int32))), .val (.int sx), .val .null, .val .null, .val .null, .val .null, .unset, .unset] [(.ref b1)])
        refine own_go (fun t k => XS.astore X2.here hx rfl (hb hby at_118) rfl rfl (l' := #[.val (.int p1), .val (.int p2), .val (.int p3), .val (.long q4), .second, .val (.long q5), .second, .val (.int (p3 &&& (3 : Int32))), .val (.int sx), .val .null, .val .null, .val .null, .val .null, .val (.ref b1), .unset]) rfl k) ?_
        show own_Go p e below _ T2 (mkF m 120 #[.val (.int p1), .val (.int p2), .val (.int p3), .val (.long q4), .second, .val (.long q5), .second, .val (.int (p3 &&& (3 : Int32))), .val (.int sx), .val .null, .val .null, .val .null, .val .null, .val (.ref b1), .unset] [])
        refine own_go (fun t k => XS.iloadN X2.here hx rfl (hb hby at_120) rfl k) ?_
        show own_Go p e below _ T2 (mkF m 121 #[.val (.int p1), .val (.int p2), .val (.int p3), .val (.long q4), .second, .val (.long q5), .second, .val (.int (p3 &&& (3 : Int32))), .val (.int sx), .val .null, .val .null, .val .null, .val .null, .val (.ref b1), .unset] [(.int p1)])
        refine own_go (fun t k => XS.i2l X2.here hx rfl (hb hby at_121) rfl k) ?_
        show own_Go p e below _ T2 (mkF m 122 #[.val (.int p1), .val (.int p2), .val (.int p3), .val (.long q4), .second, .val (.long q5), .second, .val (.int (p3 &&& (3 : Int32))), .val (.int sx), .val .null, .val .null, .val .null, .val .null, .val (.ref b1), .unset] [(.long p1.toInt64)])
        refine own_go (fun t k => XS.iload X2.here hx rfl (hb hby at_122) rfl k) ?_
        show own_Go p e below _ T2 (mkF m 124 #[.val (.int p1), .val (.int p2), .val (.int p3), .val (.long q4), .second, .val (.long q5), .second, .val (.int (p3 &&& (3 : Int32))), .val (.int sx), .val .null, .val .null, .val .null, .val .null, .val (.ref b1), .unset] [(.int sx), (.long p1.toInt64)])
        refine own_go (fun t k => XS.i2l X2.here hx rfl (hb hby at_124) rfl k) ?_
        show own_Go p e below _ T2 (mkF m 125 #[.val (.int p1), .val (.int p2), .val (.int p3), .val (.long q4), .second, .val (.long q5), .second, .val (.int (p3 &&& (3 : Int32))), .val (.int sx), .val .null, .val .null, .val .null, .val .null, .val (.ref b1), .unset] [(.long sx.toInt64), (.long p1.toInt64)])
        refine own_go (fun t k => XS.lsub X2.here hx rfl (hb hby at_125) rfl k) ?_
        show own_Go p e below _ T2 (mkF m 126 #[.val (.int p1), .val (.int p2), .val (.int p3), .val (.long q4), .second, .val (.long q5), .second, .val (.int (p3 &&& (3 : Int32))), .val (.int sx), .val .null, .val .null, .val .null, .val .null, .val (.ref b1), .unset] [(.long (p1.toInt64 - sx.toInt64))])
        refine own_go (fun t k => XS.lconst X2.here hx rfl (hb hby at_126) k) ?_
        show own_Go p e below _ T2 (mkF m 127 #[.val (.int p1), .val (.int p2), .val (.int p3), .val (.long q4), .second, .val (.long q5), .second, .val (.int (p3 &&& (3 : Int32))), .val (.int sx), .val .null, .val .null, .val .null, .val .null, .val (.ref b1), .unset] [(.long (0 : Int64)), (.long (p1.toInt64 - sx.toInt64))])
        refine own_go (fun t k => XT.lcmp X2.here hx rfl (hb hby at_127) rfl k) ?_
        show own_Go p e below _ T2 (mkF m 128 #[.val (.int p1), .val (.int p2), .val (.int p3), .val (.long q4), .second, .val (.long q5), .second, .val (.int (p3 &&& (3 : Int32))), .val (.int sx), .val .null, .val .null, .val .null, .val .null, .val (.ref b1), .unset] [(.int (XT.cmpL (p1.toInt64 - sx.toInt64) (0 : Int64)))])
        by_cases hc128 : (p1.toInt64 - sx.toInt64) = (0 : Int64)
        · show own_Go p e below _ T2 (mkF m 128 #[.val (.int p1), .val (.int p2), .val (.int p3), .val (.long q4), .second, .val (.long q5), .second, .val (.int (p3 &&& (3 : Int32))), .val (.int sx), .val .null, .val .null, .val .null, .val .null, .val (.ref b1), .unset] [(.int (XT.cmpL (p1.toInt64 - sx.toInt64) (0 : Int64)))])
          refine own_go (fun t k => XS.ifNo X2.here hx rfl (hb hby at_128) rfl (XT.ll_ne_f hc128) k) ?_
          show own_Go p e below _ T2 (mkF m 131 #[.val (.int p1), .val (.int p2), .val (.int p3), .val (.long q4), .second, .val (.long q5), .second, .val (.int (p3 &&& (3 : Int32))), .val (.int sx), .val .null, .val .null, .val .null, .val .null, .val (.ref b1), .unset] [])
          refine own_go (fun t k => XS.iconst X2.here hx rfl (hb hby at_131) k) ?_
          show own_Go p e below _ T2 (mkF m 132 #[.val (.int p1), .val (.int p2), .val (.int p3), .val (.long q4), .second, .val (.long q5), .second, .val (.int (p3 &&& (3 : Int32))), .val (.int sx), .val .null, .val .null, .val .null, .val .null, .val (.ref b1), .unset] [(.int (1 : Int32))])
          refine own_go (fun t k => XS.goto X2.here hx rfl (pc0 := 132) (pc' := 136) rfl (hb hby at_132) (by decide) (by decide) k) ?_
          show own_Go p e below _ T2 (mkF m 136 #[.val (.int p1), .val (.int p2), .val (.int p3), .val (.long q4), .second, .val (.long q5), .second, .val (.int (p3 &&& (3 : Int32))), .val (.int sx), .val .null, .val .null, .val .null, .val .null, .val (.ref b1), .unset] [(.int (1 : Int32))])
          refine own_go (fun t k => XS.istore X2.here hx rfl (hb hby at_136) rfl (l' := #[.val (.int p1), .val (.int p2), .val (.int p3), .val (.long q4), .second, .val (.long q5), .second, .val (.int (p3 &&& (3 : Int32))), .val (.int sx), .val .null, .val .null, .val .null, .val .null, .val (.ref b1), .val (.int (1 : Int32))]) rfl k) ?_
          show own_Go p e below _ T2 (mkF m 138 #[.val (.int p1), .val (.int p2), .val (.int p3), .val (.long q4), .second, .val (.long q5), .second, .val (.int (p3 &&& (3 : Int32))), .val (.int sx), .val .null, .val .null, .val .null, .val .null, .val (.ref b1), .val (.int (1 : Int32))] [])
          refine own_go (fun t k => XS.aload X2.here hx rfl (hb hby at_138) rfl rfl k) ?_
          show own_Go p e below _ T2 (mkF m 140 #[.val (.int p1), .val (.int p2), .val (.int p3), .val (.long q4), .second, .val (.long q5), .second, .val (.int (p3 &&& (3 : Int32))), .val (.int sx), .val .null, .val .null, .val .null, .val .null, .val (.ref b1), .val (.int (1 : Int32))] [(.ref b1)])
          obtain ⟨_, T3, L3, X3, ⟨rfl, N3, e3⟩, st3⟩ := own_callV X2 hx hZ (y := (⟨"com/example/lease/lease/service/BenchFigures", "allSucceeded", "()Z"⟩ : MethodName)) (z := (⟨"com/example/lease/lease/service/BenchFigures", "allSucceeded", "()Z"⟩ : MethodName)) (b := b1) (argsL := []) (rest := []) (Ls := #[.val (.int p1), .val (.int p2), .val (.int p3), .val (.long q4), .second, .val (.long q5), .second, .val (.int (p3 &&& (3 : Int32))), .val (.int sx), .val .null, .val .null, .val .null, .val .null, .val (.ref b1), .val (.int (1 : Int32))]) hown (own_w hw 26 rfl) (own_w hw 27 rfl) (own_w hw 29 rfl) (notFace_of_selects (args := #[]) (mvT hZ (own_w hw 29 rfl))) (own_w hw 28 rfl) (own_w hw 30 rfl) (own_w hw 2 rfl) (by decide) rfl (A1.keep K2) (rmA l Z a0 hw [] b1 p1 sx T2.heap n0 (own_oldge old2) FR2 FS2) 0 (by decide) (by decide) (by decide) (by decide) (by rw [hml]; rfl) (lenOf pd_1 rfl) rfl (Nat.le_of_eq rfl) (hb hby at_140)
          have M3 := Fr.app M2 N3
          refine own_go st3 ?_
          show own_Go p e below _ T3 (mkF m 143 #[.val (.int p1), .val (.int p2), .val (.int p3), .val (.long q4), .second, .val (.long q5), .second, .val (.int (p3 &&& (3 : Int32))), .val (.int sx), .val .null, .val .null, .val .null, .val .null, .val (.ref b1), .val (.int (1 : Int32))] [(.int (if sx = p1 then 1 else 0))])
          refine own_go (fun t k => XS.iload X3.here hx rfl (hb hby at_143) rfl k) ?_
          show own_Go p e below _ T3 (mkF m 145 #[.val (.int p1), .val (.int p2), .val (.int p3), .val (.long q4), .second, .val (.long q5), .second, .val (.int (p3 &&& (3 : Int32))), .val (.int sx), .val .null, .val .null, .val .null, .val .null, .val (.ref b1), .val (.int (1 : Int32))] [(.int (1 : Int32)), (.int (if sx = p1 then 1 else 0))])
          refine own_go (fun t k => XS.icmpNo X3.here hx rfl (hb hby at_145) rfl (XT.ii_ne_f (if_pos (own_sub0.mp hc128))) k) ?_
          show own_Go p e below _ T3 (mkF m 148 #[.val (.int p1), .val (.int p2), .val (.int p3), .val (.long q4), .second, .val (.long q5), .second, .val (.int (p3 &&& (3 : Int32))), .val (.int sx), .val .null, .val .null, .val .null, .val .null, .val (.ref b1), .val (.int (1 : Int32))] [])
          refine own_go (fun t k => XS.iconst X3.here hx rfl (hb hby at_148) k) ?_
          show own_Go p e below _ T3 (mkF m 149 #[.val (.int p1), .val (.int p2), .val (.int p3), .val (.long q4), .second, .val (.long q5), .second, .val (.int (p3 &&& (3 : Int32))), .val (.int sx), .val .null, .val .null, .val .null, .val .null, .val (.ref b1), .val (.int (1 : Int32))] [(.int (1 : Int32))])
          refine own_go (fun t k => XS.goto X3.here hx rfl (pc0 := 149) (pc' := 153) rfl (hb hby at_149) (by decide) (by decide) k) ?_
          show own_Go p e below _ T3 (mkF m 153 #[.val (.int p1), .val (.int p2), .val (.int p3), .val (.long q4), .second, .val (.long q5), .second, .val (.int (p3 &&& (3 : Int32))), .val (.int sx), .val .null, .val .null, .val .null, .val .null, .val (.ref b1), .val (.int (1 : Int32))] [(.int (1 : Int32))])
          refine own_retZ X3 hx hlk hret (hb hby at_153) (Or.inr rfl) (by decide) (by decide) ?_
          exact ⟨rfl, M3⟩
        · show own_Go p e below _ T2 (mkF m 128 #[.val (.int p1), .val (.int p2), .val (.int p3), .val (.long q4), .second, .val (.long q5), .second, .val (.int (p3 &&& (3 : Int32))), .val (.int sx), .val .null, .val .null, .val .null, .val .null, .val (.ref b1), .unset] [(.int (XT.cmpL (p1.toInt64 - sx.toInt64) (0 : Int64)))])
          refine own_go (fun t k => XS.ifYes X2.here hx rfl (pc0 := 128) (pc' := 135) rfl (hb hby at_128) rfl (XT.ll_ne_t hc128) (by decide) (by decide) k) ?_
          show own_Go p e below _ T2 (mkF m 135 #[.val (.int p1), .val (.int p2), .val (.int p3), .val (.long q4), .second, .val (.long q5), .second, .val (.int (p3 &&& (3 : Int32))), .val (.int sx), .val .null, .val .null, .val .null, .val .null, .val (.ref b1), .unset] [])
          refine own_go (fun t k => XS.iconst X2.here hx rfl (hb hby at_135) k) ?_
          show own_Go p e below _ T2 (mkF m 136 #[.val (.int p1), .val (.int p2), .val (.int p3), .val (.long q4), .second, .val (.long q5), .second, .val (.int (p3 &&& (3 : Int32))), .val (.int sx), .val .null, .val .null, .val .null, .val .null, .val (.ref b1), .unset] [(.int (0 : Int32))])
          refine own_go (fun t k => XS.istore X2.here hx rfl (hb hby at_136) rfl (l' := #[.val (.int p1), .val (.int p2), .val (.int p3), .val (.long q4), .second, .val (.long q5), .second, .val (.int (p3 &&& (3 : Int32))), .val (.int sx), .val .null, .val .null, .val .null, .val .null, .val (.ref b1), .val (.int (0 : Int32))]) rfl k) ?_
          show own_Go p e below _ T2 (mkF m 138 #[.val (.int p1), .val (.int p2), .val (.int p3), .val (.long q4), .second, .val (.long q5), .second, .val (.int (p3 &&& (3 : Int32))), .val (.int sx), .val .null, .val .null, .val .null, .val .null, .val (.ref b1), .val (.int (0 : Int32))] [])
          refine own_go (fun t k => XS.aload X2.here hx rfl (hb hby at_138) rfl rfl k) ?_
          show own_Go p e below _ T2 (mkF m 140 #[.val (.int p1), .val (.int p2), .val (.int p3), .val (.long q4), .second, .val (.long q5), .second, .val (.int (p3 &&& (3 : Int32))), .val (.int sx), .val .null, .val .null, .val .null, .val .null, .val (.ref b1), .val (.int (0 : Int32))] [(.ref b1)])
          obtain ⟨_, T4, L4, X4, ⟨rfl, N4, e4⟩, st4⟩ := own_callV X2 hx hZ (y := (⟨"com/example/lease/lease/service/BenchFigures", "allSucceeded", "()Z"⟩ : MethodName)) (z := (⟨"com/example/lease/lease/service/BenchFigures", "allSucceeded", "()Z"⟩ : MethodName)) (b := b1) (argsL := []) (rest := []) (Ls := #[.val (.int p1), .val (.int p2), .val (.int p3), .val (.long q4), .second, .val (.long q5), .second, .val (.int (p3 &&& (3 : Int32))), .val (.int sx), .val .null, .val .null, .val .null, .val .null, .val (.ref b1), .val (.int (0 : Int32))]) hown (own_w hw 26 rfl) (own_w hw 27 rfl) (own_w hw 29 rfl) (notFace_of_selects (args := #[]) (mvT hZ (own_w hw 29 rfl))) (own_w hw 28 rfl) (own_w hw 30 rfl) (own_w hw 2 rfl) (by decide) rfl (A1.keep K2) (rmA l Z a0 hw [] b1 p1 sx T2.heap n0 (own_oldge old2) FR2 FS2) 0 (by decide) (by decide) (by decide) (by decide) (by rw [hml]; rfl) (lenOf pd_1 rfl) rfl (Nat.le_of_eq rfl) (hb hby at_140)
          have M4 := Fr.app M2 N4
          refine own_go st4 ?_
          show own_Go p e below _ T4 (mkF m 143 #[.val (.int p1), .val (.int p2), .val (.int p3), .val (.long q4), .second, .val (.long q5), .second, .val (.int (p3 &&& (3 : Int32))), .val (.int sx), .val .null, .val .null, .val .null, .val .null, .val (.ref b1), .val (.int (0 : Int32))] [(.int (if sx = p1 then 1 else 0))])
          refine own_go (fun t k => XS.iload X4.here hx rfl (hb hby at_143) rfl k) ?_
          show own_Go p e below _ T4 (mkF m 145 #[.val (.int p1), .val (.int p2), .val (.int p3), .val (.long q4), .second, .val (.long q5), .second, .val (.int (p3 &&& (3 : Int32))), .val (.int sx), .val .null, .val .null, .val .null, .val .null, .val (.ref b1), .val (.int (0 : Int32))] [(.int (0 : Int32)), (.int (if sx = p1 then 1 else 0))])
          refine own_go (fun t k => XS.icmpNo X4.here hx rfl (hb hby at_145) rfl (XT.ii_ne_f (if_neg (fun q => hc128 (own_sub0.mpr q)))) k) ?_
          show own_Go p e below _ T4 (mkF m 148 #[.val (.int p1), .val (.int p2), .val (.int p3), .val (.long q4), .second, .val (.long q5), .second, .val (.int (p3 &&& (3 : Int32))), .val (.int sx), .val .null, .val .null, .val .null, .val .null, .val (.ref b1), .val (.int (0 : Int32))] [])
          refine own_go (fun t k => XS.iconst X4.here hx rfl (hb hby at_148) k) ?_
          show own_Go p e below _ T4 (mkF m 149 #[.val (.int p1), .val (.int p2), .val (.int p3), .val (.long q4), .second, .val (.long q5), .second, .val (.int (p3 &&& (3 : Int32))), .val (.int sx), .val .null, .val .null, .val .null, .val .null, .val (.ref b1), .val (.int (0 : Int32))] [(.int (1 : Int32))])
          refine own_go (fun t k => XS.goto X4.here hx rfl (pc0 := 149) (pc' := 153) rfl (hb hby at_149) (by decide) (by decide) k) ?_
          show own_Go p e below _ T4 (mkF m 153 #[.val (.int p1), .val (.int p2), .val (.int p3), .val (.long q4), .second, .val (.long q5), .second, .val (.int (p3 &&& (3 : Int32))), .val (.int sx), .val .null, .val .null, .val .null, .val .null, .val (.ref b1), .val (.int (0 : Int32))] [(.int (1 : Int32))])
          refine own_retZ X4 hx hlk hret (hb hby at_153) (Or.inr rfl) (by decide) (by decide) ?_
          exact ⟨rfl, M4⟩
      · show own_Go p e below _ T0 (mkF m 90 #[.val (.int p1), .val (.int p2), .val (.int p3), .val (.long q4), .second, .val (.long q5), .second, .val (.int (p3 &&& (3 : Int32))), .val (.int sx), .val .null, .val .null, .val .null, .val .null, .unset, .unset] [(.int (p3 &&& (8 : Int32)))])
        refine own_go (fun t k => XS.ifNo X0.here hx rfl (hb hby at_90) rfl (XT.i0_eq_f hc90) k) ?_
        show own_Go p e below _ T0 (mkF m 93 #[.val (.int p1), .val (.int p2), .val (.int p3), .val (.long q4), .second, .val (.long q5), .second, .val (.int (p3 &&& (3 : Int32))), .val (.int sx), .val .null, .val .null, .val .null, .val .null, .unset, .unset] [])
        refine own_go (fun t k => XS.lload X0.here hx rfl (hb hby at_93) rfl k) ?_
        show own_Go p e below _ T0 (mkF m 95 #[.val (.int p1), .val (.int p2), .val (.int p3), .val (.long q4), .second, .val (.long q5), .second, .val (.int (p3 &&& (3 : Int32))), .val (.int sx), .val .null, .val .null, .val .null, .val .null, .unset, .unset] [(.long q5)])
        obtain ⟨_, T5, L5, X5, ⟨⟨u5, rfl, hu5⟩, old5, N5⟩, st5⟩ := own_callS X0 hx hZ (y := (⟨"java/lang/Long", "valueOf", "(J)Ljava/lang/Long;"⟩ : MethodName)) (argsL := [(.long q5)]) (rest := []) (Ls := #[.val (.int p1), .val (.int p2), .val (.int p3), .val (.long q4), .second, .val (.long q5), .second, .val (.int (p3 &&& (3 : Int32))), .val (.int sx), .val .null, .val .null, .val .null, .val .null, .unset, .unset]) hown (own_w hw 31 rfl) (own_w hw 32 rfl) (own_w hw 33 rfl) (own_w hw 34 rfl) (by decide) e0 (rmL l Z a0 hw [] q5 ac cc h0 n0 (own_oldge O0) O0 S_C A_C hs_C he_C) 0 (by decide) (by decide) (by decide) (by decide) (by rw [hml]; rfl) (lenOf pd_4 rfl) rfl (Nat.le_of_eq rfl) (hb hby at_95)
        have M5 := Fr.app N0 N5
        refine own_go st5 ?_
        show own_Go p e below _ T5 (mkF m 98 #[.val (.int p1), .val (.int p2), .val (.int p3), .val (.long q4), .second, .val (.long q5), .second, .val (.int (p3 &&& (3 : Int32))), .val (.int sx), .val .null, .val .null, .val .null, .val .null, .unset, .unset] [u5])
        refine own_go (fun t k => XS.astore X5.here hx rfl (hb hby at_98) rfl hu5 (l' := #[.val (.int p1), .val (.int p2), .val (.int p3), .val (.long q4), .second, .val (.long q5), .second, .val (.int (p3 &&& (3 : Int32))), .val (.int sx), .val .null, .val .null, .val .null, .val u5, .unset, .unset]) (by rcases ref_cases hu5 with h | ⟨z, h⟩ <;> rw [h] <;> rfl) k) ?_
        show own_Go p e below _ T5 (mkF m 100 #[.val (.int p1), .val (.int p2), .val (.int p3), .val (.long q4), .second, .val (.long q5), .second, .val (.int (p3 &&& (3 : Int32))), .val (.int sx), .val .null, .val .null, .val .null, .val u5, .unset, .unset] [])
        obtain ⟨T6, h6, b6, X6, e6, E6, g6, A6, D6, st6⟩ := own_newO X5 hx hZ hown (own_w hw 0 rfl) (own_w hw 1 rfl) (own_w hw 2 rfl) rfl (Ls := #[.val (.int p1), .val (.int p2), .val (.int p3), .val (.long q4), .second, .val (.long q5), .second, .val (.int (p3 &&& (3 : Int32))), .val (.int sx), .val .null, .val .null, .val .null, .val u5, .unset, .unset]) (st := []) (hb hby at_100) (by decide) (by decide)
        have ge_b6 : n0 ≤ b6 := g6 ▸ own_oldge old5
        have old6 := old5.ext E6
        have F6_runs : Fld Z h6 b6 "com/example/lease/lease/service/BenchFigures" "runs" "I" (.int (0 : Int32)) := D6 (Or.inr (own_w hw 15 rfl)) (ty := .int) (by decide)
        have F6_succeeded : Fld Z h6 b6 "com/example/lease/lease/service/BenchFigures" "succeeded" "I" (.int (0 : Int32)) := D6 (Or.inr (own_w hw 17 rfl)) (ty := .int) (by decide)
        have F6_latenessP50 : Fld Z h6 b6 "com/example/lease/lease/service/BenchFigures" "latenessP50" "Ljava/lang/Long;" .null := D6 (Or.inr (own_w hw 19 rfl)) (ty := (.object "java/lang/Long")) (by decide)
        have F6_latenessP99 : Fld Z h6 b6 "com/example/lease/lease/service/BenchFigures" "latenessP99" "Ljava/lang/Long;" .null := D6 (Or.inr (own_w hw 21 rfl)) (ty := (.object "java/lang/Long")) (by decide)
        have F6_latenessMax : Fld Z h6 b6 "com/example/lease/lease/service/BenchFigures" "latenessMax" "Ljava/lang/Long;" .null := D6 (Or.inr (own_w hw 23 rfl)) (ty := (.object "java/lang/Long")) (by decide)
        have F6_executionsPerSecond : Fld Z h6 b6 "com/example/lease/lease/service/BenchFigures" "executionsPerSecond" "Ljava/lang/Long;" .null := D6 (Or.inr (own_w hw 25 rfl)) (ty := (.object "java/lang/Long")) (by decide)
        refine own_go st6 ?_
        show own_Go p e below _ T6 (mkF m 103 #[.val (.int p1), .val (.int p2), .val (.int p3), .val (.long q4), .second, .val (.long q5), .second, .val (.int (p3 &&& (3 : Int32))), .val (.int sx), .val .null, .val .null, .val .null, .val u5, .unset, .unset] [(.ref b6)])
        refine own_go (fun t k => XS.dup X6.here hx rfl (hb hby at_103) rfl rfl k) ?_
        show own_Go p e below _ T6 (mkF m 104 #[.val (.int p1), .val (.int p2), .val (.int p3), .val (.long q4), .second, .val (.long q5), .second, .val (.int (p3 &&& (3 : Int32))), .val (.int sx), .val .null, .val .null, .val .null, .val u5, .unset, .unset] [(.ref b6), (.ref b6)])
        refine own_go (fun t k => XS.iloadN X6.here hx rfl (hb hby at_104) rfl k) ?_
        show own_Go p e below _ T6 (mkF m 105 #[.val (.int p1), .val (.int p2), .val (.int p3), .val (.long q4), .second, .val (.long q5), .second, .val (.int (p3 &&& (3 : Int32))), .val (.int sx), .val .null, .val .null, .val .null, .val u5, .unset, .unset] [(.int p1), (.ref b6), (.ref b6)])
        refine own_go (fun t k => XS.iload X6.here hx rfl (hb hby at_105) rfl k) ?_
        show own_Go p e below _ T6 (mkF m 107 #[.val (.int p1), .val (.int p2), .val (.int p3), .val (.long q4), .second, .val (.long q5), .second, .val (.int (p3 &&& (3 : Int32))), .val (.int sx), .val .null, .val .null, .val .null, .val u5, .unset, .unset] [(.int sx), (.int p1), (.ref b6), (.ref b6)])
        refine own_go (fun t k => XS.aload X6.here hx rfl (hb hby at_107) rfl rfl k) ?_
        show own_Go p e below _ T6 (mkF m 109 #[.val (.int p1), .val (.int p2), .val (.int p3), .val (.long q4), .second, .val (.long q5), .second, .val (.int (p3 &&& (3 : Int32))), .val (.int sx), .val .null, .val .null, .val .null, .val u5, .unset, .unset] [.null, (.int sx), (.int p1), (.ref b6), (.ref b6)])
        refine own_go (fun t k => XS.aload X6.here hx rfl (hb hby at_109) rfl rfl k) ?_
        show own_Go p e below _ T6 (mkF m 111 #[.val (.int p1), .val (.int p2), .val (.int p3), .val (.long q4), .second, .val (.long q5), .second, .val (.int (p3 &&& (3 : Int32))), .val (.int sx), .val .null, .val .null, .val .null, .val u5, .unset, .unset] [.null, .null, (.int sx), (.int p1), (.ref b6), (.ref b6)])
        refine own_go (fun t k => XS.aload X6.here hx rfl (hb hby at_111) rfl rfl k) ?_
        show own_Go p e below _ T6 (mkF m 113 #[.val (.int p1), .val (.int p2), .val (.int p3), .val (.long q4), .second, .val (.long q5), .second, .val (.int (p3 &&& (3 : Int32))), .val (.int sx), .val .null, .val .null, .val .null, .val u5, .unset, .unset] [.null, .null, .null, (.int sx), (.int p1), (.ref b6), (.ref b6)])
        refine own_go (fun t k => XS.aload X6.here hx rfl (hb hby at_113) rfl hu5 k) ?_
        show own_Go p e below _ T6 (mkF m 115 #[.val (.int p1), .val (.int p2), .val (.int p3), .val (.long q4), .second, .val (.long q5), .second, .val (.int (p3 &&& (3 : Int32))), .val (.int sx), .val .null, .val .null, .val .null, .val u5, .unset, .unset] [u5, .null, .null, .null, (.int sx), (.int p1), (.ref b6), (.ref b6)])
        obtain ⟨_, T7, L7, X7, ⟨rfl, N7, K7, FR7, FS7⟩, st7⟩ := own_callC X6 hx hZ (y := (⟨"com/example/lease/lease/service/BenchFigures", "<init>", "(IILjava/lang/Long;Ljava/lang/Long;Ljava/lang/Long;Ljava/lang/Long;)V"⟩ : MethodName)) (b := b6) (argsL := [(.int p1), (.int sx), .null, .null, .null, u5]) (rest := [(.ref b6)]) (Ls := #[.val (.int p1), .val (.int p2), .val (.int p3), .val (.long q4), .second, .val (.long q5), .second, .val (.int (p3 &&& (3 : Int32))), .val (.int sx), .val .null, .val .null, .val .null, .val u5, .unset, .unset]) rfl hown (own_w hw 3 rfl) (own_w hw 4 rfl) (own_w hw 5 rfl) (own_w hw 2 rfl) (by decide) e6 (rmBF l Z a0 hw [] b6 p1 sx .null .null .null u5 rfl rfl rfl hu5 h6 n0 (own_oldge old6) A6 F6_runs F6_succeeded F6_latenessP50 F6_latenessP99 F6_latenessMax F6_executionsPerSecond ge_b6) 1 (by decide) (by decide) (by decide) (by decide) (by rw [hml]; rfl) (lenOf pd_3 rfl) rfl (Nat.le_of_eq rfl) (hb hby at_115)
        have M7 := Fr.app M5 N7
        have old7 := old6.keep K7 (allS ge_b6 all0)
        refine own_go st7 ?_
        show own_Go p e below _ T7 (mkF m 118 #[.val (.int p1), .val (.int p2), .val (.int p3), .val (.long q4), .second, .val (.long q5), .second, .val (.int (p3 &&& (3 : Int32))), .val (.int sx), .val .null, .val .null, .val .null, .val u5, .unset, .unset] [(.ref b6)])
        refine own_go (fun t k => XS.astore X7.here hx rfl (hb hby at_118) rfl rfl (l' := #[.val (.int p1), .val (.int p2), .val (.int p3), .val (.long q4), .second, .val (.long q5), .second, .val (.int (p3 &&& (3 : Int32))), .val (.int sx), .val .null, .val .null, .val .null, .val u5, .val (.ref b6), .unset]) rfl k) ?_
        show own_Go p e below _ T7 (mkF m 120 #[.val (.int p1), .val (.int p2), .val (.int p3), .val (.long q4), .second, .val (.long q5), .second, .val (.int (p3 &&& (3 : Int32))), .val (.int sx), .val .null, .val .null, .val .null, .val u5, .val (.ref b6), .unset] [])
        refine own_go (fun t k => XS.iloadN X7.here hx rfl (hb hby at_120) rfl k) ?_
        show own_Go p e below _ T7 (mkF m 121 #[.val (.int p1), .val (.int p2), .val (.int p3), .val (.long q4), .second, .val (.long q5), .second, .val (.int (p3 &&& (3 : Int32))), .val (.int sx), .val .null, .val .null, .val .null, .val u5, .val (.ref b6), .unset] [(.int p1)])
        refine own_go (fun t k => XS.i2l X7.here hx rfl (hb hby at_121) rfl k) ?_
        show own_Go p e below _ T7 (mkF m 122 #[.val (.int p1), .val (.int p2), .val (.int p3), .val (.long q4), .second, .val (.long q5), .second, .val (.int (p3 &&& (3 : Int32))), .val (.int sx), .val .null, .val .null, .val .null, .val u5, .val (.ref b6), .unset] [(.long p1.toInt64)])
        refine own_go (fun t k => XS.iload X7.here hx rfl (hb hby at_122) rfl k) ?_
        show own_Go p e below _ T7 (mkF m 124 #[.val (.int p1), .val (.int p2), .val (.int p3), .val (.long q4), .second, .val (.long q5), .second, .val (.int (p3 &&& (3 : Int32))), .val (.int sx), .val .null, .val .null, .val .null, .val u5, .val (.ref b6), .unset] [(.int sx), (.long p1.toInt64)])
        refine own_go (fun t k => XS.i2l X7.here hx rfl (hb hby at_124) rfl k) ?_
        show own_Go p e below _ T7 (mkF m 125 #[.val (.int p1), .val (.int p2), .val (.int p3), .val (.long q4), .second, .val (.long q5), .second, .val (.int (p3 &&& (3 : Int32))), .val (.int sx), .val .null, .val .null, .val .null, .val u5, .val (.ref b6), .unset] [(.long sx.toInt64), (.long p1.toInt64)])
        refine own_go (fun t k => XS.lsub X7.here hx rfl (hb hby at_125) rfl k) ?_
        show own_Go p e below _ T7 (mkF m 126 #[.val (.int p1), .val (.int p2), .val (.int p3), .val (.long q4), .second, .val (.long q5), .second, .val (.int (p3 &&& (3 : Int32))), .val (.int sx), .val .null, .val .null, .val .null, .val u5, .val (.ref b6), .unset] [(.long (p1.toInt64 - sx.toInt64))])
        refine own_go (fun t k => XS.lconst X7.here hx rfl (hb hby at_126) k) ?_
        show own_Go p e below _ T7 (mkF m 127 #[.val (.int p1), .val (.int p2), .val (.int p3), .val (.long q4), .second, .val (.long q5), .second, .val (.int (p3 &&& (3 : Int32))), .val (.int sx), .val .null, .val .null, .val .null, .val u5, .val (.ref b6), .unset] [(.long (0 : Int64)), (.long (p1.toInt64 - sx.toInt64))])
        refine own_go (fun t k => XT.lcmp X7.here hx rfl (hb hby at_127) rfl k) ?_
        show own_Go p e below _ T7 (mkF m 128 #[.val (.int p1), .val (.int p2), .val (.int p3), .val (.long q4), .second, .val (.long q5), .second, .val (.int (p3 &&& (3 : Int32))), .val (.int sx), .val .null, .val .null, .val .null, .val u5, .val (.ref b6), .unset] [(.int (XT.cmpL (p1.toInt64 - sx.toInt64) (0 : Int64)))])
        by_cases hc128 : (p1.toInt64 - sx.toInt64) = (0 : Int64)
        · show own_Go p e below _ T7 (mkF m 128 #[.val (.int p1), .val (.int p2), .val (.int p3), .val (.long q4), .second, .val (.long q5), .second, .val (.int (p3 &&& (3 : Int32))), .val (.int sx), .val .null, .val .null, .val .null, .val u5, .val (.ref b6), .unset] [(.int (XT.cmpL (p1.toInt64 - sx.toInt64) (0 : Int64)))])
          refine own_go (fun t k => XS.ifNo X7.here hx rfl (hb hby at_128) rfl (XT.ll_ne_f hc128) k) ?_
          show own_Go p e below _ T7 (mkF m 131 #[.val (.int p1), .val (.int p2), .val (.int p3), .val (.long q4), .second, .val (.long q5), .second, .val (.int (p3 &&& (3 : Int32))), .val (.int sx), .val .null, .val .null, .val .null, .val u5, .val (.ref b6), .unset] [])
          refine own_go (fun t k => XS.iconst X7.here hx rfl (hb hby at_131) k) ?_
          show own_Go p e below _ T7 (mkF m 132 #[.val (.int p1), .val (.int p2), .val (.int p3), .val (.long q4), .second, .val (.long q5), .second, .val (.int (p3 &&& (3 : Int32))), .val (.int sx), .val .null, .val .null, .val .null, .val u5, .val (.ref b6), .unset] [(.int (1 : Int32))])
          refine own_go (fun t k => XS.goto X7.here hx rfl (pc0 := 132) (pc' := 136) rfl (hb hby at_132) (by decide) (by decide) k) ?_
          show own_Go p e below _ T7 (mkF m 136 #[.val (.int p1), .val (.int p2), .val (.int p3), .val (.long q4), .second, .val (.long q5), .second, .val (.int (p3 &&& (3 : Int32))), .val (.int sx), .val .null, .val .null, .val .null, .val u5, .val (.ref b6), .unset] [(.int (1 : Int32))])
          refine own_go (fun t k => XS.istore X7.here hx rfl (hb hby at_136) rfl (l' := #[.val (.int p1), .val (.int p2), .val (.int p3), .val (.long q4), .second, .val (.long q5), .second, .val (.int (p3 &&& (3 : Int32))), .val (.int sx), .val .null, .val .null, .val .null, .val u5, .val (.ref b6), .val (.int (1 : Int32))]) rfl k) ?_
          show own_Go p e below _ T7 (mkF m 138 #[.val (.int p1), .val (.int p2), .val (.int p3), .val (.long q4), .second, .val (.long q5), .second, .val (.int (p3 &&& (3 : Int32))), .val (.int sx), .val .null, .val .null, .val .null, .val u5, .val (.ref b6), .val (.int (1 : Int32))] [])
          refine own_go (fun t k => XS.aload X7.here hx rfl (hb hby at_138) rfl rfl k) ?_
          show own_Go p e below _ T7 (mkF m 140 #[.val (.int p1), .val (.int p2), .val (.int p3), .val (.long q4), .second, .val (.long q5), .second, .val (.int (p3 &&& (3 : Int32))), .val (.int sx), .val .null, .val .null, .val .null, .val u5, .val (.ref b6), .val (.int (1 : Int32))] [(.ref b6)])
          obtain ⟨_, T8, L8, X8, ⟨rfl, N8, e8⟩, st8⟩ := own_callV X7 hx hZ (y := (⟨"com/example/lease/lease/service/BenchFigures", "allSucceeded", "()Z"⟩ : MethodName)) (z := (⟨"com/example/lease/lease/service/BenchFigures", "allSucceeded", "()Z"⟩ : MethodName)) (b := b6) (argsL := []) (rest := []) (Ls := #[.val (.int p1), .val (.int p2), .val (.int p3), .val (.long q4), .second, .val (.long q5), .second, .val (.int (p3 &&& (3 : Int32))), .val (.int sx), .val .null, .val .null, .val .null, .val u5, .val (.ref b6), .val (.int (1 : Int32))]) hown (own_w hw 26 rfl) (own_w hw 27 rfl) (own_w hw 29 rfl) (notFace_of_selects (args := #[]) (mvT hZ (own_w hw 29 rfl))) (own_w hw 28 rfl) (own_w hw 30 rfl) (own_w hw 2 rfl) (by decide) rfl (A6.keep K7) (rmA l Z a0 hw [] b6 p1 sx T7.heap n0 (own_oldge old7) FR7 FS7) 0 (by decide) (by decide) (by decide) (by decide) (by rw [hml]; rfl) (lenOf pd_1 rfl) rfl (Nat.le_of_eq rfl) (hb hby at_140)
          have M8 := Fr.app M7 N8
          refine own_go st8 ?_
          show own_Go p e below _ T8 (mkF m 143 #[.val (.int p1), .val (.int p2), .val (.int p3), .val (.long q4), .second, .val (.long q5), .second, .val (.int (p3 &&& (3 : Int32))), .val (.int sx), .val .null, .val .null, .val .null, .val u5, .val (.ref b6), .val (.int (1 : Int32))] [(.int (if sx = p1 then 1 else 0))])
          refine own_go (fun t k => XS.iload X8.here hx rfl (hb hby at_143) rfl k) ?_
          show own_Go p e below _ T8 (mkF m 145 #[.val (.int p1), .val (.int p2), .val (.int p3), .val (.long q4), .second, .val (.long q5), .second, .val (.int (p3 &&& (3 : Int32))), .val (.int sx), .val .null, .val .null, .val .null, .val u5, .val (.ref b6), .val (.int (1 : Int32))] [(.int (1 : Int32)), (.int (if sx = p1 then 1 else 0))])
          refine own_go (fun t k => XS.icmpNo X8.here hx rfl (hb hby at_145) rfl (XT.ii_ne_f (if_pos (own_sub0.mp hc128))) k) ?_
          show own_Go p e below _ T8 (mkF m 148 #[.val (.int p1), .val (.int p2), .val (.int p3), .val (.long q4), .second, .val (.long q5), .second, .val (.int (p3 &&& (3 : Int32))), .val (.int sx), .val .null, .val .null, .val .null, .val u5, .val (.ref b6), .val (.int (1 : Int32))] [])
          refine own_go (fun t k => XS.iconst X8.here hx rfl (hb hby at_148) k) ?_
          show own_Go p e below _ T8 (mkF m 149 #[.val (.int p1), .val (.int p2), .val (.int p3), .val (.long q4), .second, .val (.long q5), .second, .val (.int (p3 &&& (3 : Int32))), .val (.int sx), .val .null, .val .null, .val .null, .val u5, .val (.ref b6), .val (.int (1 : Int32))] [(.int (1 : Int32))])
          refine own_go (fun t k => XS.goto X8.here hx rfl (pc0 := 149) (pc' := 153) rfl (hb hby at_149) (by decide) (by decide) k) ?_
          show own_Go p e below _ T8 (mkF m 153 #[.val (.int p1), .val (.int p2), .val (.int p3), .val (.long q4), .second, .val (.long q5), .second, .val (.int (p3 &&& (3 : Int32))), .val (.int sx), .val .null, .val .null, .val .null, .val u5, .val (.ref b6), .val (.int (1 : Int32))] [(.int (1 : Int32))])
          refine own_retZ X8 hx hlk hret (hb hby at_153) (Or.inr rfl) (by decide) (by decide) ?_
          exact ⟨rfl, M8⟩
        · show own_Go p e below _ T7 (mkF m 128 #[.val (.int p1), .val (.int p2), .val (.int p3), .val (.long q4), .second, .val (.long q5), .second, .val (.int (p3 &&& (3 : Int32))), .val (.int sx), .val .null, .val .null, .val .null, .val u5, .val (.ref b6), .unset] [(.int (XT.cmpL (p1.toInt64 - sx.toInt64) (0 : Int64)))])
          refine own_go (fun t k => XS.ifYes X7.here hx rfl (pc0 := 128) (pc' := 135) rfl (hb hby at_128) rfl (XT.ll_ne_t hc128) (by decide) (by decide) k) ?_
          show own_Go p e below _ T7 (mkF m 135 #[.val (.int p1), .val (.int p2), .val (.int p3), .val (.long q4), .second, .val (.long q5), .second, .val (.int (p3 &&& (3 : Int32))), .val (.int sx), .val .null, .val .null, .val .null, .val u5, .val (.ref b6), .unset] [])
          refine own_go (fun t k => XS.iconst X7.here hx rfl (hb hby at_135) k) ?_
          show own_Go p e below _ T7 (mkF m 136 #[.val (.int p1), .val (.int p2), .val (.int p3), .val (.long q4), .second, .val (.long q5), .second, .val (.int (p3 &&& (3 : Int32))), .val (.int sx), .val .null, .val .null, .val .null, .val u5, .val (.ref b6), .unset] [(.int (0 : Int32))])
          refine own_go (fun t k => XS.istore X7.here hx rfl (hb hby at_136) rfl (l' := #[.val (.int p1), .val (.int p2), .val (.int p3), .val (.long q4), .second, .val (.long q5), .second, .val (.int (p3 &&& (3 : Int32))), .val (.int sx), .val .null, .val .null, .val .null, .val u5, .val (.ref b6), .val (.int (0 : Int32))]) rfl k) ?_
          show own_Go p e below _ T7 (mkF m 138 #[.val (.int p1), .val (.int p2), .val (.int p3), .val (.long q4), .second, .val (.long q5), .second, .val (.int (p3 &&& (3 : Int32))), .val (.int sx), .val .null, .val .null, .val .null, .val u5, .val (.ref b6), .val (.int (0 : Int32))] [])
          refine own_go (fun t k => XS.aload X7.here hx rfl (hb hby at_138) rfl rfl k) ?_
          show own_Go p e below _ T7 (mkF m 140 #[.val (.int p1), .val (.int p2), .val (.int p3), .val (.long q4), .second, .val (.long q5), .second, .val (.int (p3 &&& (3 : Int32))), .val (.int sx), .val .null, .val .null, .val .null, .val u5, .val (.ref b6), .val (.int (0 : Int32))] [(.ref b6)])
          obtain ⟨_, T9, L9, X9, ⟨rfl, N9, e9⟩, st9⟩ := own_callV X7 hx hZ (y := (⟨"com/example/lease/lease/service/BenchFigures", "allSucceeded", "()Z"⟩ : MethodName)) (z := (⟨"com/example/lease/lease/service/BenchFigures", "allSucceeded", "()Z"⟩ : MethodName)) (b := b6) (argsL := []) (rest := []) (Ls := #[.val (.int p1), .val (.int p2), .val (.int p3), .val (.long q4), .second, .val (.long q5), .second, .val (.int (p3 &&& (3 : Int32))), .val (.int sx), .val .null, .val .null, .val .null, .val u5, .val (.ref b6), .val (.int (0 : Int32))]) hown (own_w hw 26 rfl) (own_w hw 27 rfl) (own_w hw 29 rfl) (notFace_of_selects (args := #[]) (mvT hZ (own_w hw 29 rfl))) (own_w hw 28 rfl) (own_w hw 30 rfl) (own_w hw 2 rfl) (by decide) rfl (A6.keep K7) (rmA l Z a0 hw [] b6 p1 sx T7.heap n0 (own_oldge old7) FR7 FS7) 0 (by decide) (by decide) (by decide) (by decide) (by rw [hml]; rfl) (lenOf pd_1 rfl) rfl (Nat.le_of_eq rfl) (hb hby at_140)
          have M9 := Fr.app M7 N9
          refine own_go st9 ?_
          show own_Go p e below _ T9 (mkF m 143 #[.val (.int p1), .val (.int p2), .val (.int p3), .val (.long q4), .second, .val (.long q5), .second, .val (.int (p3 &&& (3 : Int32))), .val (.int sx), .val .null, .val .null, .val .null, .val u5, .val (.ref b6), .val (.int (0 : Int32))] [(.int (if sx = p1 then 1 else 0))])
          refine own_go (fun t k => XS.iload X9.here hx rfl (hb hby at_143) rfl k) ?_
          show own_Go p e below _ T9 (mkF m 145 #[.val (.int p1), .val (.int p2), .val (.int p3), .val (.long q4), .second, .val (.long q5), .second, .val (.int (p3 &&& (3 : Int32))), .val (.int sx), .val .null, .val .null, .val .null, .val u5, .val (.ref b6), .val (.int (0 : Int32))] [(.int (0 : Int32)), (.int (if sx = p1 then 1 else 0))])
          refine own_go (fun t k => XS.icmpNo X9.here hx rfl (hb hby at_145) rfl (XT.ii_ne_f (if_neg (fun q => hc128 (own_sub0.mpr q)))) k) ?_
          show own_Go p e below _ T9 (mkF m 148 #[.val (.int p1), .val (.int p2), .val (.int p3), .val (.long q4), .second, .val (.long q5), .second, .val (.int (p3 &&& (3 : Int32))), .val (.int sx), .val .null, .val .null, .val .null, .val u5, .val (.ref b6), .val (.int (0 : Int32))] [])
          refine own_go (fun t k => XS.iconst X9.here hx rfl (hb hby at_148) k) ?_
          show own_Go p e below _ T9 (mkF m 149 #[.val (.int p1), .val (.int p2), .val (.int p3), .val (.long q4), .second, .val (.long q5), .second, .val (.int (p3 &&& (3 : Int32))), .val (.int sx), .val .null, .val .null, .val .null, .val u5, .val (.ref b6), .val (.int (0 : Int32))] [(.int (1 : Int32))])
          refine own_go (fun t k => XS.goto X9.here hx rfl (pc0 := 149) (pc' := 153) rfl (hb hby at_149) (by decide) (by decide) k) ?_
          show own_Go p e below _ T9 (mkF m 153 #[.val (.int p1), .val (.int p2), .val (.int p3), .val (.long q4), .second, .val (.long q5), .second, .val (.int (p3 &&& (3 : Int32))), .val (.int sx), .val .null, .val .null, .val .null, .val u5, .val (.ref b6), .val (.int (0 : Int32))] [(.int (1 : Int32))])
          refine own_retZ X9 hx hlk hret (hb hby at_153) (Or.inr rfl) (by decide) (by decide) ?_
          exact ⟨rfl, M9⟩
    · show own_Go p e below _ T0 (mkF m 59 #[.val (.int p1), .val (.int p2), .val (.int p3), .val (.long q4), .second, .val (.long q5), .second, .val (.int (p3 &&& (3 : Int32))), .val (.int sx), .val .null, .val .null, .val .null, .unset, .unset, .unset] [(.int (p3 &&& (4 : Int32)))])
      refine own_go (fun t k => XS.ifNo X0.here hx rfl (hb hby at_59) rfl (XT.i0_eq_f hc59) k) ?_
      show own_Go p e below _ T0 (mkF m 62 #[.val (.int p1), .val (.int p2), .val (.int p3), .val (.long q4), .second, .val (.long q5), .second, .val (.int (p3 &&& (3 : Int32))), .val (.int sx), .val .null, .val .null, .val .null, .unset, .unset, .unset] [])
      refine own_go (fun t k => XS.lloadN X0.here hx rfl (hb hby at_62) rfl k) ?_
      show own_Go p e below _ T0 (mkF m 63 #[.val (.int p1), .val (.int p2), .val (.int p3), .val (.long q4), .second, .val (.long q5), .second, .val (.int (p3 &&& (3 : Int32))), .val (.int sx), .val .null, .val .null, .val .null, .unset, .unset, .unset] [(.long q4)])
      obtain ⟨_, T10, L10, X10, ⟨⟨u10, rfl, hu10⟩, old10, N10⟩, st10⟩ := own_callS X0 hx hZ (y := (⟨"java/lang/Long", "valueOf", "(J)Ljava/lang/Long;"⟩ : MethodName)) (argsL := [(.long q4)]) (rest := []) (Ls := #[.val (.int p1), .val (.int p2), .val (.int p3), .val (.long q4), .second, .val (.long q5), .second, .val (.int (p3 &&& (3 : Int32))), .val (.int sx), .val .null, .val .null, .val .null, .unset, .unset, .unset]) hown (own_w hw 31 rfl) (own_w hw 32 rfl) (own_w hw 33 rfl) (own_w hw 34 rfl) (by decide) e0 (rmL l Z a0 hw [] q4 ac cc h0 n0 (own_oldge O0) O0 S_C A_C hs_C he_C) 0 (by decide) (by decide) (by decide) (by decide) (by rw [hml]; rfl) (lenOf pd_4 rfl) rfl (Nat.le_of_eq rfl) (hb hby at_63)
      have M10 := Fr.app N0 N10
      refine own_go st10 ?_
      show own_Go p e below _ T10 (mkF m 66 #[.val (.int p1), .val (.int p2), .val (.int p3), .val (.long q4), .second, .val (.long q5), .second, .val (.int (p3 &&& (3 : Int32))), .val (.int sx), .val .null, .val .null, .val .null, .unset, .unset, .unset] [u10])
      refine own_go (fun t k => XS.astore X10.here hx rfl (hb hby at_66) rfl hu10 (l' := #[.val (.int p1), .val (.int p2), .val (.int p3), .val (.long q4), .second, .val (.long q5), .second, .val (.int (p3 &&& (3 : Int32))), .val (.int sx), .val u10, .val .null, .val .null, .unset, .unset, .unset]) (by rcases ref_cases hu10 with h | ⟨z, h⟩ <;> rw [h] <;> rfl) k) ?_
      show own_Go p e below _ T10 (mkF m 68 #[.val (.int p1), .val (.int p2), .val (.int p3), .val (.long q4), .second, .val (.long q5), .second, .val (.int (p3 &&& (3 : Int32))), .val (.int sx), .val u10, .val .null, .val .null, .unset, .unset, .unset] [])
      refine own_go (fun t k => XS.lloadN X10.here hx rfl (hb hby at_68) rfl k) ?_
      show own_Go p e below _ T10 (mkF m 69 #[.val (.int p1), .val (.int p2), .val (.int p3), .val (.long q4), .second, .val (.long q5), .second, .val (.int (p3 &&& (3 : Int32))), .val (.int sx), .val u10, .val .null, .val .null, .unset, .unset, .unset] [(.long q4)])
      refine own_go (fun t k => XS.lconst X10.here hx rfl (hb hby at_69) k) ?_
      show own_Go p e below _ T10 (mkF m 70 #[.val (.int p1), .val (.int p2), .val (.int p3), .val (.long q4), .second, .val (.long q5), .second, .val (.int (p3 &&& (3 : Int32))), .val (.int sx), .val u10, .val .null, .val .null, .unset, .unset, .unset] [(.long (1 : Int64)), (.long q4)])
      refine own_go (fun t k => XS.lxor X10.here hx rfl (hb hby at_70) rfl k) ?_
      show own_Go p e below _ T10 (mkF m 71 #[.val (.int p1), .val (.int p2), .val (.int p3), .val (.long q4), .second, .val (.long q5), .second, .val (.int (p3 &&& (3 : Int32))), .val (.int sx), .val u10, .val .null, .val .null, .unset, .unset, .unset] [(.long (q4 ^^^ (1 : Int64)))])
      obtain ⟨_, T11, L11, X11, ⟨⟨u11, rfl, hu11⟩, old11, N11⟩, st11⟩ := own_callS X10 hx hZ (y := (⟨"java/lang/Long", "valueOf", "(J)Ljava/lang/Long;"⟩ : MethodName)) (argsL := [(.long (q4 ^^^ (1 : Int64)))]) (rest := []) (Ls := #[.val (.int p1), .val (.int p2), .val (.int p3), .val (.long q4), .second, .val (.long q5), .second, .val (.int (p3 &&& (3 : Int32))), .val (.int sx), .val u10, .val .null, .val .null, .unset, .unset, .unset]) hown (own_w hw 31 rfl) (own_w hw 32 rfl) (own_w hw 33 rfl) (own_w hw 34 rfl) (by decide) rfl (rmL l Z a0 hw [] (q4 ^^^ (1 : Int64)) ac cc T10.heap n0 (own_oldge old10) old10 S_C A_C hs_C he_C) 0 (by decide) (by decide) (by decide) (by decide) (by rw [hml]; rfl) (lenOf pd_4 rfl) rfl (Nat.le_of_eq rfl) (hb hby at_71)
      have M11 := Fr.app M10 N11
      refine own_go st11 ?_
      show own_Go p e below _ T11 (mkF m 74 #[.val (.int p1), .val (.int p2), .val (.int p3), .val (.long q4), .second, .val (.long q5), .second, .val (.int (p3 &&& (3 : Int32))), .val (.int sx), .val u10, .val .null, .val .null, .unset, .unset, .unset] [u11])
      refine own_go (fun t k => XS.astore X11.here hx rfl (hb hby at_74) rfl hu11 (l' := #[.val (.int p1), .val (.int p2), .val (.int p3), .val (.long q4), .second, .val (.long q5), .second, .val (.int (p3 &&& (3 : Int32))), .val (.int sx), .val u10, .val u11, .val .null, .unset, .unset, .unset]) (by rcases ref_cases hu11 with h | ⟨z, h⟩ <;> rw [h] <;> rfl) k) ?_
      show own_Go p e below _ T11 (mkF m 76 #[.val (.int p1), .val (.int p2), .val (.int p3), .val (.long q4), .second, .val (.long q5), .second, .val (.int (p3 &&& (3 : Int32))), .val (.int sx), .val u10, .val u11, .val .null, .unset, .unset, .unset] [])
      refine own_go (fun t k => XS.lload X11.here hx rfl (hb hby at_76) rfl k) ?_
      show own_Go p e below _ T11 (mkF m 78 #[.val (.int p1), .val (.int p2), .val (.int p3), .val (.long q4), .second, .val (.long q5), .second, .val (.int (p3 &&& (3 : Int32))), .val (.int sx), .val u10, .val u11, .val .null, .unset, .unset, .unset] [(.long q5)])
      obtain ⟨_, T12, L12, X12, ⟨⟨u12, rfl, hu12⟩, old12, N12⟩, st12⟩ := own_callS X11 hx hZ (y := (⟨"java/lang/Long", "valueOf", "(J)Ljava/lang/Long;"⟩ : MethodName)) (argsL := [(.long q5)]) (rest := []) (Ls := #[.val (.int p1), .val (.int p2), .val (.int p3), .val (.long q4), .second, .val (.long q5), .second, .val (.int (p3 &&& (3 : Int32))), .val (.int sx), .val u10, .val u11, .val .null, .unset, .unset, .unset]) hown (own_w hw 31 rfl) (own_w hw 32 rfl) (own_w hw 33 rfl) (own_w hw 34 rfl) (by decide) rfl (rmL l Z a0 hw [] q5 ac cc T11.heap n0 (own_oldge old11) old11 S_C A_C hs_C he_C) 0 (by decide) (by decide) (by decide) (by decide) (by rw [hml]; rfl) (lenOf pd_4 rfl) rfl (Nat.le_of_eq rfl) (hb hby at_78)
      have M12 := Fr.app M11 N12
      refine own_go st12 ?_
      show own_Go p e below _ T12 (mkF m 81 #[.val (.int p1), .val (.int p2), .val (.int p3), .val (.long q4), .second, .val (.long q5), .second, .val (.int (p3 &&& (3 : Int32))), .val (.int sx), .val u10, .val u11, .val .null, .unset, .unset, .unset] [u12])
      refine own_go (fun t k => XS.astore X12.here hx rfl (hb hby at_81) rfl hu12 (l' := #[.val (.int p1), .val (.int p2), .val (.int p3), .val (.long q4), .second, .val (.long q5), .second, .val (.int (p3 &&& (3 : Int32))), .val (.int sx), .val u10, .val u11, .val u12, .unset, .unset, .unset]) (by rcases ref_cases hu12 with h | ⟨z, h⟩ <;> rw [h] <;> rfl) k) ?_
      show own_Go p e below _ T12 (mkF m 83 #[.val (.int p1), .val (.int p2), .val (.int p3), .val (.long q4), .second, .val (.long q5), .second, .val (.int (p3 &&& (3 : Int32))), .val (.int sx), .val u10, .val u11, .val u12, .unset, .unset, .unset] [])
      refine own_go (fun t k => XS.aconstNull X12.here hx rfl (hb hby at_83) k) ?_
      show own_Go p e below _ T12 (mkF m 84 #[.val (.int p1), .val (.int p2), .val (.int p3), .val (.long q4), .second, .val (.long q5), .second, .val (.int (p3 &&& (3 : Int32))), .val (.int sx), .val u10, .val u11, .val u12, .unset, .unset, .unset] [.null])
      refine own_go (fun t k => XS.astore X12.here hx rfl (hb hby at_84) rfl rfl (l' := #[.val (.int p1), .val (.int p2), .val (.int p3), .val (.long q4), .second, .val (.long q5), .second, .val (.int (p3 &&& (3 : Int32))), .val (.int sx), .val u10, .val u11, .val u12, .val .null, .unset, .unset]) rfl k) ?_
      show own_Go p e below _ T12 (mkF m 86 #[.val (.int p1), .val (.int p2), .val (.int p3), .val (.long q4), .second, .val (.long q5), .second, .val (.int (p3 &&& (3 : Int32))), .val (.int sx), .val u10, .val u11, .val u12, .val .null, .unset, .unset] [])
      refine own_go (fun t k => XS.iloadN X12.here hx rfl (hb hby at_86) rfl k) ?_
      show own_Go p e below _ T12 (mkF m 87 #[.val (.int p1), .val (.int p2), .val (.int p3), .val (.long q4), .second, .val (.long q5), .second, .val (.int (p3 &&& (3 : Int32))), .val (.int sx), .val u10, .val u11, .val u12, .val .null, .unset, .unset] [(.int p3)])
      refine own_go (fun t k => XS.bipush X12.here hx rfl (hb hby at_87) k) ?_
      show own_Go p e below _ T12 (mkF m 89 #[.val (.int p1), .val (.int p2), .val (.int p3), .val (.long q4), .second, .val (.long q5), .second, .val (.int (p3 &&& (3 : Int32))), .val (.int sx), .val u10, .val u11, .val u12, .val .null, .unset, .unset] [(.int (8 : Int32)), (.int p3)])
      refine own_go (fun t k => XS.iand X12.here hx rfl (hb hby at_89) rfl k) ?_
      show own_Go p e below _ T12 (mkF m 90 #[.val (.int p1), .val (.int p2), .val (.int p3), .val (.long q4), .second, .val (.long q5), .second, .val (.int (p3 &&& (3 : Int32))), .val (.int sx), .val u10, .val u11, .val u12, .val .null, .unset, .unset] [(.int (p3 &&& (8 : Int32)))])
      by_cases hc90 : (p3 &&& (8 : Int32)) = 0
      · show own_Go p e below _ T12 (mkF m 90 #[.val (.int p1), .val (.int p2), .val (.int p3), .val (.long q4), .second, .val (.long q5), .second, .val (.int (p3 &&& (3 : Int32))), .val (.int sx), .val u10, .val u11, .val u12, .val .null, .unset, .unset] [(.int (p3 &&& (8 : Int32)))])
        refine own_go (fun t k => XS.ifYes X12.here hx rfl (pc0 := 90) (pc' := 100) rfl (hb hby at_90) rfl (XT.i0_eq_t hc90) (by decide) (by decide) k) ?_
        show own_Go p e below _ T12 (mkF m 100 #[.val (.int p1), .val (.int p2), .val (.int p3), .val (.long q4), .second, .val (.long q5), .second, .val (.int (p3 &&& (3 : Int32))), .val (.int sx), .val u10, .val u11, .val u12, .val .null, .unset, .unset] [])
        obtain ⟨T13, h13, b13, X13, e13, E13, g13, A13, D13, st13⟩ := own_newO X12 hx hZ hown (own_w hw 0 rfl) (own_w hw 1 rfl) (own_w hw 2 rfl) rfl (Ls := #[.val (.int p1), .val (.int p2), .val (.int p3), .val (.long q4), .second, .val (.long q5), .second, .val (.int (p3 &&& (3 : Int32))), .val (.int sx), .val u10, .val u11, .val u12, .val .null, .unset, .unset]) (st := []) (hb hby at_100) (by decide) (by decide)
        have ge_b13 : n0 ≤ b13 := g13 ▸ own_oldge old12
        have old13 := old12.ext E13
        have F13_runs : Fld Z h13 b13 "com/example/lease/lease/service/BenchFigures" "runs" "I" (.int (0 : Int32)) := D13 (Or.inr (own_w hw 15 rfl)) (ty := .int) (by decide)
        have F13_succeeded : Fld Z h13 b13 "com/example/lease/lease/service/BenchFigures" "succeeded" "I" (.int (0 : Int32)) := D13 (Or.inr (own_w hw 17 rfl)) (ty := .int) (by decide)
        have F13_latenessP50 : Fld Z h13 b13 "com/example/lease/lease/service/BenchFigures" "latenessP50" "Ljava/lang/Long;" .null := D13 (Or.inr (own_w hw 19 rfl)) (ty := (.object "java/lang/Long")) (by decide)
        have F13_latenessP99 : Fld Z h13 b13 "com/example/lease/lease/service/BenchFigures" "latenessP99" "Ljava/lang/Long;" .null := D13 (Or.inr (own_w hw 21 rfl)) (ty := (.object "java/lang/Long")) (by decide)
        have F13_latenessMax : Fld Z h13 b13 "com/example/lease/lease/service/BenchFigures" "latenessMax" "Ljava/lang/Long;" .null := D13 (Or.inr (own_w hw 23 rfl)) (ty := (.object "java/lang/Long")) (by decide)
        have F13_executionsPerSecond : Fld Z h13 b13 "com/example/lease/lease/service/BenchFigures" "executionsPerSecond" "Ljava/lang/Long;" .null := D13 (Or.inr (own_w hw 25 rfl)) (ty := (.object "java/lang/Long")) (by decide)
        refine own_go st13 ?_
        show own_Go p e below _ T13 (mkF m 103 #[.val (.int p1), .val (.int p2), .val (.int p3), .val (.long q4), .second, .val (.long q5), .second, .val (.int (p3 &&& (3 : Int32))), .val (.int sx), .val u10, .val u11, .val u12, .val .null, .unset, .unset] [(.ref b13)])
        refine own_go (fun t k => XS.dup X13.here hx rfl (hb hby at_103) rfl rfl k) ?_
        show own_Go p e below _ T13 (mkF m 104 #[.val (.int p1), .val (.int p2), .val (.int p3), .val (.long q4), .second, .val (.long q5), .second, .val (.int (p3 &&& (3 : Int32))), .val (.int sx), .val u10, .val u11, .val u12, .val .null, .unset, .unset] [(.ref b13), (.ref b13)])
        refine own_go (fun t k => XS.iloadN X13.here hx rfl (hb hby at_104) rfl k) ?_
        show own_Go p e below _ T13 (mkF m 105 #[.val (.int p1), .val (.int p2), .val (.int p3), .val (.long q4), .second, .val (.long q5), .second, .val (.int (p3 &&& (3 : Int32))), .val (.int sx), .val u10, .val u11, .val u12, .val .null, .unset, .unset] [(.int p1), (.ref b13), (.ref b13)])
        refine own_go (fun t k => XS.iload X13.here hx rfl (hb hby at_105) rfl k) ?_
        show own_Go p e below _ T13 (mkF m 107 #[.val (.int p1), .val (.int p2), .val (.int p3), .val (.long q4), .second, .val (.long q5), .second, .val (.int (p3 &&& (3 : Int32))), .val (.int sx), .val u10, .val u11, .val u12, .val .null, .unset, .unset] [(.int sx), (.int p1), (.ref b13), (.ref b13)])
        refine own_go (fun t k => XS.aload X13.here hx rfl (hb hby at_107) rfl hu10 k) ?_
        show own_Go p e below _ T13 (mkF m 109 #[.val (.int p1), .val (.int p2), .val (.int p3), .val (.long q4), .second, .val (.long q5), .second, .val (.int (p3 &&& (3 : Int32))), .val (.int sx), .val u10, .val u11, .val u12, .val .null, .unset, .unset] [u10, (.int sx), (.int p1), (.ref b13), (.ref b13)])
        refine own_go (fun t k => XS.aload X13.here hx rfl (hb hby at_109) rfl hu11 k) ?_
        show own_Go p e below _ T13 (mkF m 111 #[.val (.int p1), .val (.int p2), .val (.int p3), .val (.long q4), .second, .val (.long q5), .second, .val (.int (p3 &&& (3 : Int32))), .val (.int sx), .val u10, .val u11, .val u12, .val .null, .unset, .unset] [u11, u10, (.int sx), (.int p1), (.ref b13), (.ref b13)])
        refine own_go (fun t k => XS.aload X13.here hx rfl (hb hby at_111) rfl hu12 k) ?_
        show own_Go p e below _ T13 (mkF m 113 #[.val (.int p1), .val (.int p2), .val (.int p3), .val (.long q4), .second, .val (.long q5), .second, .val (.int (p3 &&& (3 : Int32))), .val (.int sx), .val u10, .val u11, .val u12, .val .null, .unset, .unset] [u12, u11, u10, (.int sx), (.int p1), (.ref b13), (.ref b13)])
        refine own_go (fun t k => XS.aload X13.here hx rfl (hb hby at_113) rfl rfl k) ?_
        show own_Go p e below _ T13 (mkF m 115 #[.val (.int p1), .val (.int p2), .val (.int p3), .val (.long q4), .second, .val (.long q5), .second, .val (.int (p3 &&& (3 : Int32))), .val (.int sx), .val u10, .val u11, .val u12, .val .null, .unset, .unset] [.null, u12, u11, u10, (.int sx), (.int p1), (.ref b13), (.ref b13)])
        obtain ⟨_, T14, L14, X14, ⟨rfl, N14, K14, FR14, FS14⟩, st14⟩ := own_callC X13 hx hZ (y := (⟨"com/example/lease/lease/service/BenchFigures", "<init>", "(IILjava/lang/Long;Ljava/lang/Long;Ljava/lang/Long;Ljava/lang/Long;)V"⟩ : MethodName)) (b := b13) (argsL := [(.int p1), (.int sx), u10, u11, u12, .null]) (rest := [(.ref b13)]) (Ls := #[.val (.int p1), .val (.int p2), .val (.int p3), .val (.long q4), .second, .val (.long q5), .second, .val (.int (p3 &&& (3 : Int32))), .val (.int sx), .val u10, .val u11, .val u12, .val .null, .unset, .unset]) rfl hown (own_w hw 3 rfl) (own_w hw 4 rfl) (own_w hw 5 rfl) (own_w hw 2 rfl) (by decide) e13 (rmBF l Z a0 hw [] b13 p1 sx u10 u11 u12 .null hu10 hu11 hu12 rfl h13 n0 (own_oldge old13) A13 F13_runs F13_succeeded F13_latenessP50 F13_latenessP99 F13_latenessMax F13_executionsPerSecond ge_b13) 1 (by decide) (by decide) (by decide) (by decide) (by rw [hml]; rfl) (lenOf pd_3 rfl) rfl (Nat.le_of_eq rfl) (hb hby at_115)
        have M14 := Fr.app M12 N14
        have old14 := old13.keep K14 (allS ge_b13 all0)
        refine own_go st14 ?_
        show own_Go p e below _ T14 (mkF m 118 #[.val (.int p1), .val (.int p2), .val (.int p3), .val (.long q4), .second, .val (.long q5), .second, .val (.int (p3 &&& (3 : Int32))), .val (.int sx), .val u10, .val u11, .val u12, .val .null, .unset, .unset] [(.ref b13)])
        refine own_go (fun t k => XS.astore X14.here hx rfl (hb hby at_118) rfl rfl (l' := #[.val (.int p1), .val (.int p2), .val (.int p3), .val (.long q4), .second, .val (.long q5), .second, .val (.int (p3 &&& (3 : Int32))), .val (.int sx), .val u10, .val u11, .val u12, .val .null, .val (.ref b13), .unset]) rfl k) ?_
        show own_Go p e below _ T14 (mkF m 120 #[.val (.int p1), .val (.int p2), .val (.int p3), .val (.long q4), .second, .val (.long q5), .second, .val (.int (p3 &&& (3 : Int32))), .val (.int sx), .val u10, .val u11, .val u12, .val .null, .val (.ref b13), .unset] [])
        refine own_go (fun t k => XS.iloadN X14.here hx rfl (hb hby at_120) rfl k) ?_
        show own_Go p e below _ T14 (mkF m 121 #[.val (.int p1), .val (.int p2), .val (.int p3), .val (.long q4), .second, .val (.long q5), .second, .val (.int (p3 &&& (3 : Int32))), .val (.int sx), .val u10, .val u11, .val u12, .val .null, .val (.ref b13), .unset] [(.int p1)])
        refine own_go (fun t k => XS.i2l X14.here hx rfl (hb hby at_121) rfl k) ?_
        show own_Go p e below _ T14 (mkF m 122 #[.val (.int p1), .val (.int p2), .val (.int p3), .val (.long q4), .second, .val (.long q5), .second, .val (.int (p3 &&& (3 : Int32))), .val (.int sx), .val u10, .val u11, .val u12, .val .null, .val (.ref b13), .unset] [(.long p1.toInt64)])
        refine own_go (fun t k => XS.iload X14.here hx rfl (hb hby at_122) rfl k) ?_
        show own_Go p e below _ T14 (mkF m 124 #[.val (.int p1), .val (.int p2), .val (.int p3), .val (.long q4), .second, .val (.long q5), .second, .val (.int (p3 &&& (3 : Int32))), .val (.int sx), .val u10, .val u11, .val u12, .val .null, .val (.ref b13), .unset] [(.int sx), (.long p1.toInt64)])
        refine own_go (fun t k => XS.i2l X14.here hx rfl (hb hby at_124) rfl k) ?_
        show own_Go p e below _ T14 (mkF m 125 #[.val (.int p1), .val (.int p2), .val (.int p3), .val (.long q4), .second, .val (.long q5), .second, .val (.int (p3 &&& (3 : Int32))), .val (.int sx), .val u10, .val u11, .val u12, .val .null, .val (.ref b13), .unset] [(.long sx.toInt64), (.long p1.toInt64)])
        refine own_go (fun t k => XS.lsub X14.here hx rfl (hb hby at_125) rfl k) ?_
        show own_Go p e below _ T14 (mkF m 126 #[.val (.int p1), .val (.int p2), .val (.int p3), .val (.long q4), .second, .val (.long q5), .second, .val (.int (p3 &&& (3 : Int32))), .val (.int sx), .val u10, .val u11, .val u12, .val .null, .val (.ref b13), .unset] [(.long (p1.toInt64 - sx.toInt64))])
        refine own_go (fun t k => XS.lconst X14.here hx rfl (hb hby at_126) k) ?_
        show own_Go p e below _ T14 (mkF m 127 #[.val (.int p1), .val (.int p2), .val (.int p3), .val (.long q4), .second, .val (.long q5), .second, .val (.int (p3 &&& (3 : Int32))), .val (.int sx), .val u10, .val u11, .val u12, .val .null, .val (.ref b13), .unset] [(.long (0 : Int64)), (.long (p1.toInt64 - sx.toInt64))])
        refine own_go (fun t k => XT.lcmp X14.here hx rfl (hb hby at_127) rfl k) ?_
        show own_Go p e below _ T14 (mkF m 128 #[.val (.int p1), .val (.int p2), .val (.int p3), .val (.long q4), .second, .val (.long q5), .second, .val (.int (p3 &&& (3 : Int32))), .val (.int sx), .val u10, .val u11, .val u12, .val .null, .val (.ref b13), .unset] [(.int (XT.cmpL (p1.toInt64 - sx.toInt64) (0 : Int64)))])
        by_cases hc128 : (p1.toInt64 - sx.toInt64) = (0 : Int64)
        · show own_Go p e below _ T14 (mkF m 128 #[.val (.int p1), .val (.int p2), .val (.int p3), .val (.long q4), .second, .val (.long q5), .second, .val (.int (p3 &&& (3 : Int32))), .val (.int sx), .val u10, .val u11, .val u12, .val .null, .val (.ref b13), .unset] [(.int (XT.cmpL (p1.toInt64 - sx.toInt64) (0 : Int64)))])
          refine own_go (fun t k => XS.ifNo X14.here hx rfl (hb hby at_128) rfl (XT.ll_ne_f hc128) k) ?_
          show own_Go p e below _ T14 (mkF m 131 #[.val (.int p1), .val (.int p2), .val (.int p3), .val (.long q4), .second, .val (.long q5), .second, .val (.int (p3 &&& (3 : Int32))), .val (.int sx), .val u10, .val u11, .val u12, .val .null, .val (.ref b13), .unset] [])
          refine own_go (fun t k => XS.iconst X14.here hx rfl (hb hby at_131) k) ?_
          show own_Go p e below _ T14 (mkF m 132 #[.val (.int p1), .val (.int p2), .val (.int p3), .val (.long q4), .second, .val (.long q5), .second, .val (.int (p3 &&& (3 : Int32))), .val (.int sx), .val u10, .val u11, .val u12, .val .null, .val (.ref b13), .unset] [(.int (1 : Int32))])
          refine own_go (fun t k => XS.goto X14.here hx rfl (pc0 := 132) (pc' := 136) rfl (hb hby at_132) (by decide) (by decide) k) ?_
          show own_Go p e below _ T14 (mkF m 136 #[.val (.int p1), .val (.int p2), .val (.int p3), .val (.long q4), .second, .val (.long q5), .second, .val (.int (p3 &&& (3 : Int32))), .val (.int sx), .val u10, .val u11, .val u12, .val .null, .val (.ref b13), .unset] [(.int (1 : Int32))])
          refine own_go (fun t k => XS.istore X14.here hx rfl (hb hby at_136) rfl (l' := #[.val (.int p1), .val (.int p2), .val (.int p3), .val (.long q4), .second, .val (.long q5), .second, .val (.int (p3 &&& (3 : Int32))), .val (.int sx), .val u10, .val u11, .val u12, .val .null, .val (.ref b13), .val (.int (1 : Int32))]) rfl k) ?_
          show own_Go p e below _ T14 (mkF m 138 #[.val (.int p1), .val (.int p2), .val (.int p3), .val (.long q4), .second, .val (.long q5), .second, .val (.int (p3 &&& (3 : Int32))), .val (.int sx), .val u10, .val u11, .val u12, .val .null, .val (.ref b13), .val (.int (1 : Int32))] [])
          refine own_go (fun t k => XS.aload X14.here hx rfl (hb hby at_138) rfl rfl k) ?_
          show own_Go p e below _ T14 (mkF m 140 #[.val (.int p1), .val (.int p2), .val (.int p3), .val (.long q4), .second, .val (.long q5), .second, .val (.int (p3 &&& (3 : Int32))), .val (.int sx), .val u10, .val u11, .val u12, .val .null, .val (.ref b13), .val (.int (1 : Int32))] [(.ref b13)])
          obtain ⟨_, T15, L15, X15, ⟨rfl, N15, e15⟩, st15⟩ := own_callV X14 hx hZ (y := (⟨"com/example/lease/lease/service/BenchFigures", "allSucceeded", "()Z"⟩ : MethodName)) (z := (⟨"com/example/lease/lease/service/BenchFigures", "allSucceeded", "()Z"⟩ : MethodName)) (b := b13) (argsL := []) (rest := []) (Ls := #[.val (.int p1), .val (.int p2), .val (.int p3), .val (.long q4), .second, .val (.long q5), .second, .val (.int (p3 &&& (3 : Int32))), .val (.int sx), .val u10, .val u11, .val u12, .val .null, .val (.ref b13), .val (.int (1 : Int32))]) hown (own_w hw 26 rfl) (own_w hw 27 rfl) (own_w hw 29 rfl) (notFace_of_selects (args := #[]) (mvT hZ (own_w hw 29 rfl))) (own_w hw 28 rfl) (own_w hw 30 rfl) (own_w hw 2 rfl) (by decide) rfl (A13.keep K14) (rmA l Z a0 hw [] b13 p1 sx T14.heap n0 (own_oldge old14) FR14 FS14) 0 (by decide) (by decide) (by decide) (by decide) (by rw [hml]; rfl) (lenOf pd_1 rfl) rfl (Nat.le_of_eq rfl) (hb hby at_140)
          have M15 := Fr.app M14 N15
          refine own_go st15 ?_
          show own_Go p e below _ T15 (mkF m 143 #[.val (.int p1), .val (.int p2), .val (.int p3), .val (.long q4), .second, .val (.long q5), .second, .val (.int (p3 &&& (3 : Int32))), .val (.int sx), .val u10, .val u11, .val u12, .val .null, .val (.ref b13), .val (.int (1 : Int32))] [(.int (if sx = p1 then 1 else 0))])
          refine own_go (fun t k => XS.iload X15.here hx rfl (hb hby at_143) rfl k) ?_
          show own_Go p e below _ T15 (mkF m 145 #[.val (.int p1), .val (.int p2), .val (.int p3), .val (.long q4), .second, .val (.long q5), .second, .val (.int (p3 &&& (3 : Int32))), .val (.int sx), .val u10, .val u11, .val u12, .val .null, .val (.ref b13), .val (.int (1 : Int32))] [(.int (1 : Int32)), (.int (if sx = p1 then 1 else 0))])
          refine own_go (fun t k => XS.icmpNo X15.here hx rfl (hb hby at_145) rfl (XT.ii_ne_f (if_pos (own_sub0.mp hc128))) k) ?_
          show own_Go p e below _ T15 (mkF m 148 #[.val (.int p1), .val (.int p2), .val (.int p3), .val (.long q4), .second, .val (.long q5), .second, .val (.int (p3 &&& (3 : Int32))), .val (.int sx), .val u10, .val u11, .val u12, .val .null, .val (.ref b13), .val (.int (1 : Int32))] [])
          refine own_go (fun t k => XS.iconst X15.here hx rfl (hb hby at_148) k) ?_
          show own_Go p e below _ T15 (mkF m 149 #[.val (.int p1), .val (.int p2), .val (.int p3), .val (.long q4), .second, .val (.long q5), .second, .val (.int (p3 &&& (3 : Int32))), .val (.int sx), .val u10, .val u11, .val u12, .val .null, .val (.ref b13), .val (.int (1 : Int32))] [(.int (1 : Int32))])
          refine own_go (fun t k => XS.goto X15.here hx rfl (pc0 := 149) (pc' := 153) rfl (hb hby at_149) (by decide) (by decide) k) ?_
          show own_Go p e below _ T15 (mkF m 153 #[.val (.int p1), .val (.int p2), .val (.int p3), .val (.long q4), .second, .val (.long q5), .second, .val (.int (p3 &&& (3 : Int32))), .val (.int sx), .val u10, .val u11, .val u12, .val .null, .val (.ref b13), .val (.int (1 : Int32))] [(.int (1 : Int32))])
          refine own_retZ X15 hx hlk hret (hb hby at_153) (Or.inr rfl) (by decide) (by decide) ?_
          exact ⟨rfl, M15⟩
        · show own_Go p e below _ T14 (mkF m 128 #[.val (.int p1), .val (.int p2), .val (.int p3), .val (.long q4), .second, .val (.long q5), .second, .val (.int (p3 &&& (3 : Int32))), .val (.int sx), .val u10, .val u11, .val u12, .val .null, .val (.ref b13), .unset] [(.int (XT.cmpL (p1.toInt64 - sx.toInt64) (0 : Int64)))])
          refine own_go (fun t k => XS.ifYes X14.here hx rfl (pc0 := 128) (pc' := 135) rfl (hb hby at_128) rfl (XT.ll_ne_t hc128) (by decide) (by decide) k) ?_
          show own_Go p e below _ T14 (mkF m 135 #[.val (.int p1), .val (.int p2), .val (.int p3), .val (.long q4), .second, .val (.long q5), .second, .val (.int (p3 &&& (3 : Int32))), .val (.int sx), .val u10, .val u11, .val u12, .val .null, .val (.ref b13), .unset] [])
          refine own_go (fun t k => XS.iconst X14.here hx rfl (hb hby at_135) k) ?_
          show own_Go p e below _ T14 (mkF m 136 #[.val (.int p1), .val (.int p2), .val (.int p3), .val (.long q4), .second, .val (.long q5), .second, .val (.int (p3 &&& (3 : Int32))), .val (.int sx), .val u10, .val u11, .val u12, .val .null, .val (.ref b13), .unset] [(.int (0 : Int32))])
          refine own_go (fun t k => XS.istore X14.here hx rfl (hb hby at_136) rfl (l' := #[.val (.int p1), .val (.int p2), .val (.int p3), .val (.long q4), .second, .val (.long q5), .second, .val (.int (p3 &&& (3 : Int32))), .val (.int sx), .val u10, .val u11, .val u12, .val .null, .val (.ref b13), .val (.int (0 : Int32))]) rfl k) ?_
          show own_Go p e below _ T14 (mkF m 138 #[.val (.int p1), .val (.int p2), .val (.int p3), .val (.long q4), .second, .val (.long q5), .second, .val (.int (p3 &&& (3 : Int32))), .val (.int sx), .val u10, .val u11, .val u12, .val .null, .val (.ref b13), .val (.int (0 : Int32))] [])
          refine own_go (fun t k => XS.aload X14.here hx rfl (hb hby at_138) rfl rfl k) ?_
          show own_Go p e below _ T14 (mkF m 140 #[.val (.int p1), .val (.int p2), .val (.int p3), .val (.long q4), .second, .val (.long q5), .second, .val (.int (p3 &&& (3 : Int32))), .val (.int sx), .val u10, .val u11, .val u12, .val .null, .val (.ref b13), .val (.int (0 : Int32))] [(.ref b13)])
          obtain ⟨_, T16, L16, X16, ⟨rfl, N16, e16⟩, st16⟩ := own_callV X14 hx hZ (y := (⟨"com/example/lease/lease/service/BenchFigures", "allSucceeded", "()Z"⟩ : MethodName)) (z := (⟨"com/example/lease/lease/service/BenchFigures", "allSucceeded", "()Z"⟩ : MethodName)) (b := b13) (argsL := []) (rest := []) (Ls := #[.val (.int p1), .val (.int p2), .val (.int p3), .val (.long q4), .second, .val (.long q5), .second, .val (.int (p3 &&& (3 : Int32))), .val (.int sx), .val u10, .val u11, .val u12, .val .null, .val (.ref b13), .val (.int (0 : Int32))]) hown (own_w hw 26 rfl) (own_w hw 27 rfl) (own_w hw 29 rfl) (notFace_of_selects (args := #[]) (mvT hZ (own_w hw 29 rfl))) (own_w hw 28 rfl) (own_w hw 30 rfl) (own_w hw 2 rfl) (by decide) rfl (A13.keep K14) (rmA l Z a0 hw [] b13 p1 sx T14.heap n0 (own_oldge old14) FR14 FS14) 0 (by decide) (by decide) (by decide) (by decide) (by rw [hml]; rfl) (lenOf pd_1 rfl) rfl (Nat.le_of_eq rfl) (hb hby at_140)
          have M16 := Fr.app M14 N16
          refine own_go st16 ?_
          show own_Go p e below _ T16 (mkF m 143 #[.val (.int p1), .val (.int p2), .val (.int p3), .val (.long q4), .second, .val (.long q5), .second, .val (.int (p3 &&& (3 : Int32))), .val (.int sx), .val u10, .val u11, .val u12, .val .null, .val (.ref b13), .val (.int (0 : Int32))] [(.int (if sx = p1 then 1 else 0))])
          refine own_go (fun t k => XS.iload X16.here hx rfl (hb hby at_143) rfl k) ?_
          show own_Go p e below _ T16 (mkF m 145 #[.val (.int p1), .val (.int p2), .val (.int p3), .val (.long q4), .second, .val (.long q5), .second, .val (.int (p3 &&& (3 : Int32))), .val (.int sx), .val u10, .val u11, .val u12, .val .null, .val (.ref b13), .val (.int (0 : Int32))] [(.int (0 : Int32)), (.int (if sx = p1 then 1 else 0))])
          refine own_go (fun t k => XS.icmpNo X16.here hx rfl (hb hby at_145) rfl (XT.ii_ne_f (if_neg (fun q => hc128 (own_sub0.mpr q)))) k) ?_
          show own_Go p e below _ T16 (mkF m 148 #[.val (.int p1), .val (.int p2), .val (.int p3), .val (.long q4), .second, .val (.long q5), .second, .val (.int (p3 &&& (3 : Int32))), .val (.int sx), .val u10, .val u11, .val u12, .val .null, .val (.ref b13), .val (.int (0 : Int32))] [])
          refine own_go (fun t k => XS.iconst X16.here hx rfl (hb hby at_148) k) ?_
          show own_Go p e below _ T16 (mkF m 149 #[.val (.int p1), .val (.int p2), .val (.int p3), .val (.long q4), .second, .val (.long q5), .second, .val (.int (p3 &&& (3 : Int32))), .val (.int sx), .val u10, .val u11, .val u12, .val .null, .val (.ref b13), .val (.int (0 : Int32))] [(.int (1 : Int32))])
          refine own_go (fun t k => XS.goto X16.here hx rfl (pc0 := 149) (pc' := 153) rfl (hb hby at_149) (by decide) (by decide) k) ?_
          show own_Go p e below _ T16 (mkF m 153 #[.val (.int p1), .val (.int p2), .val (.int p3), .val (.long q4), .second, .val (.long q5), .second, .val (.int (p3 &&& (3 : Int32))), .val (.int sx), .val u10, .val u11, .val u12, .val .null, .val (.ref b13), .val (.int (0 : Int32))] [(.int (1 : Int32))])
          refine own_retZ X16 hx hlk hret (hb hby at_153) (Or.inr rfl) (by decide) (by decide) ?_
          exact ⟨rfl, M16⟩
      · show own_Go p e below _ T12 (mkF m 90 #[.val (.int p1), .val (.int p2), .val (.int p3), .val (.long q4), .second, .val (.long q5), .second, .val (.int (p3 &&& (3 : Int32))), .val (.int sx), .val u10, .val u11, .val u12, .val .null, .unset, .unset] [(.int (p3 &&& (8 : Int32)))])
        refine own_go (fun t k => XS.ifNo X12.here hx rfl (hb hby at_90) rfl (XT.i0_eq_f hc90) k) ?_
        show own_Go p e below _ T12 (mkF m 93 #[.val (.int p1), .val (.int p2), .val (.int p3), .val (.long q4), .second, .val (.long q5), .second, .val (.int (p3 &&& (3 : Int32))), .val (.int sx), .val u10, .val u11, .val u12, .val .null, .unset, .unset] [])
        refine own_go (fun t k => XS.lload X12.here hx rfl (hb hby at_93) rfl k) ?_
        show own_Go p e below _ T12 (mkF m 95 #[.val (.int p1), .val (.int p2), .val (.int p3), .val (.long q4), .second, .val (.long q5), .second, .val (.int (p3 &&& (3 : Int32))), .val (.int sx), .val u10, .val u11, .val u12, .val .null, .unset, .unset] [(.long q5)])
        obtain ⟨_, T17, L17, X17, ⟨⟨u17, rfl, hu17⟩, old17, N17⟩, st17⟩ := own_callS X12 hx hZ (y := (⟨"java/lang/Long", "valueOf", "(J)Ljava/lang/Long;"⟩ : MethodName)) (argsL := [(.long q5)]) (rest := []) (Ls := #[.val (.int p1), .val (.int p2), .val (.int p3), .val (.long q4), .second, .val (.long q5), .second, .val (.int (p3 &&& (3 : Int32))), .val (.int sx), .val u10, .val u11, .val u12, .val .null, .unset, .unset]) hown (own_w hw 31 rfl) (own_w hw 32 rfl) (own_w hw 33 rfl) (own_w hw 34 rfl) (by decide) rfl (rmL l Z a0 hw [] q5 ac cc T12.heap n0 (own_oldge old12) old12 S_C A_C hs_C he_C) 0 (by decide) (by decide) (by decide) (by decide) (by rw [hml]; rfl) (lenOf pd_4 rfl) rfl (Nat.le_of_eq rfl) (hb hby at_95)
        have M17 := Fr.app M12 N17
        refine own_go st17 ?_
        show own_Go p e below _ T17 (mkF m 98 #[.val (.int p1), .val (.int p2), .val (.int p3), .val (.long q4), .second, .val (.long q5), .second, .val (.int (p3 &&& (3 : Int32))), .val (.int sx), .val u10, .val u11, .val u12, .val .null, .unset, .unset] [u17])
        refine own_go (fun t k => XS.astore X17.here hx rfl (hb hby at_98) rfl hu17 (l' := #[.val (.int p1), .val (.int p2), .val (.int p3), .val (.long q4), .second, .val (.long q5), .second, .val (.int (p3 &&& (3 : Int32))), .val (.int sx), .val u10, .val u11, .val u12, .val u17, .unset, .unset]) (by rcases ref_cases hu17 with h | ⟨z, h⟩ <;> rw [h] <;> rfl) k) ?_
        show own_Go p e below _ T17 (mkF m 100 #[.val (.int p1), .val (.int p2), .val (.int p3), .val (.long q4), .second, .val (.long q5), .second, .val (.int (p3 &&& (3 : Int32))), .val (.int sx), .val u10, .val u11, .val u12, .val u17, .unset, .unset] [])
        obtain ⟨T18, h18, b18, X18, e18, E18, g18, A18, D18, st18⟩ := own_newO X17 hx hZ hown (own_w hw 0 rfl) (own_w hw 1 rfl) (own_w hw 2 rfl) rfl (Ls := #[.val (.int p1), .val (.int p2), .val (.int p3), .val (.long q4), .second, .val (.long q5), .second, .val (.int (p3 &&& (3 : Int32))), .val (.int sx), .val u10, .val u11, .val u12, .val u17, .unset, .unset]) (st := []) (hb hby at_100) (by decide) (by decide)
        have ge_b18 : n0 ≤ b18 := g18 ▸ own_oldge old17
        have old18 := old17.ext E18
        have F18_runs : Fld Z h18 b18 "com/example/lease/lease/service/BenchFigures" "runs" "I" (.int (0 : Int32)) := D18 (Or.inr (own_w hw 15 rfl)) (ty := .int) (by decide)
        have F18_succeeded : Fld Z h18 b18 "com/example/lease/lease/service/BenchFigures" "succeeded" "I" (.int (0 : Int32)) := D18 (Or.inr (own_w hw 17 rfl)) (ty := .int) (by decide)
        have F18_latenessP50 : Fld Z h18 b18 "com/example/lease/lease/service/BenchFigures" "latenessP50" "Ljava/lang/Long;" .null := D18 (Or.inr (own_w hw 19 rfl)) (ty := (.object "java/lang/Long")) (by decide)
        have F18_latenessP99 : Fld Z h18 b18 "com/example/lease/lease/service/BenchFigures" "latenessP99" "Ljava/lang/Long;" .null := D18 (Or.inr (own_w hw 21 rfl)) (ty := (.object "java/lang/Long")) (by decide)
        have F18_latenessMax : Fld Z h18 b18 "com/example/lease/lease/service/BenchFigures" "latenessMax" "Ljava/lang/Long;" .null := D18 (Or.inr (own_w hw 23 rfl)) (ty := (.object "java/lang/Long")) (by decide)
        have F18_executionsPerSecond : Fld Z h18 b18 "com/example/lease/lease/service/BenchFigures" "executionsPerSecond" "Ljava/lang/Long;" .null := D18 (Or.inr (own_w hw 25 rfl)) (ty := (.object "java/lang/Long")) (by decide)
        refine own_go st18 ?_
        show own_Go p e below _ T18 (mkF m 103 #[.val (.int p1), .val (.int p2), .val (.int p3), .val (.long q4), .second, .val (.long q5), .second, .val (.int (p3 &&& (3 : Int32))), .val (.int sx), .val u10, .val u11, .val u12, .val u17, .unset, .unset] [(.ref b18)])
        refine own_go (fun t k => XS.dup X18.here hx rfl (hb hby at_103) rfl rfl k) ?_
        show own_Go p e below _ T18 (mkF m 104 #[.val (.int p1), .val (.int p2), .val (.int p3), .val (.long q4), .second, .val (.long q5), .second, .val (.int (p3 &&& (3 : Int32))), .val (.int sx), .val u10, .val u11, .val u12, .val u17, .unset, .unset] [(.ref b18), (.ref b18)])
        refine own_go (fun t k => XS.iloadN X18.here hx rfl (hb hby at_104) rfl k) ?_
        show own_Go p e below _ T18 (mkF m 105 #[.val (.int p1), .val (.int p2), .val (.int p3), .val (.long q4), .second, .val (.long q5), .second, .val (.int (p3 &&& (3 : Int32))), .val (.int sx), .val u10, .val u11, .val u12, .val u17, .unset, .unset] [(.int p1), (.ref b18), (.ref b18)])
        refine own_go (fun t k => XS.iload X18.here hx rfl (hb hby at_105) rfl k) ?_
        show own_Go p e below _ T18 (mkF m 107 #[.val (.int p1), .val (.int p2), .val (.int p3), .val (.long q4), .second, .val (.long q5), .second, .val (.int (p3 &&& (3 : Int32))), .val (.int sx), .val u10, .val u11, .val u12, .val u17, .unset, .unset] [(.int sx), (.int p1), (.ref b18), (.ref b18)])
        refine own_go (fun t k => XS.aload X18.here hx rfl (hb hby at_107) rfl hu10 k) ?_
        show own_Go p e below _ T18 (mkF m 109 #[.val (.int p1), .val (.int p2), .val (.int p3), .val (.long q4), .second, .val (.long q5), .second, .val (.int (p3 &&& (3 : Int32))), .val (.int sx), .val u10, .val u11, .val u12, .val u17, .unset, .unset] [u10, (.int sx), (.int p1), (.ref b18), (.ref b18)])
        refine own_go (fun t k => XS.aload X18.here hx rfl (hb hby at_109) rfl hu11 k) ?_
        show own_Go p e below _ T18 (mkF m 111 #[.val (.int p1), .val (.int p2), .val (.int p3), .val (.long q4), .second, .val (.long q5), .second, .val (.int (p3 &&& (3 : Int32))), .val (.int sx), .val u10, .val u11, .val u12, .val u17, .unset, .unset] [u11, u10, (.int sx), (.int p1), (.ref b18), (.ref b18)])
        refine own_go (fun t k => XS.aload X18.here hx rfl (hb hby at_111) rfl hu12 k) ?_
        show own_Go p e below _ T18 (mkF m 113 #[.val (.int p1), .val (.int p2), .val (.int p3), .val (.long q4), .second, .val (.long q5), .second, .val (.int (p3 &&& (3 : Int32))), .val (.int sx), .val u10, .val u11, .val u12, .val u17, .unset, .unset] [u12, u11, u10, (.int sx), (.int p1), (.ref b18), (.ref b18)])
        refine own_go (fun t k => XS.aload X18.here hx rfl (hb hby at_113) rfl hu17 k) ?_
        show own_Go p e below _ T18 (mkF m 115 #[.val (.int p1), .val (.int p2), .val (.int p3), .val (.long q4), .second, .val (.long q5), .second, .val (.int (p3 &&& (3 : Int32))), .val (.int sx), .val u10, .val u11, .val u12, .val u17, .unset, .unset] [u17, u12, u11, u10, (.int sx), (.int p1), (.ref b18), (.ref b18)])
        obtain ⟨_, T19, L19, X19, ⟨rfl, N19, K19, FR19, FS19⟩, st19⟩ := own_callC X18 hx hZ (y := (⟨"com/example/lease/lease/service/BenchFigures", "<init>", "(IILjava/lang/Long;Ljava/lang/Long;Ljava/lang/Long;Ljava/lang/Long;)V"⟩ : MethodName)) (b := b18) (argsL := [(.int p1), (.int sx), u10, u11, u12, u17]) (rest := [(.ref b18)]) (Ls := #[.val (.int p1), .val (.int p2), .val (.int p3), .val (.long q4), .second, .val (.long q5), .second, .val (.int (p3 &&& (3 : Int32))), .val (.int sx), .val u10, .val u11, .val u12, .val u17, .unset, .unset]) rfl hown (own_w hw 3 rfl) (own_w hw 4 rfl) (own_w hw 5 rfl) (own_w hw 2 rfl) (by decide) e18 (rmBF l Z a0 hw [] b18 p1 sx u10 u11 u12 u17 hu10 hu11 hu12 hu17 h18 n0 (own_oldge old18) A18 F18_runs F18_succeeded F18_latenessP50 F18_latenessP99 F18_latenessMax F18_executionsPerSecond ge_b18) 1 (by decide) (by decide) (by decide) (by decide) (by rw [hml]; rfl) (lenOf pd_3 rfl) rfl (Nat.le_of_eq rfl) (hb hby at_115)
        have M19 := Fr.app M17 N19
        have old19 := old18.keep K19 (allS ge_b18 all0)
        refine own_go st19 ?_
        show own_Go p e below _ T19 (mkF m 118 #[.val (.int p1), .val (.int p2), .val (.int p3), .val (.long q4), .second, .val (.long q5), .second, .val (.int (p3 &&& (3 : Int32))), .val (.int sx), .val u10, .val u11, .val u12, .val u17, .unset, .unset] [(.ref b18)])
        refine own_go (fun t k => XS.astore X19.here hx rfl (hb hby at_118) rfl rfl (l' := #[.val (.int p1), .val (.int p2), .val (.int p3), .val (.long q4), .second, .val (.long q5), .second, .val (.int (p3 &&& (3 : Int32))), .val (.int sx), .val u10, .val u11, .val u12, .val u17, .val (.ref b18), .unset]) rfl k) ?_
        show own_Go p e below _ T19 (mkF m 120 #[.val (.int p1), .val (.int p2), .val (.int p3), .val (.long q4), .second, .val (.long q5), .second, .val (.int (p3 &&& (3 : Int32))), .val (.int sx), .val u10, .val u11, .val u12, .val u17, .val (.ref b18), .unset] [])
        refine own_go (fun t k => XS.iloadN X19.here hx rfl (hb hby at_120) rfl k) ?_
        show own_Go p e below _ T19 (mkF m 121 #[.val (.int p1), .val (.int p2), .val (.int p3), .val (.long q4), .second, .val (.long q5), .second, .val (.int (p3 &&& (3 : Int32))), .val (.int sx), .val u10, .val u11, .val u12, .val u17, .val (.ref b18), .unset] [(.int p1)])
        refine own_go (fun t k => XS.i2l X19.here hx rfl (hb hby at_121) rfl k) ?_
        show own_Go p e below _ T19 (mkF m 122 #[.val (.int p1), .val (.int p2), .val (.int p3), .val (.long q4), .second, .val (.long q5), .second, .val (.int (p3 &&& (3 : Int32))), .val (.int sx), .val u10, .val u11, .val u12, .val u17, .val (.ref b18), .unset] [(.long p1.toInt64)])
        refine own_go (fun t k => XS.iload X19.here hx rfl (hb hby at_122) rfl k) ?_
        show own_Go p e below _ T19 (mkF m 124 #[.val (.int p1), .val (.int p2), .val (.int p3), .val (.long q4), .second, .val (.long q5), .second, .val (.int (p3 &&& (3 : Int32))), .val (.int sx), .val u10, .val u11, .val u12, .val u17, .val (.ref b18), .unset] [(.int sx), (.long p1.toInt64)])
        refine own_go (fun t k => XS.i2l X19.here hx rfl (hb hby at_124) rfl k) ?_
        show own_Go p e below _ T19 (mkF m 125 #[.val (.int p1), .val (.int p2), .val (.int p3), .val (.long q4), .second, .val (.long q5), .second, .val (.int (p3 &&& (3 : Int32))), .val (.int sx), .val u10, .val u11, .val u12, .val u17, .val (.ref b18), .unset] [(.long sx.toInt64), (.long p1.toInt64)])
        refine own_go (fun t k => XS.lsub X19.here hx rfl (hb hby at_125) rfl k) ?_
        show own_Go p e below _ T19 (mkF m 126 #[.val (.int p1), .val (.int p2), .val (.int p3), .val (.long q4), .second, .val (.long q5), .second, .val (.int (p3 &&& (3 : Int32))), .val (.int sx), .val u10, .val u11, .val u12, .val u17, .val (.ref b18), .unset] [(.long (p1.toInt64 - sx.toInt64))])
        refine own_go (fun t k => XS.lconst X19.here hx rfl (hb hby at_126) k) ?_
        show own_Go p e below _ T19 (mkF m 127 #[.val (.int p1), .val (.int p2), .val (.int p3), .val (.long q4), .second, .val (.long q5), .second, .val (.int (p3 &&& (3 : Int32))), .val (.int sx), .val u10, .val u11, .val u12, .val u17, .val (.ref b18), .unset] [(.long (0 : Int64)), (.long (p1.toInt64 - sx.toInt64))])
        refine own_go (fun t k => XT.lcmp X19.here hx rfl (hb hby at_127) rfl k) ?_
        show own_Go p e below _ T19 (mkF m 128 #[.val (.int p1), .val (.int p2), .val (.int p3), .val (.long q4), .second, .val (.long q5), .second, .val (.int (p3 &&& (3 : Int32))), .val (.int sx), .val u10, .val u11, .val u12, .val u17, .val (.ref b18), .unset] [(.int (XT.cmpL (p1.toInt64 - sx.toInt64) (0 : Int64)))])
        by_cases hc128 : (p1.toInt64 - sx.toInt64) = (0 : Int64)
        · show own_Go p e below _ T19 (mkF m 128 #[.val (.int p1), .val (.int p2), .val (.int p3), .val (.long q4), .second, .val (.long q5), .second, .val (.int (p3 &&& (3 : Int32))), .val (.int sx), .val u10, .val u11, .val u12, .val u17, .val (.ref b18), .unset] [(.int (XT.cmpL (p1.toInt64 - sx.toInt64) (0 : Int64)))])
          refine own_go (fun t k => XS.ifNo X19.here hx rfl (hb hby at_128) rfl (XT.ll_ne_f hc128) k) ?_
          show own_Go p e below _ T19 (mkF m 131 #[.val (.int p1), .val (.int p2), .val (.int p3), .val (.long q4), .second, .val (.long q5), .second, .val (.int (p3 &&& (3 : Int32))), .val (.int sx), .val u10, .val u11, .val u12, .val u17, .val (.ref b18), .unset] [])
          refine own_go (fun t k => XS.iconst X19.here hx rfl (hb hby at_131) k) ?_
          show own_Go p e below _ T19 (mkF m 132 #[.val (.int p1), .val (.int p2), .val (.int p3), .val (.long q4), .second, .val (.long q5), .second, .val (.int (p3 &&& (3 : Int32))), .val (.int sx), .val u10, .val u11, .val u12, .val u17, .val (.ref b18), .unset] [(.int (1 : Int32))])
          refine own_go (fun t k => XS.goto X19.here hx rfl (pc0 := 132) (pc' := 136) rfl (hb hby at_132) (by decide) (by decide) k) ?_
          show own_Go p e below _ T19 (mkF m 136 #[.val (.int p1), .val (.int p2), .val (.int p3), .val (.long q4), .second, .val (.long q5), .second, .val (.int (p3 &&& (3 : Int32))), .val (.int sx), .val u10, .val u11, .val u12, .val u17, .val (.ref b18), .unset] [(.int (1 : Int32))])
          refine own_go (fun t k => XS.istore X19.here hx rfl (hb hby at_136) rfl (l' := #[.val (.int p1), .val (.int p2), .val (.int p3), .val (.long q4), .second, .val (.long q5), .second, .val (.int (p3 &&& (3 : Int32))), .val (.int sx), .val u10, .val u11, .val u12, .val u17, .val (.ref b18), .val (.int (1 : Int32))]) rfl k) ?_
          show own_Go p e below _ T19 (mkF m 138 #[.val (.int p1), .val (.int p2), .val (.int p3), .val (.long q4), .second, .val (.long q5), .second, .val (.int (p3 &&& (3 : Int32))), .val (.int sx), .val u10, .val u11, .val u12, .val u17, .val (.ref b18), .val (.int (1 : Int32))] [])
          refine own_go (fun t k => XS.aload X19.here hx rfl (hb hby at_138) rfl rfl k) ?_
          show own_Go p e below _ T19 (mkF m 140 #[.val (.int p1), .val (.int p2), .val (.int p3), .val (.long q4), .second, .val (.long q5), .second, .val (.int (p3 &&& (3 : Int32))), .val (.int sx), .val u10, .val u11, .val u12, .val u17, .val (.ref b18), .val (.int (1 : Int32))] [(.ref b18)])
          obtain ⟨_, T20, L20, X20, ⟨rfl, N20, e20⟩, st20⟩ := own_callV X19 hx hZ (y := (⟨"com/example/lease/lease/service/BenchFigures", "allSucceeded", "()Z"⟩ : MethodName)) (z := (⟨"com/example/lease/lease/service/BenchFigures", "allSucceeded", "()Z"⟩ : MethodName)) (b := b18) (argsL := []) (rest := []) (Ls := #[.val (.int p1), .val (.int p2), .val (.int p3), .val (.long q4), .second, .val (.long q5), .second, .val (.int (p3 &&& (3 : Int32))), .val (.int sx), .val u10, .val u11, .val u12, .val u17, .val (.ref b18), .val (.int (1 : Int32))]) hown (own_w hw 26 rfl) (own_w hw 27 rfl) (own_w hw 29 rfl) (notFace_of_selects (args := #[]) (mvT hZ (own_w hw 29 rfl))) (own_w hw 28 rfl) (own_w hw 30 rfl) (own_w hw 2 rfl) (by decide) rfl (A18.keep K19) (rmA l Z a0 hw [] b18 p1 sx T19.heap n0 (own_oldge old19) FR19 FS19) 0 (by decide) (by decide) (by decide) (by decide) (by rw [hml]; rfl) (lenOf pd_1 rfl) rfl (Nat.le_of_eq rfl) (hb hby at_140)
          have M20 := Fr.app M19 N20
          refine own_go st20 ?_
          show own_Go p e below _ T20 (mkF m 143 #[.val (.int p1), .val (.int p2), .val (.int p3), .val (.long q4), .second, .val (.long q5), .second, .val (.int (p3 &&& (3 : Int32))), .val (.int sx), .val u10, .val u11, .val u12, .val u17, .val (.ref b18), .val (.int (1 : Int32))] [(.int (if sx = p1 then 1 else 0))])
          refine own_go (fun t k => XS.iload X20.here hx rfl (hb hby at_143) rfl k) ?_
          show own_Go p e below _ T20 (mkF m 145 #[.val (.int p1), .val (.int p2), .val (.int p3), .val (.long q4), .second, .val (.long q5), .second, .val (.int (p3 &&& (3 : Int32))), .val (.int sx), .val u10, .val u11, .val u12, .val u17, .val (.ref b18), .val (.int (1 : Int32))] [(.int (1 : Int32)), (.int (if sx = p1 then 1 else 0))])
          refine own_go (fun t k => XS.icmpNo X20.here hx rfl (hb hby at_145) rfl (XT.ii_ne_f (if_pos (own_sub0.mp hc128))) k) ?_
          show own_Go p e below _ T20 (mkF m 148 #[.val (.int p1), .val (.int p2), .val (.int p3), .val (.long q4), .second, .val (.long q5), .second, .val (.int (p3 &&& (3 : Int32))), .val (.int sx), .val u10, .val u11, .val u12, .val u17, .val (.ref b18), .val (.int (1 : Int32))] [])
          refine own_go (fun t k => XS.iconst X20.here hx rfl (hb hby at_148) k) ?_
          show own_Go p e below _ T20 (mkF m 149 #[.val (.int p1), .val (.int p2), .val (.int p3), .val (.long q4), .second, .val (.long q5), .second, .val (.int (p3 &&& (3 : Int32))), .val (.int sx), .val u10, .val u11, .val u12, .val u17, .val (.ref b18), .val (.int (1 : Int32))] [(.int (1 : Int32))])
          refine own_go (fun t k => XS.goto X20.here hx rfl (pc0 := 149) (pc' := 153) rfl (hb hby at_149) (by decide) (by decide) k) ?_
          show own_Go p e below _ T20 (mkF m 153 #[.val (.int p1), .val (.int p2), .val (.int p3), .val (.long q4), .second, .val (.long q5), .second, .val (.int (p3 &&& (3 : Int32))), .val (.int sx), .val u10, .val u11, .val u12, .val u17, .val (.ref b18), .val (.int (1 : Int32))] [(.int (1 : Int32))])
          refine own_retZ X20 hx hlk hret (hb hby at_153) (Or.inr rfl) (by decide) (by decide) ?_
          exact ⟨rfl, M20⟩
        · show own_Go p e below _ T19 (mkF m 128 #[.val (.int p1), .val (.int p2), .val (.int p3), .val (.long q4), .second, .val (.long q5), .second, .val (.int (p3 &&& (3 : Int32))), .val (.int sx), .val u10, .val u11, .val u12, .val u17, .val (.ref b18), .unset] [(.int (XT.cmpL (p1.toInt64 - sx.toInt64) (0 : Int64)))])
          refine own_go (fun t k => XS.ifYes X19.here hx rfl (pc0 := 128) (pc' := 135) rfl (hb hby at_128) rfl (XT.ll_ne_t hc128) (by decide) (by decide) k) ?_
          show own_Go p e below _ T19 (mkF m 135 #[.val (.int p1), .val (.int p2), .val (.int p3), .val (.long q4), .second, .val (.long q5), .second, .val (.int (p3 &&& (3 : Int32))), .val (.int sx), .val u10, .val u11, .val u12, .val u17, .val (.ref b18), .unset] [])
          refine own_go (fun t k => XS.iconst X19.here hx rfl (hb hby at_135) k) ?_
          show own_Go p e below _ T19 (mkF m 136 #[.val (.int p1), .val (.int p2), .val (.int p3), .val (.long q4), .second, .val (.long q5), .second, .val (.int (p3 &&& (3 : Int32))), .val (.int sx), .val u10, .val u11, .val u12, .val u17, .val (.ref b18), .unset] [(.int (0 : Int32))])
          refine own_go (fun t k => XS.istore X19.here hx rfl (hb hby at_136) rfl (l' := #[.val (.int p1), .val (.int p2), .val (.int p3), .val (.long q4), .second, .val (.long q5), .second, .val (.int (p3 &&& (3 : Int32))), .val (.int sx), .val u10, .val u11, .val u12, .val u17, .val (.ref b18), .val (.int (0 : Int32))]) rfl k) ?_
          show own_Go p e below _ T19 (mkF m 138 #[.val (.int p1), .val (.int p2), .val (.int p3), .val (.long q4), .second, .val (.long q5), .second, .val (.int (p3 &&& (3 : Int32))), .val (.int sx), .val u10, .val u11, .val u12, .val u17, .val (.ref b18), .val (.int (0 : Int32))] [])
          refine own_go (fun t k => XS.aload X19.here hx rfl (hb hby at_138) rfl rfl k) ?_
          show own_Go p e below _ T19 (mkF m 140 #[.val (.int p1), .val (.int p2), .val (.int p3), .val (.long q4), .second, .val (.long q5), .second, .val (.int (p3 &&& (3 : Int32))), .val (.int sx), .val u10, .val u11, .val u12, .val u17, .val (.ref b18), .val (.int (0 : Int32))] [(.ref b18)])
          obtain ⟨_, T21, L21, X21, ⟨rfl, N21, e21⟩, st21⟩ := own_callV X19 hx hZ (y := (⟨"com/example/lease/lease/service/BenchFigures", "allSucceeded", "()Z"⟩ : MethodName)) (z := (⟨"com/example/lease/lease/service/BenchFigures", "allSucceeded", "()Z"⟩ : MethodName)) (b := b18) (argsL := []) (rest := []) (Ls := #[.val (.int p1), .val (.int p2), .val (.int p3), .val (.long q4), .second, .val (.long q5), .second, .val (.int (p3 &&& (3 : Int32))), .val (.int sx), .val u10, .val u11, .val u12, .val u17, .val (.ref b18), .val (.int (0 : Int32))]) hown (own_w hw 26 rfl) (own_w hw 27 rfl) (own_w hw 29 rfl) (notFace_of_selects (args := #[]) (mvT hZ (own_w hw 29 rfl))) (own_w hw 28 rfl) (own_w hw 30 rfl) (own_w hw 2 rfl) (by decide) rfl (A18.keep K19) (rmA l Z a0 hw [] b18 p1 sx T19.heap n0 (own_oldge old19) FR19 FS19) 0 (by decide) (by decide) (by decide) (by decide) (by rw [hml]; rfl) (lenOf pd_1 rfl) rfl (Nat.le_of_eq rfl) (hb hby at_140)
          have M21 := Fr.app M19 N21
          refine own_go st21 ?_
          show own_Go p e below _ T21 (mkF m 143 #[.val (.int p1), .val (.int p2), .val (.int p3), .val (.long q4), .second, .val (.long q5), .second, .val (.int (p3 &&& (3 : Int32))), .val (.int sx), .val u10, .val u11, .val u12, .val u17, .val (.ref b18), .val (.int (0 : Int32))] [(.int (if sx = p1 then 1 else 0))])
          refine own_go (fun t k => XS.iload X21.here hx rfl (hb hby at_143) rfl k) ?_
          show own_Go p e below _ T21 (mkF m 145 #[.val (.int p1), .val (.int p2), .val (.int p3), .val (.long q4), .second, .val (.long q5), .second, .val (.int (p3 &&& (3 : Int32))), .val (.int sx), .val u10, .val u11, .val u12, .val u17, .val (.ref b18), .val (.int (0 : Int32))] [(.int (0 : Int32)), (.int (if sx = p1 then 1 else 0))])
          refine own_go (fun t k => XS.icmpNo X21.here hx rfl (hb hby at_145) rfl (XT.ii_ne_f (if_neg (fun q => hc128 (own_sub0.mpr q)))) k) ?_
          show own_Go p e below _ T21 (mkF m 148 #[.val (.int p1), .val (.int p2), .val (.int p3), .val (.long q4), .second, .val (.long q5), .second, .val (.int (p3 &&& (3 : Int32))), .val (.int sx), .val u10, .val u11, .val u12, .val u17, .val (.ref b18), .val (.int (0 : Int32))] [])
          refine own_go (fun t k => XS.iconst X21.here hx rfl (hb hby at_148) k) ?_
          show own_Go p e below _ T21 (mkF m 149 #[.val (.int p1), .val (.int p2), .val (.int p3), .val (.long q4), .second, .val (.long q5), .second, .val (.int (p3 &&& (3 : Int32))), .val (.int sx), .val u10, .val u11, .val u12, .val u17, .val (.ref b18), .val (.int (0 : Int32))] [(.int (1 : Int32))])
          refine own_go (fun t k => XS.goto X21.here hx rfl (pc0 := 149) (pc' := 153) rfl (hb hby at_149) (by decide) (by decide) k) ?_
          show own_Go p e below _ T21 (mkF m 153 #[.val (.int p1), .val (.int p2), .val (.int p3), .val (.long q4), .second, .val (.long q5), .second, .val (.int (p3 &&& (3 : Int32))), .val (.int sx), .val u10, .val u11, .val u12, .val u17, .val (.ref b18), .val (.int (0 : Int32))] [(.int (1 : Int32))])
          refine own_retZ X21 hx hlk hret (hb hby at_153) (Or.inr rfl) (by decide) (by decide) ?_
          exact ⟨rfl, M21⟩
  by_cases hc7 : (p3 &&& (3 : Int32)) = 0
  · show own_Go p e below _ T0 (mkF m 7 #[.val (.int p1), .val (.int p2), .val (.int p3), .val (.long q4), .second, .val (.long q5), .second, .val (.int (p3 &&& (3 : Int32))), .unset, .unset, .unset, .unset, .unset, .unset, .unset] [(.int (p3 &&& (3 : Int32)))])
    refine own_go (fun t k => XS.ifNo X0.here hx rfl (hb hby at_7) rfl (XT.i0_ne_f hc7) k) ?_
    show own_Go p e below _ T0 (mkF m 10 #[.val (.int p1), .val (.int p2), .val (.int p3), .val (.long q4), .second, .val (.long q5), .second, .val (.int (p3 &&& (3 : Int32))), .unset, .unset, .unset, .unset, .unset, .unset, .unset] [])
    refine own_go (fun t k => XS.iloadN X0.here hx rfl (hb hby at_10) rfl k) ?_
    show own_Go p e below _ T0 (mkF m 11 #[.val (.int p1), .val (.int p2), .val (.int p3), .val (.long q4), .second, .val (.long q5), .second, .val (.int (p3 &&& (3 : Int32))), .unset, .unset, .unset, .unset, .unset, .unset, .unset] [(.int p1)])
    refine own_go (fun t k => XS.istore X0.here hx rfl (hb hby at_11) rfl (l' := #[.val (.int p1), .val (.int p2), .val (.int p3), .val (.long q4), .second, .val (.long q5), .second, .val (.int (p3 &&& (3 : Int32))), .val (.int p1), .unset, .unset, .unset, .unset, .unset, .unset]) rfl k) ?_
    show own_Go p e below _ T0 (mkF m 13 #[.val (.int p1), .val (.int p2), .val (.int p3), .val (.long q4), .second, .val (.long q5), .second, .val (.int (p3 &&& (3 : Int32))), .val (.int p1), .unset, .unset, .unset, .unset, .unset, .unset] [])
    refine own_go (fun t k => XS.goto X0.here hx rfl (pc0 := 13) (pc' := 47) rfl (hb hby at_13) (by decide) (by decide) k) ?_
    show own_Go p e below _ T0 (mkF m 47 #[.val (.int p1), .val (.int p2), .val (.int p3), .val (.long q4), .second, .val (.long q5), .second, .val (.int (p3 &&& (3 : Int32))), .val (.int p1), .unset, .unset, .unset, .unset, .unset, .unset] [])
    exact jn p1
  · show own_Go p e below _ T0 (mkF m 7 #[.val (.int p1), .val (.int p2), .val (.int p3), .val (.long q4), .second, .val (.long q5), .second, .val (.int (p3 &&& (3 : Int32))), .unset, .unset, .unset, .unset, .unset, .unset, .unset] [(.int (p3 &&& (3 : Int32)))])
    refine own_go (fun t k => XS.ifYes X0.here hx rfl (pc0 := 7) (pc' := 16) rfl (hb hby at_7) rfl (XT.i0_ne_t hc7) (by decide) (by decide) k) ?_
    show own_Go p e below _ T0 (mkF m 16 #[.val (.int p1), .val (.int p2), .val (.int p3), .val (.long q4), .second, .val (.long q5), .second, .val (.int (p3 &&& (3 : Int32))), .unset, .unset, .unset, .unset, .unset, .unset, .unset] [])
    refine own_go (fun t k => XS.iload X0.here hx rfl (hb hby at_16) rfl k) ?_
    show own_Go p e below _ T0 (mkF m 18 #[.val (.int p1), .val (.int p2), .val (.int p3), .val (.long q4), .second, .val (.long q5), .second, .val (.int (p3 &&& (3 : Int32))), .unset, .unset, .unset, .unset, .unset, .unset, .unset] [(.int (p3 &&& (3 : Int32)))])
    refine own_go (fun t k => XS.iconst X0.here hx rfl (hb hby at_18) k) ?_
    show own_Go p e below _ T0 (mkF m 19 #[.val (.int p1), .val (.int p2), .val (.int p3), .val (.long q4), .second, .val (.long q5), .second, .val (.int (p3 &&& (3 : Int32))), .unset, .unset, .unset, .unset, .unset, .unset, .unset] [(.int (1 : Int32)), (.int (p3 &&& (3 : Int32)))])
    by_cases hc19 : (p3 &&& (3 : Int32)) = (1 : Int32)
    · show own_Go p e below _ T0 (mkF m 19 #[.val (.int p1), .val (.int p2), .val (.int p3), .val (.long q4), .second, .val (.long q5), .second, .val (.int (p3 &&& (3 : Int32))), .unset, .unset, .unset, .unset, .unset, .unset, .unset] [(.int (1 : Int32)), (.int (p3 &&& (3 : Int32)))])
      refine own_go (fun t k => XS.icmpNo X0.here hx rfl (hb hby at_19) rfl (XT.ii_ne_f hc19) k) ?_
      show own_Go p e below _ T0 (mkF m 22 #[.val (.int p1), .val (.int p2), .val (.int p3), .val (.long q4), .second, .val (.long q5), .second, .val (.int (p3 &&& (3 : Int32))), .unset, .unset, .unset, .unset, .unset, .unset, .unset] [])
      refine own_go (fun t k => XS.iloadN X0.here hx rfl (hb hby at_22) rfl k) ?_
      show own_Go p e below _ T0 (mkF m 23 #[.val (.int p1), .val (.int p2), .val (.int p3), .val (.long q4), .second, .val (.long q5), .second, .val (.int (p3 &&& (3 : Int32))), .unset, .unset, .unset, .unset, .unset, .unset, .unset] [(.int p1)])
      refine own_go (fun t k => XS.iconst X0.here hx rfl (hb hby at_23) k) ?_
      show own_Go p e below _ T0 (mkF m 24 #[.val (.int p1), .val (.int p2), .val (.int p3), .val (.long q4), .second, .val (.long q5), .second, .val (.int (p3 &&& (3 : Int32))), .unset, .unset, .unset, .unset, .unset, .unset, .unset] [(.int (1 : Int32)), (.int p1)])
      refine own_go (fun t k => XS.iadd X0.here hx rfl (hb hby at_24) rfl k) ?_
      show own_Go p e below _ T0 (mkF m 25 #[.val (.int p1), .val (.int p2), .val (.int p3), .val (.long q4), .second, .val (.long q5), .second, .val (.int (p3 &&& (3 : Int32))), .unset, .unset, .unset, .unset, .unset, .unset, .unset] [(.int (p1 + (1 : Int32)))])
      refine own_go (fun t k => XS.istore X0.here hx rfl (hb hby at_25) rfl (l' := #[.val (.int p1), .val (.int p2), .val (.int p3), .val (.long q4), .second, .val (.long q5), .second, .val (.int (p3 &&& (3 : Int32))), .val (.int (p1 + (1 : Int32))), .unset, .unset, .unset, .unset, .unset, .unset]) rfl k) ?_
      show own_Go p e below _ T0 (mkF m 27 #[.val (.int p1), .val (.int p2), .val (.int p3), .val (.long q4), .second, .val (.long q5), .second, .val (.int (p3 &&& (3 : Int32))), .val (.int (p1 + (1 : Int32))), .unset, .unset, .unset, .unset, .unset, .unset] [])
      refine own_go (fun t k => XS.goto X0.here hx rfl (pc0 := 27) (pc' := 47) rfl (hb hby at_27) (by decide) (by decide) k) ?_
      show own_Go p e below _ T0 (mkF m 47 #[.val (.int p1), .val (.int p2), .val (.int p3), .val (.long q4), .second, .val (.long q5), .second, .val (.int (p3 &&& (3 : Int32))), .val (.int (p1 + (1 : Int32))), .unset, .unset, .unset, .unset, .unset, .unset] [])
      exact jn (p1 + (1 : Int32))
    · show own_Go p e below _ T0 (mkF m 19 #[.val (.int p1), .val (.int p2), .val (.int p3), .val (.long q4), .second, .val (.long q5), .second, .val (.int (p3 &&& (3 : Int32))), .unset, .unset, .unset, .unset, .unset, .unset, .unset] [(.int (1 : Int32)), (.int (p3 &&& (3 : Int32)))])
      refine own_go (fun t k => XS.icmpYes X0.here hx rfl (pc0 := 19) (pc' := 30) rfl (hb hby at_19) rfl (XT.ii_ne_t hc19) (by decide) (by decide) k) ?_
      show own_Go p e below _ T0 (mkF m 30 #[.val (.int p1), .val (.int p2), .val (.int p3), .val (.long q4), .second, .val (.long q5), .second, .val (.int (p3 &&& (3 : Int32))), .unset, .unset, .unset, .unset, .unset, .unset, .unset] [])
      refine own_go (fun t k => XS.iload X0.here hx rfl (hb hby at_30) rfl k) ?_
      show own_Go p e below _ T0 (mkF m 32 #[.val (.int p1), .val (.int p2), .val (.int p3), .val (.long q4), .second, .val (.long q5), .second, .val (.int (p3 &&& (3 : Int32))), .unset, .unset, .unset, .unset, .unset, .unset, .unset] [(.int (p3 &&& (3 : Int32)))])
      refine own_go (fun t k => XS.iconst X0.here hx rfl (hb hby at_32) k) ?_
      show own_Go p e below _ T0 (mkF m 33 #[.val (.int p1), .val (.int p2), .val (.int p3), .val (.long q4), .second, .val (.long q5), .second, .val (.int (p3 &&& (3 : Int32))), .unset, .unset, .unset, .unset, .unset, .unset, .unset] [(.int (2 : Int32)), (.int (p3 &&& (3 : Int32)))])
      by_cases hc33 : (p3 &&& (3 : Int32)) = (2 : Int32)
      · show own_Go p e below _ T0 (mkF m 33 #[.val (.int p1), .val (.int p2), .val (.int p3), .val (.long q4), .second, .val (.long q5), .second, .val (.int (p3 &&& (3 : Int32))), .unset, .unset, .unset, .unset, .unset, .unset, .unset] [(.int (2 : Int32)), (.int (p3 &&& (3 : Int32)))])
        refine own_go (fun t k => XS.icmpNo X0.here hx rfl (hb hby at_33) rfl (XT.ii_ne_f hc33) k) ?_
        show own_Go p e below _ T0 (mkF m 36 #[.val (.int p1), .val (.int p2), .val (.int p3), .val (.long q4), .second, .val (.long q5), .second, .val (.int (p3 &&& (3 : Int32))), .unset, .unset, .unset, .unset, .unset, .unset, .unset] [])
        refine own_go (fun t k => XS.iloadN X0.here hx rfl (hb hby at_36) rfl k) ?_
        show own_Go p e below _ T0 (mkF m 37 #[.val (.int p1), .val (.int p2), .val (.int p3), .val (.long q4), .second, .val (.long q5), .second, .val (.int (p3 &&& (3 : Int32))), .unset, .unset, .unset, .unset, .unset, .unset, .unset] [(.int p1)])
        refine own_go (fun t k => XS.iconst X0.here hx rfl (hb hby at_37) k) ?_
        show own_Go p e below _ T0 (mkF m 38 #[.val (.int p1), .val (.int p2), .val (.int p3), .val (.long q4), .second, .val (.long q5), .second, .val (.int (p3 &&& (3 : Int32))), .unset, .unset, .unset, .unset, .unset, .unset, .unset] [(.int (1 : Int32)), (.int p1)])
        refine own_go (fun t k => XS.isub X0.here hx rfl (hb hby at_38) rfl k) ?_
        show own_Go p e below _ T0 (mkF m 39 #[.val (.int p1), .val (.int p2), .val (.int p3), .val (.long q4), .second, .val (.long q5), .second, .val (.int (p3 &&& (3 : Int32))), .unset, .unset, .unset, .unset, .unset, .unset, .unset] [(.int (p1 - (1 : Int32)))])
        refine own_go (fun t k => XS.istore X0.here hx rfl (hb hby at_39) rfl (l' := #[.val (.int p1), .val (.int p2), .val (.int p3), .val (.long q4), .second, .val (.long q5), .second, .val (.int (p3 &&& (3 : Int32))), .val (.int (p1 - (1 : Int32))), .unset, .unset, .unset, .unset, .unset, .unset]) rfl k) ?_
        show own_Go p e below _ T0 (mkF m 41 #[.val (.int p1), .val (.int p2), .val (.int p3), .val (.long q4), .second, .val (.long q5), .second, .val (.int (p3 &&& (3 : Int32))), .val (.int (p1 - (1 : Int32))), .unset, .unset, .unset, .unset, .unset, .unset] [])
        refine own_go (fun t k => XS.goto X0.here hx rfl (pc0 := 41) (pc' := 47) rfl (hb hby at_41) (by decide) (by decide) k) ?_
        show own_Go p e below _ T0 (mkF m 47 #[.val (.int p1), .val (.int p2), .val (.int p3), .val (.long q4), .second, .val (.long q5), .second, .val (.int (p3 &&& (3 : Int32))), .val (.int (p1 - (1 : Int32))), .unset, .unset, .unset, .unset, .unset, .unset] [])
        exact jn (p1 - (1 : Int32))
      · show own_Go p e below _ T0 (mkF m 33 #[.val (.int p1), .val (.int p2), .val (.int p3), .val (.long q4), .second, .val (.long q5), .second, .val (.int (p3 &&& (3 : Int32))), .unset, .unset, .unset, .unset, .unset, .unset, .unset] [(.int (2 : Int32)), (.int (p3 &&& (3 : Int32)))])
        refine own_go (fun t k => XS.icmpYes X0.here hx rfl (pc0 := 33) (pc' := 44) rfl (hb hby at_33) rfl (XT.ii_ne_t hc33) (by decide) (by decide) k) ?_
        show own_Go p e below _ T0 (mkF m 44 #[.val (.int p1), .val (.int p2), .val (.int p3), .val (.long q4), .second, .val (.long q5), .second, .val (.int (p3 &&& (3 : Int32))), .unset, .unset, .unset, .unset, .unset, .unset, .unset] [])
        refine own_go (fun t k => XS.iloadN X0.here hx rfl (hb hby at_44) rfl k) ?_
        show own_Go p e below _ T0 (mkF m 45 #[.val (.int p1), .val (.int p2), .val (.int p3), .val (.long q4), .second, .val (.long q5), .second, .val (.int (p3 &&& (3 : Int32))), .unset, .unset, .unset, .unset, .unset, .unset, .unset] [(.int p2)])
        refine own_go (fun t k => XS.istore X0.here hx rfl (hb hby at_45) rfl (l' := #[.val (.int p1), .val (.int p2), .val (.int p3), .val (.long q4), .second, .val (.long q5), .second, .val (.int (p3 &&& (3 : Int32))), .val (.int p2), .unset, .unset, .unset, .unset, .unset, .unset]) rfl k) ?_
        show own_Go p e below _ T0 (mkF m 47 #[.val (.int p1), .val (.int p2), .val (.int p3), .val (.long q4), .second, .val (.long q5), .second, .val (.int (p3 &&& (3 : Int32))), .val (.int p2), .unset, .unset, .unset, .unset, .unset, .unset] [])
        exact jn p2
set_option maxRecDepth 65536 in
set_option maxHeartbeats 40000000 in
theorem comes_1 {Post : Tables → Env → Array Value → State → Outcome → State → Prop} (hpost : ∀ tb e args s v u, (limb_1_1.after args s (.returned v) u = true ∧ limb_1_2.after args s (.returned v) u = true ∧ True) → FrameEnd s (.returned v) u (Jvm.fieldLocs frame_1_writes args s ++ Jvm.arrayLocs frame_1_arrays args s ++ Jvm.staticLocs frame_1_statics s) 24 128 → Post tb e args s (.returned v) u) :
    ArmFor flags0 classFile x code maxLocals ret World_1 tables_1 room_1 Calls_1 rest_1 Pre_1 Post := by
  intro l hfl _ _ p e ha hc hk s m args below hf hA hF happ hP
  obtain ⟨hcalls, hrest, hpre⟩ := hP
  obtain ⟨-, -, -, hnamed, -, -, -, hat⟩ := (Spec.applies_iff hf).mp happ
  obtain ⟨hg, hn⟩ := and_e (Cond.before_iff.mp (show (Jvm.Cond.and given_1 narrow_1).before args s = true from hpre))
  obtain ⟨g1, g2⟩ := and_e hg
  obtain ⟨g3, g4⟩ := and_e g2
  obtain ⟨g5, g6⟩ := and_e g4
  obtain ⟨g7, g8⟩ := and_e g6
  obtain ⟨g9, g10⟩ := and_e g8
  obtain ⟨w0, w1, w2, w3, w4, rfl⟩ : ∃ w0 w1 w2 w3 w4 : Value, args = #[w0, w1, w2, w3, w4] := by
    have hs : args.size = 5 := by simpa [Cond.value, given_1] using g1
    obtain ⟨L⟩ := args
    match L, hs with
    | [w0, w1, w2, w3, w4], _ => exact ⟨w0, w1, w2, w3, w4, rfl⟩
  have hw := fun d (hd : d ∈ tables_1) => atoms_spec (ws := Jvm.Cond.code x code maxLocals ret :: tables_1) hat d (List.mem_cons_of_mem _ hd)
  have hfit : Fit s := fun {y c} hc i hi => by
    obtain ⟨ha, rfl⟩ := Array.getElem?_eq_some_iff.mp hc
    have q := List.all_eq_true.mp ((Array.all_eq_true_iff_forall_mem.mp hF) _ (Array.getElem_mem ha)) i (List.mem_range.mpr hi)
    simpa [Array.getElem?_eq_getElem hi] using q
  obtain ⟨i0, ei0⟩ := is_v g3
  obtain rfl : w0 = (.int i0) := Option.some.inj ei0
  obtain ⟨i1, ei1⟩ := is_v g5
  obtain rfl : w1 = (.int i1) := Option.some.inj ei1
  obtain ⟨i2, ei2⟩ := is_v g7
  obtain rfl : w2 = (.int i2) := Option.some.inj ei2
  obtain ⟨i3, ei3⟩ := isL_v g9
  obtain rfl : w3 = (.long i3) := Option.some.inj ei3
  obtain ⟨i4, ei4⟩ := isL_v g10
  obtain rfl : w4 = (.long i4) := Option.some.inj ei4
  obtain ⟨hsets, hown0⟩ := atoms_of _ (rest_1_c_eq ▸ (show rest_1_c.before _ s = true from hrest))
  have z2 := Cond.before_iff.mp (own_w hsets 2 rfl)
  have z4 := Cond.before_iff.mp (own_w hsets 4 rfl)
  obtain ⟨ac, evc⟩ := arr_v z2
  obtain ⟨cc, A_C⟩ := Arr.start evc z2
  have S_C := Sta.start evc (Or.inl (own_w hsets 1 rfl))
  obtain ⟨hl1, hl2⟩ := own_lenOf evc A_C (own_eqI z4)
  have hs_C : cc.slots.size = 256 := own_size hl1 hl2
  have he_C : ∀ j : Int32, ¬ (j < 0 ∨ cc.slots.size ≤ j.toNatClampNeg) → ∃ u : Value, cc.slots[j.toNatClampNeg]? = some u ∧ u.isRef = true := fun j hj => by
    obtain ⟨v, q1, q2⟩ := elem_fit hfit A_C hj
    exact ⟨v, q1, by cases v <;> simp_all [fits, Value.isRef]⟩
  obtain ⟨n, o, h1, h2, h3, _, L, rfl, ⟨rfl, N⟩, hq⟩ := rm0 l s _ hw tables_1 i0 i1 i2 i3 i4 ac cc s.heap s.heap.size (Nat.le_refl _) (Old.start s) S_C A_C hs_C he_C p e ha hc hk s m _ below hf ((Spec.applies_iff_loose hf).mp happ).1 ⟨rfl, State.Warmed39.refl s, rfl⟩ trivial
  refine ⟨n, _, h1, h2, h3, hpost _ _ _ _ _ _ ⟨Cond.after_iff.mpr rfl, Cond.after_iff.mpr (eq_i res_at (Term.int_eval (1)) rfl), trivial⟩ ⟨hq.1, hq.2.1, (hq.2.2.sift fun y hy => Or.inr (N y hy)).mono (by decide) (by decide)⟩⟩
theorem main_1_1 : Claimed_1_1 := comes_1 fun _ _ _ _ _ _ h hF => ⟨h.1, hF⟩
theorem main_1_2 : Claimed_1_2 := comes_1 fun _ _ _ _ _ _ h hF => ⟨h.2.1, hF⟩
end Jvm.Pilot.@@N@@
namespace Jvm.Pilot.@@N@@
open Jvm Jvm.ClassFile Sem Op Lib Jvm.Free Jvm.Stand Jvm.Pilot.@@N@@.Jvm.D
/-! MADE BY PROGRAM (witnessworld.py) out of the Statement's table words and the real class files: 17 classes; the members and pool entries that the words name. The judged class is class 1, her method 1. -/
namespace start1
open Jvm.ClassFile
def u (s : String) : CpInfo := .utf8 (stringToUtf16 s)
/-- a pool by its gaps: so many unusable entries, then the entry; so many at the end -/
def gap : Nat → List CpInfo → List CpInfo
  | 0, r => r
  | n + 1, r => .unusable :: gap n r
def poolList (es : List (Nat × CpInfo)) (last : Nat) : List CpInfo := es.foldr (fun e r => gap e.1 (e.2 :: r)) (gap last [])
def pool (es : List (Nat × CpInfo)) (last : Nat) : Array CpInfo := ⟨poolList es last⟩
def fileOf (pool : Array CpInfo) (this : Nat) (attrs : Array Attribute := #[]) (ms : Array MethodInfo := #[]) (fl : Nat := 33) (sup : Nat := 0) (ifs : Array Nat := #[]) (fds : Array FieldInfo := #[]) : ClassFile where
  minorVersion := 0
  majorVersion := 65
  constantPool := pool
  accessFlags := fl
  thisClass := this
  superClass := sup
  interfaces := ifs
  fields := fds
  methods := ms
  attributes := attrs
def plain (name : String) (sup : Option ClassId) : Class where
  name := name
  kind := .ordinary
  loader := none
  accessFlags := 33
  super := sup
  interfaces := #[]
  cf := none
  fields := #[]
  methods := #[]
  instanceTypes := #[]
  staticTypes := #[]
  resolved := #[]
  callSites := []
  init := .initialized
  statics := none
  mirror := none

def pool0 : Array CpInfo := pool [(5, u "<init>"), (0, u "()V"), (1, .class_ 10), (1, u "java/lang/Object")] 113

def k0c0 : Code := { maxStack := 0, maxLocals := 1, code := object_method_1_code, exceptionTable := #[], attributes := #[] }
def k0m0 : Method := { name := "<init>", desc := "()V", sig := { parameters := [], returnType := none }, accessFlags := 1, code := some k0c0 }
/-- java/lang/Object -/
def k0 : Class := { plain "java/lang/Object" none with
  accessFlags := 33
  interfaces := #[]
  cf := some (fileOf pool0 8 #[] #[{ accessFlags := 1, nameIndex := 5, descriptorIndex := 6, attributes := #[] }] 33 0 #[] #[])
  fields := #[]
  methods := #[k0m0]
  instanceTypes := #[]
  staticTypes := #[]
  resolved := Array.replicate 124 none
  statics := none }

def pool1 : Array CpInfo := pool [(2, .class_ 4), (1, u "java/lang/Object"), (0, u "<init>"), (0, u "()V"), (0, .methodref 8 9), (0, .class_ 10), (0, .nameAndType 11 12), (0, u "java/lang/Long"), (0, u "valueOf"), (0, u "(J)Ljava/lang/Long;"), (0, .class_ 14), (0, u "com/example/lease/lease/service/BenchFigures"), (0, .methodref 13 16), (0, .nameAndType 5 17), (0, u "(IILjava/lang/Long;Ljava/lang/Long;Ljava/lang/Long;Ljava/lang/Long;)V"), (0, .methodref 13 19), (0, .nameAndType 20 21), (0, u "allSucceeded"), (0, u "()Z"), (0, .class_ 23), (0, u "com/example/lease/lease/service/BenchFiguresAllSucceededPinLaw"), (2, u "law"), (0, u "(IIIJJ)Z")] 3

def k1m0 : Method := { name := "<init>", desc := "()V", sig := { parameters := [], returnType := none }, accessFlags := 1, code := none }
def k1c1 : Code := { maxStack := 8, maxLocals := 15, code := code, exceptionTable := #[], attributes := #[] }
def k1m1 : Method := { name := "law", desc := "(IIIJJ)Z", sig := { parameters := [.int, .int, .int, .long, .long], returnType := some .boolean }, accessFlags := 9, code := some k1c1 }
/-- com/example/lease/lease/service/BenchFiguresAllSucceededPinLaw -/
def k1 : Class := { plain "com/example/lease/lease/service/BenchFiguresAllSucceededPinLaw" (some 0) with
  accessFlags := 49
  interfaces := #[]
  cf := some (fileOf pool1 22 #[] #[{ accessFlags := 1, nameIndex := 5, descriptorIndex := 6, attributes := #[] }, { accessFlags := 9, nameIndex := 26, descriptorIndex := 27, attributes := #[] }] 49 2 #[] #[])
  fields := #[]
  methods := #[k1m0, k1m1]
  instanceTypes := #[]
  staticTypes := #[]
  resolved := Array.replicate 31 none
  statics := none }

def pool2 : Array CpInfo := pool [(1, .methodref 2 3), (0, .class_ 4), (0, .nameAndType 5 6), (0, u "java/lang/Object"), (0, u "<init>"), (0, u "()V"), (0, .class_ 8), (0, u "java/lang/Record")] 13

def k2c0 : Code := { maxStack := 1, maxLocals := 1, code := jdk_30_method_1_code, exceptionTable := #[], attributes := #[] }
def k2m0 : Method := { name := "<init>", desc := "()V", sig := { parameters := [], returnType := none }, accessFlags := 4, code := some k2c0 }
/-- java/lang/Record -/
def k2 : Class := { plain "java/lang/Record" (some 0) with
  accessFlags := 1057
  interfaces := #[]
  cf := some (fileOf pool2 7 #[] #[{ accessFlags := 4, nameIndex := 5, descriptorIndex := 6, attributes := #[] }] 1057 2 #[] #[])
  fields := #[]
  methods := #[k2m0]
  instanceTypes := #[]
  staticTypes := #[]
  resolved := Array.replicate 22 none
  statics := none }

def pool3 : Array CpInfo := pool [(1, .methodref 2 3), (0, .class_ 4), (0, .nameAndType 5 6), (0, u "java/lang/Record"), (0, u "<init>"), (0, u "()V"), (0, .fieldref 8 9), (0, .class_ 10), (0, .nameAndType 11 12), (0, u "com/example/lease/lease/service/BenchFigures"), (0, u "runs"), (0, u "I"), (0, .fieldref 8 14), (0, .nameAndType 15 12), (0, u "succeeded"), (0, .fieldref 8 17), (0, .nameAndType 18 19), (0, u "latenessP50"), (0, u "Ljava/lang/Long;"), (0, .fieldref 8 21), (0, .nameAndType 22 19), (0, u "latenessP99"), (0, .fieldref 8 24), (0, .nameAndType 25 19), (0, u "latenessMax"), (0, .fieldref 8 27), (0, .nameAndType 28 19), (0, u "executionsPerSecond"), (14, u "()Z"), (94, u "(IILjava/lang/Long;Ljava/lang/Long;Ljava/lang/Long;Ljava/lang/Long;)V"), (42, u "NONE"), (0, u "Ljava/lang/String;"), (8, u "allSucceeded")] 48

def k3c0 : Code := { maxStack := 2, maxLocals := 7, code := prog_28_method_1_code, exceptionTable := #[], attributes := #[] }
def k3m0 : Method := { name := "<init>", desc := "(IILjava/lang/Long;Ljava/lang/Long;Ljava/lang/Long;Ljava/lang/Long;)V", sig := { parameters := [.int, .int, (.object "java/lang/Long"), (.object "java/lang/Long"), (.object "java/lang/Long"), (.object "java/lang/Long")], returnType := none }, accessFlags := 1, code := some k3c0 }
def k3c1 : Code := { maxStack := 2, maxLocals := 1, code := prog_28_method_3_code, exceptionTable := #[], attributes := #[] }
def k3m1 : Method := { name := "allSucceeded", desc := "()Z", sig := { parameters := [], returnType := some .boolean }, accessFlags := 1, code := some k3c1 }
/-- com/example/lease/lease/service/BenchFigures -/
def k3 : Class := { plain "com/example/lease/lease/service/BenchFigures" (some 2) with
  accessFlags := 49
  interfaces := #[]
  cf := some (fileOf pool3 8 #[] #[{ accessFlags := 1, nameIndex := 5, descriptorIndex := 138, attributes := #[] }, { accessFlags := 1, nameIndex := 191, descriptorIndex := 43, attributes := #[] }] 49 2 #[] #[{ accessFlags := 18, nameIndex := 11, descriptorIndex := 12, attributes := #[] }, { accessFlags := 18, nameIndex := 15, descriptorIndex := 12, attributes := #[] }, { accessFlags := 18, nameIndex := 18, descriptorIndex := 19, attributes := #[] }, { accessFlags := 18, nameIndex := 22, descriptorIndex := 19, attributes := #[] }, { accessFlags := 18, nameIndex := 25, descriptorIndex := 19, attributes := #[] }, { accessFlags := 18, nameIndex := 28, descriptorIndex := 19, attributes := #[] }, { accessFlags := 25, nameIndex := 181, descriptorIndex := 182, attributes := #[] }])
  fields := #[{ name := "runs", type := .int, accessFlags := 18, slot := 0, constantValue := 0 }, { name := "succeeded", type := .int, accessFlags := 18, slot := 1, constantValue := 0 }, { name := "latenessP50", type := (.object "java/lang/Long"), accessFlags := 18, slot := 2, constantValue := 0 }, { name := "latenessP99", type := (.object "java/lang/Long"), accessFlags := 18, slot := 3, constantValue := 0 }, { name := "latenessMax", type := (.object "java/lang/Long"), accessFlags := 18, slot := 4, constantValue := 0 }, { name := "executionsPerSecond", type := (.object "java/lang/Long"), accessFlags := 18, slot := 5, constantValue := 0 }, { name := "NONE", type := (.object "java/lang/String"), accessFlags := 25, slot := 0, constantValue := 0 }]
  methods := #[k3m0, k3m1]
  instanceTypes := #[.int, .int, (.object "java/lang/Long"), (.object "java/lang/Long"), (.object "java/lang/Long"), (.object "java/lang/Long")]
  staticTypes := #[(.object "java/lang/String")]
  resolved := Array.replicate 240 none
  statics := none }

def pool4 : Array CpInfo := pool [(1, .class_ 2), (0, u "java/io/Serializable"), (0, .class_ 4), (0, u "java/lang/Object")] 2

/-- java/io/Serializable -/
def k4 : Class := { plain "java/io/Serializable" (some 0) with
  accessFlags := 1537
  interfaces := #[]
  cf := some (fileOf pool4 1 #[] #[] 1537 3 #[] #[])
  fields := #[]
  methods := #[]
  instanceTypes := #[]
  staticTypes := #[]
  resolved := Array.replicate 7 none
  statics := none }

def pool5 : Array CpInfo := pool [(1, .methodref 2 3), (0, .class_ 4), (0, .nameAndType 5 6), (0, u "java/lang/Object"), (0, u "<init>"), (0, u "()V"), (1, .class_ 10), (1, u "java/lang/Number"), (2, .class_ 14), (0, u "java/io/Serializable"), (0, u "serialVersionUID"), (0, u "J")] 20

def k5c0 : Code := { maxStack := 1, maxLocals := 1, code := jdk_18_method_1_code, exceptionTable := #[], attributes := #[] }
def k5m0 : Method := { name := "<init>", desc := "()V", sig := { parameters := [], returnType := none }, accessFlags := 1, code := some k5c0 }
/-- java/lang/Number -/
def k5 : Class := { plain "java/lang/Number" (some 0) with
  accessFlags := 1057
  interfaces := #[4]
  cf := some (fileOf pool5 8 #[] #[{ accessFlags := 1, nameIndex := 5, descriptorIndex := 6, attributes := #[] }] 1057 2 #[13] #[{ accessFlags := 26, nameIndex := 15, descriptorIndex := 16, attributes := #[] }])
  fields := #[{ name := "serialVersionUID", type := .long, accessFlags := 26, slot := 0, constantValue := 0 }]
  methods := #[k5m0]
  instanceTypes := #[]
  staticTypes := #[.long]
  resolved := Array.replicate 37 none
  statics := none }

def pool6 : Array CpInfo := pool [(1, .class_ 2), (0, u "java/lang/Comparable"), (0, .class_ 4), (0, u "java/lang/Object")] 7

/-- java/lang/Comparable -/
def k6 : Class := { plain "java/lang/Comparable" (some 0) with
  accessFlags := 1537
  interfaces := #[]
  cf := some (fileOf pool6 1 #[] #[] 1537 3 #[] #[])
  fields := #[]
  methods := #[]
  instanceTypes := #[]
  staticTypes := #[]
  resolved := Array.replicate 12 none
  statics := none }

def pool7 : Array CpInfo := pool [(1, .class_ 2), (0, u "java/lang/constant/Constable"), (0, .class_ 4), (0, u "java/lang/Object")] 6

/-- java/lang/constant/Constable -/
def k7 : Class := { plain "java/lang/constant/Constable" (some 0) with
  accessFlags := 1537
  interfaces := #[]
  cf := some (fileOf pool7 1 #[] #[] 1537 3 #[] #[])
  fields := #[]
  methods := #[]
  instanceTypes := #[]
  staticTypes := #[]
  resolved := Array.replicate 11 none
  statics := none }

def pool8 : Array CpInfo := pool [(1, .class_ 2), (0, u "java/lang/constant/ConstantDesc"), (0, .class_ 4), (0, u "java/lang/Object")] 32

/-- java/lang/constant/ConstantDesc -/
def k8 : Class := { plain "java/lang/constant/ConstantDesc" (some 0) with
  accessFlags := 1537
  interfaces := #[]
  cf := some (fileOf pool8 1 #[] #[] 1537 3 #[] #[])
  fields := #[]
  methods := #[]
  instanceTypes := #[]
  staticTypes := #[]
  resolved := Array.replicate 37 none
  statics := none }

def pool9 : Array CpInfo := pool [(1, .class_ 2), (0, u "java/lang/Long"), (55, .nameAndType 59 60), (0, u "<init>"), (0, u "()V"), (24, u "valueOf"), (143, u "(J)Ljava/lang/Long;"), (0, .long 18446744073709551488), (1, .long 127), (1, .fieldref 235 236), (0, .class_ 237), (0, .nameAndType 238 239), (0, u "java/lang/Long$LongCache"), (0, u "cache"), (0, u "[Ljava/lang/Long;"), (0, .methodref 1 241), (0, .nameAndType 59 242), (0, u "(J)V"), (27, .methodref 271 58), (0, .class_ 272), (0, u "java/lang/Number"), (0, .fieldref 1 274), (0, .nameAndType 275 276), (0, u "value"), (0, u "J"), (84, u "TYPE"), (0, u "Ljava/lang/Class;"), (0, .class_ 364), (0, u "java/lang/Comparable"), (0, .class_ 366), (0, u "java/lang/constant/Constable"), (0, .class_ 368), (0, u "java/lang/constant/ConstantDesc"), (0, u "MIN_VALUE"), (1, u "MAX_VALUE"), (4, u "SIZE"), (0, u "I"), (1, u "BYTES"), (1, u "serialVersionUID")] 142

def k9c0 : Code := { maxStack := 4, maxLocals := 3, code := jdk_35_method_24_code, exceptionTable := #[], attributes := #[] }
def k9m0 : Method := { name := "valueOf", desc := "(J)Ljava/lang/Long;", sig := { parameters := [.long], returnType := some (.object "java/lang/Long") }, accessFlags := 9, code := some k9c0 }
def k9c1 : Code := { maxStack := 3, maxLocals := 3, code := jdk_35_method_26_code, exceptionTable := #[], attributes := #[] }
def k9m1 : Method := { name := "<init>", desc := "(J)V", sig := { parameters := [.long], returnType := none }, accessFlags := 1, code := some k9c1 }
/-- java/lang/Long -/
def k9 : Class := { plain "java/lang/Long" (some 5) with
  accessFlags := 49
  interfaces := #[6, 7, 8]
  cf := some (fileOf pool9 1 #[.nestMembers #[235]] #[{ accessFlags := 9, nameIndex := 85, descriptorIndex := 229, attributes := #[] }, { accessFlags := 1, nameIndex := 59, descriptorIndex := 242, attributes := #[] }] 49 271 #[363, 365, 367] #[{ accessFlags := 25, nameIndex := 369, descriptorIndex := 276, attributes := #[] }, { accessFlags := 25, nameIndex := 371, descriptorIndex := 276, attributes := #[] }, { accessFlags := 25, nameIndex := 361, descriptorIndex := 362, attributes := #[] }, { accessFlags := 18, nameIndex := 275, descriptorIndex := 276, attributes := #[] }, { accessFlags := 25, nameIndex := 376, descriptorIndex := 377, attributes := #[] }, { accessFlags := 25, nameIndex := 379, descriptorIndex := 377, attributes := #[] }, { accessFlags := 26, nameIndex := 381, descriptorIndex := 276, attributes := #[] }])
  fields := #[{ name := "MIN_VALUE", type := .long, accessFlags := 25, slot := 0, constantValue := 0 }, { name := "MAX_VALUE", type := .long, accessFlags := 25, slot := 1, constantValue := 0 }, { name := "TYPE", type := (.object "java/lang/Class"), accessFlags := 25, slot := 2, constantValue := 0 }, { name := "value", type := .long, accessFlags := 18, slot := 0, constantValue := 0 }, { name := "SIZE", type := .int, accessFlags := 25, slot := 3, constantValue := 0 }, { name := "BYTES", type := .int, accessFlags := 25, slot := 4, constantValue := 0 }, { name := "serialVersionUID", type := .long, accessFlags := 26, slot := 5, constantValue := 0 }]
  methods := #[k9m0, k9m1]
  instanceTypes := #[.long]
  staticTypes := #[.long, .long, (.object "java/lang/Class"), .int, .int, .long]
  resolved := Array.replicate 524 none
  statics := none }

def pool10 : Array CpInfo := pool [(2, .class_ 4), (1, u "java/lang/Object"), (0, u "<init>"), (0, u "()V"), (0, .class_ 8), (0, u "java/lang/Long"), (7, .class_ 18), (1, u "java/lang/Long$LongCache"), (0, u "$assertionsDisabled"), (0, u "Z"), (8, u "archivedCache"), (0, u "[Ljava/lang/Long;"), (7, u "cache")] 24

def k10m0 : Method := { name := "<init>", desc := "()V", sig := { parameters := [], returnType := none }, accessFlags := 2, code := none }
/-- java/lang/Long$LongCache -/
def k10 : Class := { plain "java/lang/Long$LongCache" (some 0) with
  accessFlags := 48
  interfaces := #[]
  cf := some (fileOf pool10 16 #[.nestHost 7] #[{ accessFlags := 2, nameIndex := 5, descriptorIndex := 6, attributes := #[] }] 48 2 #[] #[{ accessFlags := 24, nameIndex := 38, descriptorIndex := 30, attributes := #[] }, { accessFlags := 8, nameIndex := 29, descriptorIndex := 30, attributes := #[] }, { accessFlags := 4120, nameIndex := 19, descriptorIndex := 20, attributes := #[] }])
  fields := #[{ name := "cache", type := (.array (.object "java/lang/Long")), accessFlags := 24, slot := 0, constantValue := 0 }, { name := "archivedCache", type := (.array (.object "java/lang/Long")), accessFlags := 8, slot := 1, constantValue := 0 }, { name := "$assertionsDisabled", type := .boolean, accessFlags := 4120, slot := 2, constantValue := 0 }]
  methods := #[k10m0]
  instanceTypes := #[]
  staticTypes := #[(.array (.object "java/lang/Long")), (.array (.object "java/lang/Long")), .boolean]
  resolved := Array.replicate 63 none
  statics := some 0 }

def pool11 : Array CpInfo := pool [(1, u "java/lang/Cloneable"), (0, .class_ 1), (0, u "java/lang/Object"), (0, .class_ 3)] 3

/-- java/lang/Cloneable -/
def k11 : Class := { plain "java/lang/Cloneable" (some 0) with
  accessFlags := 1537
  interfaces := #[]
  cf := some (fileOf pool11 2 #[] #[] 1537 4 #[] #[])
  fields := #[]
  methods := #[]
  instanceTypes := #[]
  staticTypes := #[]
  resolved := Array.replicate 8 none
  statics := none }

/-- the primitive byte -/
def k12 : Class := { plain "byte" none with kind := .primitive 'B', accessFlags := 0x411 }
/-- [B -/
def k13 : Class := { plain "[B" (some 0) with kind := .array 12 .byte, interfaces := #[11, 4], accessFlags := 1041 }

/-- the primitive int -/
def k14 : Class := { plain "int" none with kind := .primitive 'I', accessFlags := 0x411 }
/-- [I -/
def k15 : Class := { plain "[I" (some 0) with kind := .array 14 .int, interfaces := #[11, 4], accessFlags := 1041 }

/-- [Ljava/lang/Long; -/
def k16 : Class := { plain "[Ljava/lang/Long;" (some 0) with kind := .array 9 (.object "java/lang/Long"), interfaces := #[11, 4], accessFlags := 1041 }

def heap : Heap := #[{ cls := 10, slots := #[.ref 1, .null, .int 0], vm := .statics 10 },
  { cls := 16, slots := #[.ref 2, .ref 3, .ref 4, .ref 5, .ref 6, .ref 7, .ref 8, .ref 9, .ref 10, .ref 11, .ref 12, .ref 13, .ref 14, .ref 15, .ref 16, .ref 17, .ref 18, .ref 19, .ref 20, .ref 21, .ref 22, .ref 23, .ref 24, .ref 25, .ref 26, .ref 27, .ref 28, .ref 29, .ref 30, .ref 31, .ref 32, .ref 33, .ref 34, .ref 35, .ref 36, .ref 37, .ref 38, .ref 39, .ref 40, .ref 41, .ref 42, .ref 43, .ref 44, .ref 45, .ref 46, .ref 47, .ref 48, .ref 49, .ref 50, .ref 51, .ref 52, .ref 53, .ref 54, .ref 55, .ref 56, .ref 57, .ref 58, .ref 59, .ref 60, .ref 61, .ref 62, .ref 63, .ref 64, .ref 65, .ref 66, .ref 67, .ref 68, .ref 69, .ref 70, .ref 71, .ref 72, .ref 73, .ref 74, .ref 75, .ref 76, .ref 77, .ref 78, .ref 79, .ref 80, .ref 81, .ref 82, .ref 83, .ref 84, .ref 85, .ref 86, .ref 87, .ref 88, .ref 89, .ref 90, .ref 91, .ref 92, .ref 93, .ref 94, .ref 95, .ref 96, .ref 97, .ref 98, .ref 99, .ref 100, .ref 101, .ref 102, .ref 103, .ref 104, .ref 105, .ref 106, .ref 107, .ref 108, .ref 109, .ref 110, .ref 111, .ref 112, .ref 113, .ref 114, .ref 115, .ref 116, .ref 117, .ref 118, .ref 119, .ref 120, .ref 121, .ref 122, .ref 123, .ref 124, .ref 125, .ref 126, .ref 127, .ref 128, .ref 129, .ref 130, .ref 131, .ref 132, .ref 133, .ref 134, .ref 135, .ref 136, .ref 137, .ref 138, .ref 139, .ref 140, .ref 141, .ref 142, .ref 143, .ref 144, .ref 145, .ref 146, .ref 147, .ref 148, .ref 149, .ref 150, .ref 151, .ref 152, .ref 153, .ref 154, .ref 155, .ref 156, .ref 157, .ref 158, .ref 159, .ref 160, .ref 161, .ref 162, .ref 163, .ref 164, .ref 165, .ref 166, .ref 167, .ref 168, .ref 169, .ref 170, .ref 171, .ref 172, .ref 173, .ref 174, .ref 175, .ref 176, .ref 177, .ref 178, .ref 179, .ref 180, .ref 181, .ref 182, .ref 183, .ref 184, .ref 185, .ref 186, .ref 187, .ref 188, .ref 189, .ref 190, .ref 191, .ref 192, .ref 193, .ref 194, .ref 195, .ref 196, .ref 197, .ref 198, .ref 199, .ref 200, .ref 201, .ref 202, .ref 203, .ref 204, .ref 205, .ref 206, .ref 207, .ref 208, .ref 209, .ref 210, .ref 211, .ref 212, .ref 213, .ref 214, .ref 215, .ref 216, .ref 217, .ref 218, .ref 219, .ref 220, .ref 221, .ref 222, .ref 223, .ref 224, .ref 225, .ref 226, .ref 227, .ref 228, .ref 229, .ref 230, .ref 231, .ref 232, .ref 233, .ref 234, .ref 235, .ref 236, .ref 237, .ref 238, .ref 239, .ref 240, .ref 241, .ref 242, .ref 243, .ref 244, .ref 245, .ref 246, .ref 247, .ref 248, .ref 249, .ref 250, .ref 251, .ref 252, .ref 253, .ref 254, .ref 255, .ref 256, .ref 257], vm := .none },
  { cls := 9, slots := #[.long (-128)], vm := .none },
  { cls := 9, slots := #[.long (-127)], vm := .none },
  { cls := 9, slots := #[.long (-126)], vm := .none },
  { cls := 9, slots := #[.long (-125)], vm := .none },
  { cls := 9, slots := #[.long (-124)], vm := .none },
  { cls := 9, slots := #[.long (-123)], vm := .none },
  { cls := 9, slots := #[.long (-122)], vm := .none },
  { cls := 9, slots := #[.long (-121)], vm := .none },
  { cls := 9, slots := #[.long (-120)], vm := .none },
  { cls := 9, slots := #[.long (-119)], vm := .none },
  { cls := 9, slots := #[.long (-118)], vm := .none },
  { cls := 9, slots := #[.long (-117)], vm := .none },
  { cls := 9, slots := #[.long (-116)], vm := .none },
  { cls := 9, slots := #[.long (-115)], vm := .none },
  { cls := 9, slots := #[.long (-114)], vm := .none },
  { cls := 9, slots := #[.long (-113)], vm := .none },
  { cls := 9, slots := #[.long (-112)], vm := .none },
  { cls := 9, slots := #[.long (-111)], vm := .none },
  { cls := 9, slots := #[.long (-110)], vm := .none },
  { cls := 9, slots := #[.long (-109)], vm := .none },
  { cls := 9, slots := #[.long (-108)], vm := .none },
  { cls := 9, slots := #[.long (-107)], vm := .none },
  { cls := 9, slots := #[.long (-106)], vm := .none },
  { cls := 9, slots := #[.long (-105)], vm := .none },
  { cls := 9, slots := #[.long (-104)], vm := .none },
  { cls := 9, slots := #[.long (-103)], vm := .none },
  { cls := 9, slots := #[.long (-102)], vm := .none },
  { cls := 9, slots := #[.long (-101)], vm := .none },
  { cls := 9, slots := #[.long (-100)], vm := .none },
  { cls := 9, slots := #[.long (-99)], vm := .none },
  { cls := 9, slots := #[.long (-98)], vm := .none },
  { cls := 9, slots := #[.long (-97)], vm := .none },
  { cls := 9, slots := #[.long (-96)], vm := .none },
  { cls := 9, slots := #[.long (-95)], vm := .none },
  { cls := 9, slots := #[.long (-94)], vm := .none },
  { cls := 9, slots := #[.long (-93)], vm := .none },
  { cls := 9, slots := #[.long (-92)], vm := .none },
  { cls := 9, slots := #[.long (-91)], vm := .none },
  { cls := 9, slots := #[.long (-90)], vm := .none },
  { cls := 9, slots := #[.long (-89)], vm := .none },
  { cls := 9, slots := #[.long (-88)], vm := .none },
  { cls := 9, slots := #[.long (-87)], vm := .none },
  { cls := 9, slots := #[.long (-86)], vm := .none },
  { cls := 9, slots := #[.long (-85)], vm := .none },
  { cls := 9, slots := #[.long (-84)], vm := .none },
  { cls := 9, slots := #[.long (-83)], vm := .none },
  { cls := 9, slots := #[.long (-82)], vm := .none },
  { cls := 9, slots := #[.long (-81)], vm := .none },
  { cls := 9, slots := #[.long (-80)], vm := .none },
  { cls := 9, slots := #[.long (-79)], vm := .none },
  { cls := 9, slots := #[.long (-78)], vm := .none },
  { cls := 9, slots := #[.long (-77)], vm := .none },
  { cls := 9, slots := #[.long (-76)], vm := .none },
  { cls := 9, slots := #[.long (-75)], vm := .none },
  { cls := 9, slots := #[.long (-74)], vm := .none },
  { cls := 9, slots := #[.long (-73)], vm := .none },
  { cls := 9, slots := #[.long (-72)], vm := .none },
  { cls := 9, slots := #[.long (-71)], vm := .none },
  { cls := 9, slots := #[.long (-70)], vm := .none },
  { cls := 9, slots := #[.long (-69)], vm := .none },
  { cls := 9, slots := #[.long (-68)], vm := .none },
  { cls := 9, slots := #[.long (-67)], vm := .none },
  { cls := 9, slots := #[.long (-66)], vm := .none },
  { cls := 9, slots := #[.long (-65)], vm := .none },
  { cls := 9, slots := #[.long (-64)], vm := .none },
  { cls := 9, slots := #[.long (-63)], vm := .none },
  { cls := 9, slots := #[.long (-62)], vm := .none },
  { cls := 9, slots := #[.long (-61)], vm := .none },
  { cls := 9, slots := #[.long (-60)], vm := .none },
  { cls := 9, slots := #[.long (-59)], vm := .none },
  { cls := 9, slots := #[.long (-58)], vm := .none },
  { cls := 9, slots := #[.long (-57)], vm := .none },
  { cls := 9, slots := #[.long (-56)], vm := .none },
  { cls := 9, slots := #[.long (-55)], vm := .none },
  { cls := 9, slots := #[.long (-54)], vm := .none },
  { cls := 9, slots := #[.long (-53)], vm := .none },
  { cls := 9, slots := #[.long (-52)], vm := .none },
  { cls := 9, slots := #[.long (-51)], vm := .none },
  { cls := 9, slots := #[.long (-50)], vm := .none },
  { cls := 9, slots := #[.long (-49)], vm := .none },
  { cls := 9, slots := #[.long (-48)], vm := .none },
  { cls := 9, slots := #[.long (-47)], vm := .none },
  { cls := 9, slots := #[.long (-46)], vm := .none },
  { cls := 9, slots := #[.long (-45)], vm := .none },
  { cls := 9, slots := #[.long (-44)], vm := .none },
  { cls := 9, slots := #[.long (-43)], vm := .none },
  { cls := 9, slots := #[.long (-42)], vm := .none },
  { cls := 9, slots := #[.long (-41)], vm := .none },
  { cls := 9, slots := #[.long (-40)], vm := .none },
  { cls := 9, slots := #[.long (-39)], vm := .none },
  { cls := 9, slots := #[.long (-38)], vm := .none },
  { cls := 9, slots := #[.long (-37)], vm := .none },
  { cls := 9, slots := #[.long (-36)], vm := .none },
  { cls := 9, slots := #[.long (-35)], vm := .none },
  { cls := 9, slots := #[.long (-34)], vm := .none },
  { cls := 9, slots := #[.long (-33)], vm := .none },
  { cls := 9, slots := #[.long (-32)], vm := .none },
  { cls := 9, slots := #[.long (-31)], vm := .none },
  { cls := 9, slots := #[.long (-30)], vm := .none },
  { cls := 9, slots := #[.long (-29)], vm := .none },
  { cls := 9, slots := #[.long (-28)], vm := .none },
  { cls := 9, slots := #[.long (-27)], vm := .none },
  { cls := 9, slots := #[.long (-26)], vm := .none },
  { cls := 9, slots := #[.long (-25)], vm := .none },
  { cls := 9, slots := #[.long (-24)], vm := .none },
  { cls := 9, slots := #[.long (-23)], vm := .none },
  { cls := 9, slots := #[.long (-22)], vm := .none },
  { cls := 9, slots := #[.long (-21)], vm := .none },
  { cls := 9, slots := #[.long (-20)], vm := .none },
  { cls := 9, slots := #[.long (-19)], vm := .none },
  { cls := 9, slots := #[.long (-18)], vm := .none },
  { cls := 9, slots := #[.long (-17)], vm := .none },
  { cls := 9, slots := #[.long (-16)], vm := .none },
  { cls := 9, slots := #[.long (-15)], vm := .none },
  { cls := 9, slots := #[.long (-14)], vm := .none },
  { cls := 9, slots := #[.long (-13)], vm := .none },
  { cls := 9, slots := #[.long (-12)], vm := .none },
  { cls := 9, slots := #[.long (-11)], vm := .none },
  { cls := 9, slots := #[.long (-10)], vm := .none },
  { cls := 9, slots := #[.long (-9)], vm := .none },
  { cls := 9, slots := #[.long (-8)], vm := .none },
  { cls := 9, slots := #[.long (-7)], vm := .none },
  { cls := 9, slots := #[.long (-6)], vm := .none },
  { cls := 9, slots := #[.long (-5)], vm := .none },
  { cls := 9, slots := #[.long (-4)], vm := .none },
  { cls := 9, slots := #[.long (-3)], vm := .none },
  { cls := 9, slots := #[.long (-2)], vm := .none },
  { cls := 9, slots := #[.long (-1)], vm := .none },
  { cls := 9, slots := #[.long (0)], vm := .none },
  { cls := 9, slots := #[.long (1)], vm := .none },
  { cls := 9, slots := #[.long (2)], vm := .none },
  { cls := 9, slots := #[.long (3)], vm := .none },
  { cls := 9, slots := #[.long (4)], vm := .none },
  { cls := 9, slots := #[.long (5)], vm := .none },
  { cls := 9, slots := #[.long (6)], vm := .none },
  { cls := 9, slots := #[.long (7)], vm := .none },
  { cls := 9, slots := #[.long (8)], vm := .none },
  { cls := 9, slots := #[.long (9)], vm := .none },
  { cls := 9, slots := #[.long (10)], vm := .none },
  { cls := 9, slots := #[.long (11)], vm := .none },
  { cls := 9, slots := #[.long (12)], vm := .none },
  { cls := 9, slots := #[.long (13)], vm := .none },
  { cls := 9, slots := #[.long (14)], vm := .none },
  { cls := 9, slots := #[.long (15)], vm := .none },
  { cls := 9, slots := #[.long (16)], vm := .none },
  { cls := 9, slots := #[.long (17)], vm := .none },
  { cls := 9, slots := #[.long (18)], vm := .none },
  { cls := 9, slots := #[.long (19)], vm := .none },
  { cls := 9, slots := #[.long (20)], vm := .none },
  { cls := 9, slots := #[.long (21)], vm := .none },
  { cls := 9, slots := #[.long (22)], vm := .none },
  { cls := 9, slots := #[.long (23)], vm := .none },
  { cls := 9, slots := #[.long (24)], vm := .none },
  { cls := 9, slots := #[.long (25)], vm := .none },
  { cls := 9, slots := #[.long (26)], vm := .none },
  { cls := 9, slots := #[.long (27)], vm := .none },
  { cls := 9, slots := #[.long (28)], vm := .none },
  { cls := 9, slots := #[.long (29)], vm := .none },
  { cls := 9, slots := #[.long (30)], vm := .none },
  { cls := 9, slots := #[.long (31)], vm := .none },
  { cls := 9, slots := #[.long (32)], vm := .none },
  { cls := 9, slots := #[.long (33)], vm := .none },
  { cls := 9, slots := #[.long (34)], vm := .none },
  { cls := 9, slots := #[.long (35)], vm := .none },
  { cls := 9, slots := #[.long (36)], vm := .none },
  { cls := 9, slots := #[.long (37)], vm := .none },
  { cls := 9, slots := #[.long (38)], vm := .none },
  { cls := 9, slots := #[.long (39)], vm := .none },
  { cls := 9, slots := #[.long (40)], vm := .none },
  { cls := 9, slots := #[.long (41)], vm := .none },
  { cls := 9, slots := #[.long (42)], vm := .none },
  { cls := 9, slots := #[.long (43)], vm := .none },
  { cls := 9, slots := #[.long (44)], vm := .none },
  { cls := 9, slots := #[.long (45)], vm := .none },
  { cls := 9, slots := #[.long (46)], vm := .none },
  { cls := 9, slots := #[.long (47)], vm := .none },
  { cls := 9, slots := #[.long (48)], vm := .none },
  { cls := 9, slots := #[.long (49)], vm := .none },
  { cls := 9, slots := #[.long (50)], vm := .none },
  { cls := 9, slots := #[.long (51)], vm := .none },
  { cls := 9, slots := #[.long (52)], vm := .none },
  { cls := 9, slots := #[.long (53)], vm := .none },
  { cls := 9, slots := #[.long (54)], vm := .none },
  { cls := 9, slots := #[.long (55)], vm := .none },
  { cls := 9, slots := #[.long (56)], vm := .none },
  { cls := 9, slots := #[.long (57)], vm := .none },
  { cls := 9, slots := #[.long (58)], vm := .none },
  { cls := 9, slots := #[.long (59)], vm := .none },
  { cls := 9, slots := #[.long (60)], vm := .none },
  { cls := 9, slots := #[.long (61)], vm := .none },
  { cls := 9, slots := #[.long (62)], vm := .none },
  { cls := 9, slots := #[.long (63)], vm := .none },
  { cls := 9, slots := #[.long (64)], vm := .none },
  { cls := 9, slots := #[.long (65)], vm := .none },
  { cls := 9, slots := #[.long (66)], vm := .none },
  { cls := 9, slots := #[.long (67)], vm := .none },
  { cls := 9, slots := #[.long (68)], vm := .none },
  { cls := 9, slots := #[.long (69)], vm := .none },
  { cls := 9, slots := #[.long (70)], vm := .none },
  { cls := 9, slots := #[.long (71)], vm := .none },
  { cls := 9, slots := #[.long (72)], vm := .none },
  { cls := 9, slots := #[.long (73)], vm := .none },
  { cls := 9, slots := #[.long (74)], vm := .none },
  { cls := 9, slots := #[.long (75)], vm := .none },
  { cls := 9, slots := #[.long (76)], vm := .none },
  { cls := 9, slots := #[.long (77)], vm := .none },
  { cls := 9, slots := #[.long (78)], vm := .none },
  { cls := 9, slots := #[.long (79)], vm := .none },
  { cls := 9, slots := #[.long (80)], vm := .none },
  { cls := 9, slots := #[.long (81)], vm := .none },
  { cls := 9, slots := #[.long (82)], vm := .none },
  { cls := 9, slots := #[.long (83)], vm := .none },
  { cls := 9, slots := #[.long (84)], vm := .none },
  { cls := 9, slots := #[.long (85)], vm := .none },
  { cls := 9, slots := #[.long (86)], vm := .none },
  { cls := 9, slots := #[.long (87)], vm := .none },
  { cls := 9, slots := #[.long (88)], vm := .none },
  { cls := 9, slots := #[.long (89)], vm := .none },
  { cls := 9, slots := #[.long (90)], vm := .none },
  { cls := 9, slots := #[.long (91)], vm := .none },
  { cls := 9, slots := #[.long (92)], vm := .none },
  { cls := 9, slots := #[.long (93)], vm := .none },
  { cls := 9, slots := #[.long (94)], vm := .none },
  { cls := 9, slots := #[.long (95)], vm := .none },
  { cls := 9, slots := #[.long (96)], vm := .none },
  { cls := 9, slots := #[.long (97)], vm := .none },
  { cls := 9, slots := #[.long (98)], vm := .none },
  { cls := 9, slots := #[.long (99)], vm := .none },
  { cls := 9, slots := #[.long (100)], vm := .none },
  { cls := 9, slots := #[.long (101)], vm := .none },
  { cls := 9, slots := #[.long (102)], vm := .none },
  { cls := 9, slots := #[.long (103)], vm := .none },
  { cls := 9, slots := #[.long (104)], vm := .none },
  { cls := 9, slots := #[.long (105)], vm := .none },
  { cls := 9, slots := #[.long (106)], vm := .none },
  { cls := 9, slots := #[.long (107)], vm := .none },
  { cls := 9, slots := #[.long (108)], vm := .none },
  { cls := 9, slots := #[.long (109)], vm := .none },
  { cls := 9, slots := #[.long (110)], vm := .none },
  { cls := 9, slots := #[.long (111)], vm := .none },
  { cls := 9, slots := #[.long (112)], vm := .none },
  { cls := 9, slots := #[.long (113)], vm := .none },
  { cls := 9, slots := #[.long (114)], vm := .none },
  { cls := 9, slots := #[.long (115)], vm := .none },
  { cls := 9, slots := #[.long (116)], vm := .none },
  { cls := 9, slots := #[.long (117)], vm := .none },
  { cls := 9, slots := #[.long (118)], vm := .none },
  { cls := 9, slots := #[.long (119)], vm := .none },
  { cls := 9, slots := #[.long (120)], vm := .none },
  { cls := 9, slots := #[.long (121)], vm := .none },
  { cls := 9, slots := #[.long (122)], vm := .none },
  { cls := 9, slots := #[.long (123)], vm := .none },
  { cls := 9, slots := #[.long (124)], vm := .none },
  { cls := 9, slots := #[.long (125)], vm := .none },
  { cls := 9, slots := #[.long (126)], vm := .none },
  { cls := 9, slots := #[.long (127)], vm := .none }]
def classes : Array Class := #[k0, k1, k2, k3, k4, k5, k6, k7, k8, k9, k10, k11, k12, k13, k14, k15, k16]
def interned : List (Array UInt16 × Addr) := []
def slotsUsed : Nat := 515
def theMethod : MethodId := ⟨1, 1⟩
def args0 : Array Value := #[.int 5, .int 5, .int 0, .long 7, .long 7]
def aboutOver (below : List Frame) : State where
  vm := { classes := classes, interned := interned.toArray }
  heap := heap
  slotsUsed := slotsUsed
  threads := #[{ frames := .invoking theMethod args0 :: below }]
def below0 : List Frame := [.native { method := ⟨0, 0⟩, args := #[] }]
def about1 : State := aboutOver below0
def p0 : Program := .bare "" "" ""
def e0 : Env := launch0.env 0 0 0
theorem w_frames : about1.frames = Frame.invoking theMethod args0 :: below0 := rfl
set_option maxRecDepth 65536 in
theorem w_args : argsFit about1.vm theMethod args0 = true := by decide +kernel
set_option maxRecDepth 65536 in
theorem w_heap : heapFits about1 = true := by decide +kernel
set_option maxRecDepth 65536 in
theorem w_runnable : about1.curStatus? = some .runnable := by decide +kernel
set_option maxRecDepth 65536 in
theorem w_alone : about1.alone = true := by decide +kernel
set_option maxRecDepth 65536 in
theorem w_named : about1.methodNamed? x = some theMethod := by decide +kernel
set_option maxRecDepth 65536 in
theorem w_hears : about1.hears theMethod below0 = true := by decide +kernel
set_option maxRecDepth 65536 in
theorem w_ripe : about1.ripe theMethod args0 below0 = true := by decide +kernel
theorem w_running : about1.status = .running := rfl
set_option maxRecDepth 65536 in
theorem w_room : about1.hasRoom e0.platform room_1 = true :=
  launch0.hasRoom_least _ room_1 (by decide +kernel) (by decide +kernel) (by decide +kernel) (by decide +kernel) (by decide +kernel) (by decide +kernel)
theorem allAtoms_all (ts : List Jvm.Cond) (a : Array Jvm.Value) (st : Jvm.State) : (allAtoms ts).before a st = ts.all (fun c => c.before a st) := by
  induction ts with
  | nil => rfl
  | cons c t ih =>
    show (Jvm.Cond.and c (allAtoms t)).before a st = _
    rw [Jvm.Cond.before_and, ih, List.all_cons]
def words1 : List Jvm.Cond := Jvm.Cond.code x code maxLocals ret :: tables_1
/-- a 'code' word, met by the world's own term for the bytes: nothing is compared byte by byte -/
theorem code_word {y : MethodName} {bytes : ByteArray} {mx : Nat} {rt : Option FieldType} {a : Array Value} {s : State} {m : MethodId} {meth : Method} {c : Code} (h1 : s.methodNamed? y = some m) (h2 : s.vm.method? m = some meth) (h3 : meth.code = some c) (h4 : c.code = bytes)
    (h5 : (c.maxLocals == mx && c.exceptionTable.isEmpty && decide (c.maxStack ≤ mostOperands) && decide (meth.sig.returnType = rt) && !meth.locks && decide (parseMethodDescriptor y.desc = some meth.sig)) = true) : (Jvm.Cond.code y bytes mx rt).before a s = true := by
  simp only [Bool.and_eq_true, beq_iff_eq, Bool.not_eq_true', decide_eq_true_eq] at h5
  obtain ⟨⟨⟨⟨⟨g1, g2⟩, g3⟩, g4⟩, g5⟩, g6⟩ := h5
  simp [Cond.before, Cond.holds, Cond.value, h1, h2, h3, h4, g1, g2, g3, g4, g5, g6]
def isCode : Jvm.Cond → Bool
  | .code _ _ _ _ => true
  | _ => false
theorem all_split {L : List Jvm.Cond} {P : Jvm.Cond → Bool} (h1 : L.all (fun c => isCode c || P c) = true) (h2 : ∀ c ∈ L.filter isCode, P c = true) : L.all P = true := by
  refine List.all_eq_true.mpr fun c hc => ?_
  have h := List.all_eq_true.mp h1 c hc
  rcases Bool.eq_false_or_eq_true (isCode c) with hi | hi
  · exact h2 c (List.mem_filter.mpr ⟨hc, hi⟩)
  · simpa [hi] using h
set_option maxRecDepth 65536 in
theorem w_c0 : (Jvm.Cond.code x code maxLocals ret).before args0 about1 = true := code_word (m := ⟨1, 1⟩) (meth := k1m1) (c := k1c1) (by decide +kernel) rfl rfl rfl (by decide +kernel)
set_option maxRecDepth 65536 in
theorem w_c1 : (Jvm.Cond.code ({ cls := "com/example/lease/lease/service/BenchFigures", name := "<init>", desc := "(IILjava/lang/Long;Ljava/lang/Long;Ljava/lang/Long;Ljava/lang/Long;)V" } : Jvm.MethodName) prog_28_method_1_code (7 : Nat) (Option.none : Option Jvm.ClassFile.FieldType)).before args0 about1 = true := code_word (m := ⟨3, 0⟩) (meth := k3m0) (c := k3c0) (by decide +kernel) rfl rfl rfl (by decide +kernel)
set_option maxRecDepth 65536 in
theorem w_c2 : (Jvm.Cond.code ({ cls := "java/lang/Record", name := "<init>", desc := "()V" } : Jvm.MethodName) jdk_30_method_1_code (1 : Nat) (Option.none : Option Jvm.ClassFile.FieldType)).before args0 about1 = true := code_word (m := ⟨2, 0⟩) (meth := k2m0) (c := k2c0) (by decide +kernel) rfl rfl rfl (by decide +kernel)
set_option maxRecDepth 65536 in
theorem w_c3 : (Jvm.Cond.code ({ cls := "java/lang/Object", name := "<init>", desc := "()V" } : Jvm.MethodName) object_method_1_code (1 : Nat) (Option.none : Option Jvm.ClassFile.FieldType)).before args0 about1 = true := code_word (m := ⟨0, 0⟩) (meth := k0m0) (c := k0c0) (by decide +kernel) rfl rfl rfl (by decide +kernel)
set_option maxRecDepth 65536 in
theorem w_c4 : (Jvm.Cond.code ({ cls := "com/example/lease/lease/service/BenchFigures", name := "allSucceeded", desc := "()Z" } : Jvm.MethodName) prog_28_method_3_code (1 : Nat) (Option.some Jvm.ClassFile.FieldType.boolean)).before args0 about1 = true := code_word (m := ⟨3, 1⟩) (meth := k3m1) (c := k3c1) (by decide +kernel) rfl rfl rfl (by decide +kernel)
set_option maxRecDepth 65536 in
theorem w_c5 : (Jvm.Cond.code ({ cls := "java/lang/Long", name := "valueOf", desc := "(J)Ljava/lang/Long;" } : Jvm.MethodName) jdk_35_method_24_code (3 : Nat) (Option.some (Jvm.ClassFile.FieldType.object "java/lang/Long"))).before args0 about1 = true := code_word (m := ⟨9, 0⟩) (meth := k9m0) (c := k9c0) (by decide +kernel) rfl rfl rfl (by decide +kernel)
set_option maxRecDepth 65536 in
theorem w_c6 : (Jvm.Cond.code ({ cls := "java/lang/Long", name := "<init>", desc := "(J)V" } : Jvm.MethodName) jdk_35_method_26_code (3 : Nat) (Option.none : Option Jvm.ClassFile.FieldType)).before args0 about1 = true := code_word (m := ⟨9, 1⟩) (meth := k9m1) (c := k9c1) (by decide +kernel) rfl rfl rfl (by decide +kernel)
set_option maxRecDepth 65536 in
theorem w_c7 : (Jvm.Cond.code ({ cls := "java/lang/Number", name := "<init>", desc := "()V" } : Jvm.MethodName) jdk_18_method_1_code (1 : Nat) (Option.none : Option Jvm.ClassFile.FieldType)).before args0 about1 = true := code_word (m := ⟨5, 0⟩) (meth := k5m0) (c := k5c0) (by decide +kernel) rfl rfl rfl (by decide +kernel)
def codes1 : List Jvm.Cond := [Jvm.Cond.code x code maxLocals ret, Jvm.Cond.code ({ cls := "com/example/lease/lease/service/BenchFigures", name := "<init>", desc := "(IILjava/lang/Long;Ljava/lang/Long;Ljava/lang/Long;Ljava/lang/Long;)V" } : Jvm.MethodName) prog_28_method_1_code (7 : Nat) (Option.none : Option Jvm.ClassFile.FieldType), Jvm.Cond.code ({ cls := "java/lang/Record", name := "<init>", desc := "()V" } : Jvm.MethodName) jdk_30_method_1_code (1 : Nat) (Option.none : Option Jvm.ClassFile.FieldType), Jvm.Cond.code ({ cls := "java/lang/Object", name := "<init>", desc := "()V" } : Jvm.MethodName) object_method_1_code (1 : Nat) (Option.none : Option Jvm.ClassFile.FieldType), Jvm.Cond.code ({ cls := "com/example/lease/lease/service/BenchFigures", name := "allSucceeded", desc := "()Z" } : Jvm.MethodName) prog_28_method_3_code (1 : Nat) (Option.some Jvm.ClassFile.FieldType.boolean), Jvm.Cond.code ({ cls := "java/lang/Long", name := "valueOf", desc := "(J)Ljava/lang/Long;" } : Jvm.MethodName) jdk_35_method_24_code (3 : Nat) (Option.some (Jvm.ClassFile.FieldType.object "java/lang/Long")), Jvm.Cond.code ({ cls := "java/lang/Long", name := "<init>", desc := "(J)V" } : Jvm.MethodName) jdk_35_method_26_code (3 : Nat) (Option.none : Option Jvm.ClassFile.FieldType), Jvm.Cond.code ({ cls := "java/lang/Number", name := "<init>", desc := "()V" } : Jvm.MethodName) jdk_18_method_1_code (1 : Nat) (Option.none : Option Jvm.ClassFile.FieldType)]
set_option maxRecDepth 65536 in
theorem codes_eq : words1.filter isCode = codes1 := rfl
theorem w_codes : ∀ c ∈ words1.filter isCode, c.before args0 about1 = true := by
  rw [codes_eq]
  intro c hc
  simp only [codes1, List.mem_cons, List.not_mem_nil, or_false] at hc
  rcases hc with rfl | rfl | rfl | rfl | rfl | rfl | rfl | rfl
  · exact w_c0
  · exact w_c1
  · exact w_c2
  · exact w_c3
  · exact w_c4
  · exact w_c5
  · exact w_c6
  · exact w_c7
set_option maxRecDepth 65536 in
theorem w_t1 : (words1.take 24).all (fun c => isCode c || c.before args0 about1) = true := by decide +kernel
set_option maxRecDepth 65536 in
theorem w_t2 : ((words1.drop 24).take 24).all (fun c => isCode c || c.before args0 about1) = true := by decide +kernel
set_option maxRecDepth 65536 in
theorem w_t3 : ((words1.drop 24).drop 24).all (fun c => isCode c || c.before args0 about1) = true := by decide +kernel
theorem w_tables : (allAtoms (Jvm.Cond.code x code maxLocals ret :: tables_1)).before args0 about1 = true := by
  rw [allAtoms_all]
  show words1.all (fun c => c.before args0 about1) = true
  refine all_split ?_ w_codes
  rw [← List.take_append_drop 24 words1, List.all_append, w_t1, ← List.take_append_drop 24 (words1.drop 24), List.all_append, w_t2, w_t3]
  rfl
set_option maxRecDepth 65536 in
theorem w_rest : rest_1_c.before args0 about1 = true := by decide +kernel
set_option maxRecDepth 65536 in
theorem w_case : (Jvm.Cond.and given_1 narrow_1).before args0 about1 = true := by decide +kernel
theorem w_applies : (headSpec (Jvm.Cond.code x code maxLocals ret :: tables_1) room_1).applies x e0.platform about1 = true :=
  (Spec.applies_iff w_frames).mpr ⟨w_running, w_runnable, w_alone, w_named, w_hears, w_ripe, w_room, w_tables⟩
theorem atStart : AtStart classFile x code maxLocals ret World_1 tables_1 room_1 Calls_1 rest_1 Pre_1 launch0 p0 e0 about1 theMethod args0 below0 :=
  ⟨lists_1, trivial, launch0.admits_env _ _ _, launch0.least_env, fairChoices_fair.cas, fairChoices_fair.clock, w_frames, w_args, w_heap, w_applies, trivial, w_rest, w_case⟩
end start1
theorem witness_1 : WitnessClaimed_1 := ⟨start1.p0, start1.e0, start1.about1, start1.theMethod, start1.args0, start1.below0, start1.atStart⟩
end Jvm.Pilot.@@N@@
